import PyProof.Rows.All
import PyProof.StrLawsOcc
import PyProof.GenCompD
import PyProof.Rows.GenRowsF
import KE.KLam
import Wide.FinOn
import OpenK.AllK
import Wide.All
import PySem.Challenge.RW_in0050_01
open PySem PySem.W PyProof.Rows
set_option Elab.async false
set_option maxRecDepth 100000
set_option maxHeartbeats 8000000
set_option linter.unusedVariables false
set_option linter.unusedSimpArgs false
set_option linter.constructorNameAsVariable false
set_option compiler.extract_closed false
namespace Q50
section -- QCore
/-- plain data that a Python value stands for -/
inductive D where
  | none | bool (b : Bool) | int (i : Int) | str (s : Str) | tup (l : List D) | lst (l : List D) | opq (v : Value) | ref (k : Nat)

noncomputable abbrev Facts := Addr → Obj → Prop

mutual
inductive R (P : Facts) (φ : List Addr) : Value → D → Prop
  | none : R P φ .none .none
  | bool (b : Bool) : R P φ (.bool b) (.bool b)
  | int (i : Int) (t : Tok) : R P φ (.int i t) (.int i)
  | str (x : Str) (t : Tok) : R P φ (.str x t) (.str x)
  | tup {a : Addr} {o : Obj} {vs : Array Value} {n : Nat} {ds : List D} : P a o → o.cls = .type "tuple" → o.data = .seq vs n → Rs P φ vs.toList ds → R P φ (.ref a) (.tup ds)
  | lst {a : Addr} {o : Obj} {vs : Array Value} {n : Nat} {ds : List D} : P a o → o.cls = .type "list" → o.data = .seq vs n → Rs P φ vs.toList ds → R P φ (.ref a) (.lst ds)
  | opq (v : Value) : R P φ v (.opq v)
  | ref {a : Addr} {k : Nat} : φ[k]? = some a → R P φ (.ref a) (.ref k)
inductive Rs (P : Facts) (φ : List Addr) : List Value → List D → Prop
  | nil : Rs P φ [] []
  | cons {v : Value} {d : D} {vs : List Value} {ds : List D} : R P φ v d → Rs P φ vs ds → Rs P φ (v :: vs) (d :: ds)
end

noncomputable def R.Inv (P : Facts) (φ : List Addr) : D → Value → Prop
  | .none, v => v = .none
  | .bool b, v => v = .bool b
  | .int i, v => ∃ t, v = .int i t
  | .str x, v => ∃ t, v = .str x t
  | .opq w, v => v = w
  | .ref k, v => ∃ a, v = .ref a ∧ φ[k]? = some a
  | .tup ds, v => ∃ a o vs n, v = .ref a ∧ P a o ∧ o.cls = .type "tuple" ∧ o.data = .seq vs n ∧ Rs P φ vs.toList ds
  | .lst ds, v => ∃ a o vs n, v = .ref a ∧ P a o ∧ o.cls = .type "list" ∧ o.data = .seq vs n ∧ Rs P φ vs.toList ds
/-- what a value that stands for d looks like -/
theorem R.inv {P : Facts} {φ : List Addr} {v : Value} {d : D} (h : R P φ v d) : R.Inv P φ d v := by
  cases h with
  | none => exact rfl
  | bool => exact rfl
  | int i t => exact ⟨t, rfl⟩
  | str x t => exact ⟨t, rfl⟩
  | opq => exact rfl
  | ref e => exact ⟨_, rfl, e⟩
  | tup a b c d => exact ⟨_, _, _, _, rfl, a, b, c, d⟩
  | lst a b c d => exact ⟨_, _, _, _, rfl, a, b, c, d⟩
noncomputable def Rs.Inv (P : Facts) (φ : List Addr) : List D → List Value → Prop
  | [], vs => vs = []
  | d :: ds, vs => ∃ v r, vs = v :: r ∧ R P φ v d ∧ Rs P φ r ds
theorem Rs.inv {P : Facts} {φ : List Addr} {vs : List Value} {ds : List D} (h : Rs P φ vs ds) : Rs.Inv P φ ds vs := by
  cases h with
  | nil => exact rfl
  | cons a b => exact ⟨_, _, rfl, a, b⟩

noncomputable abbrev Le (P P' : Facts) : Prop := ∀ a o, P a o → P' a o

theorem pre_at {φ φ' : List Addr} (hf : φ <+: φ') {k : Nat} {a : Addr} (h : φ[k]? = some a) : φ'[k]? = some a := by
  obtain ⟨t, rfl⟩ := hf; rw [List.getElem?_append_left]; exact h; exact (List.getElem?_eq_some_iff.mp h).1
theorem R.mono {P P' : Facts} {φ φ' : List Addr} (hp : Le P P') (hf : φ <+: φ') {v : Value} {d : D} (h : R P φ v d) : R P' φ' v d :=
  R.rec (motive_1 := fun v d _ => R P' φ' v d) (motive_2 := fun vs ds _ => Rs P' φ' vs ds) .none .bool .int .str (fun h1 h2 h3 _ ih => .tup (hp _ _ h1) h2 h3 ih)
    (fun h1 h2 h3 _ ih => .lst (hp _ _ h1) h2 h3 ih) .opq (fun e => .ref (pre_at hf e)) .nil (fun _ _ h1 h2 => .cons h1 h2) h
theorem Rs.mono {P P' : Facts} {φ φ' : List Addr} (hp : Le P P') (hf : φ <+: φ') {v : List Value} {d : List D} (h : Rs P φ v d) : Rs P' φ' v d :=
  Rs.rec (motive_1 := fun v d _ => R P' φ' v d) (motive_2 := fun vs ds _ => Rs P' φ' vs ds) .none .bool .int .str (fun h1 h2 h3 _ ih => .tup (hp _ _ h1) h2 h3 ih)
    (fun h1 h2 h3 _ ih => .lst (hp _ _ h1) h2 h3 ih) .opq (fun e => .ref (pre_at hf e)) .nil (fun _ _ h1 h2 => .cons h1 h2) h
/-- by the list alone -/
theorem Rs.ind {P : Facts} {φ : List Addr} {M : List Value → List D → Prop} (h0 : M [] []) (h1 : ∀ v d vs ds, R P φ v d → Rs P φ vs ds → M vs ds → M (v :: vs) (d :: ds)) : ∀ {ds : List D} {vs : List Value}, Rs P φ vs ds → M vs ds
  | [], _, h => by have e : _ = _ := h.inv; rw [e]; exact h0
  | _ :: _, _, h => by obtain ⟨v, r, e, a, b⟩ := h.inv; rw [e]; exact h1 _ _ _ _ a b (Rs.ind h0 h1 b)
theorem Rs.length {P : Facts} {φ : List Addr} {vs : List Value} {ds : List D} (h : Rs P φ vs ds) : vs.length = ds.length :=
  h.ind (M := fun vs ds => vs.length = ds.length) rfl fun _ _ _ _ _ _ e => congrArg Nat.succ e
theorem Rs.get {P : Facts} {φ : List Addr} {vs : List Value} {ds : List D} (h : Rs P φ vs ds) : ∀ {i : Nat} {d : D}, ds[i]? = some d → ∃ v, vs[i]? = some v ∧ R P φ v d :=
  h.ind (M := fun vs ds => ∀ {i : Nat} {d : D}, ds[i]? = some d → ∃ v, vs[i]? = some v ∧ R P φ v d) (fun e => nomatch e) fun v d vs ds a _ ih {i} {d'} e =>
    match i, e with
    | 0, e => ⟨v, rfl, Option.some.inj e ▸ a⟩
    | _ + 1, e => ih e
theorem Rs.append {P : Facts} {φ : List Addr} {vs ws : List Value} {ds es : List D} (h : Rs P φ vs ds) (h' : Rs P φ ws es) : Rs P φ (vs ++ ws) (ds ++ es) :=
  h.ind (M := fun vs ds => Rs P φ (vs ++ ws) (ds ++ es)) h' fun _ _ _ _ a _ ih => .cons a ih
theorem Rs.snoc {P : Facts} {φ : List Addr} {vs : List Value} {ds : List D} {v : Value} {d : D} (h : Rs P φ vs ds) (h' : R P φ v d) : Rs P φ (vs ++ [v]) (ds ++ [d]) := h.append (.cons h' .nil)
theorem Rs.take {P : Facts} {φ : List Addr} {vs : List Value} {ds : List D} (n : Nat) (h : Rs P φ vs ds) : Rs P φ (vs.take n) (ds.take n) :=
  h.ind (M := fun vs ds => ∀ n, Rs P φ (vs.take n) (ds.take n)) (fun n => by rw [List.take_nil, List.take_nil]; exact .nil) (fun _ _ _ _ a _ ih n => match n with | 0 => .nil | n + 1 => .cons a (ih n)) n
theorem Rs.drop {P : Facts} {φ : List Addr} {vs : List Value} {ds : List D} (n : Nat) (h : Rs P φ vs ds) : Rs P φ (vs.drop n) (ds.drop n) :=
  h.ind (M := fun vs ds => ∀ n, Rs P φ (vs.drop n) (ds.drop n)) (fun n => by rw [List.drop_nil, List.drop_nil]; exact .nil) (fun _ _ _ _ a b ih n => match n with | 0 => .cons a b | n + 1 => ih n) n

/-- what stands still of a call: its frame and what lay there ahead of it -/
structure Cx where
  prog : Program
  w : World
  A : Around
  env : Env
  h₀ : Heap
  os : OsState
  wc : List Addr
  n : Nat
  P₀ : Facts
  ro : Bool
  up : List Addr

/-- a name that this frame may store -/
noncomputable abbrev Cx.st (c : Cx) (x : Str) : Prop := c.env.kindOf x = some .local ∨ (c.env.kindOf x = some .cell ∧ c.ro = false)

/-- what is written in place: a list, or a code's table -/
inductive MO where
  | lst (l : List D)
  | tab (T : Addr) (ps : Array Value)
  | itr (l : List D) (i : Nat)
  | bnd (k : Nat)

/-- a bound built-in method -/
noncomputable abbrev boundObj (id : String) (self : Value) : Obj := { cls := .type "builtin_function_or_method", data := .fields #[.builtin id, self] }
inductive MoR (P : Facts) (φ : List Addr) : Obj → MO → Prop
  | lst {o : Obj} {vs : Array Value} {n : Nat} {ds : List D} : o.cls = .type "list" → o.dict = none → o.data = .seq vs n → Rs P φ vs.toList ds → MoR P φ o (.lst ds)
  | tab {T : Addr} {ps : Array Value} : φ[0]? = some T → MoR P φ (tabObj ps) (.tab T ps)
  | itr {o oax : Obj} {ax : Addr} {vs : Array Value} {n i : Nat} {ds : List D} : o.cls = .type "list_iterator" → o.data = .fields #[.ref ax, .int i 0] → P ax oax → oax.cls = .type "list" → oax.data = .seq vs n → Rs P φ vs.toList ds → MoR P φ o (.itr ds i)
  | bnd {a : Addr} {k : Nat} : φ[k]? = some a → MoR P φ (boundObj "list.append" (.ref a)) (.bnd k)

noncomputable def MoR.Inv (P : Facts) (φ : List Addr) : MO → Obj → Prop
  | .lst ds, o => ∃ vs n, o.cls = .type "list" ∧ o.dict = none ∧ o.data = .seq vs n ∧ Rs P φ vs.toList ds
  | .tab T ps, o => o = tabObj ps ∧ φ[0]? = some T
  | .itr ds i, o => ∃ oax ax vs n, o.cls = .type "list_iterator" ∧ o.data = .fields #[.ref ax, .int i 0] ∧ P ax oax ∧ oax.cls = .type "list" ∧ oax.data = .seq vs n ∧ Rs P φ vs.toList ds
  | .bnd k, o => ∃ a, o = boundObj "list.append" (.ref a) ∧ φ[k]? = some a
theorem MoR.inv {P : Facts} {φ : List Addr} {o : Obj} {m : MO} (h : MoR P φ o m) : MoR.Inv P φ m o := by
  cases h with
  | lst a b c d => exact ⟨_, _, a, b, c, d⟩
  | tab a => exact ⟨rfl, a⟩
  | itr a b c d e f => exact ⟨_, _, _, _, a, b, c, d, e, f⟩
  | bnd a => exact ⟨_, rfl, a⟩

theorem MoR.mono {P P' : Facts} {φ φ' : List Addr} (hp : Le P P') (hf : φ <+: φ') {o : Obj} {m : MO} (h : MoR P φ o m) : MoR P' φ' o m :=
  h.rec (motive := fun o m _ => MoR P' φ' o m) (fun h1 h2 h3 h => .lst h1 h2 h3 (h.mono hp hf)) (fun h => .tab (pre_at hf h)) (fun h1 h2 h3 h4 h5 h => .itr h1 h2 (hp _ _ h3) h4 h5 (h.mono hp hf)) (fun h => .bnd (pre_at hf h))

/-- the variable x holds v -/
noncomputable def Holds (c : Cx) (P : Facts) (h : Heap) (x : Str) (v : Value) : Prop :=
  (c.env.kindOf x = some .local ∧ ∃ m, h.Ns c.env.locals m ∧ m x = some v) ∨
  (c.env.kindOf x = some .cell ∧ ∃ ca, c.env.cells.lookup x = some ca ∧ ca ∈ c.wc ∧ h.IsCell ca (some v)) ∨
  ((c.env.kindOf x = some .free ∨ c.env.kindOf x = some .cell) ∧ ∃ ca o, c.env.cells.lookup x = some ca ∧ P ca o ∧ o.data = .cell (some v))

/-- all that was there is there; of the frames l the slots may have turned -/
noncomputable def Kp (l : List Addr) (h h' : Heap) : Prop := ∀ b o, h.get? b = some o → (b ∉ l → h'.get? b = some o) ∧ ∃ sl, h'.get? b = some { o with slots := sl }
theorem Kp.of {l : List Addr} {h h' : Heap} (k : ∀ b o, h.get? b = some o → h'.get? b = some o) : Kp l h h' := fun b o e => ⟨fun _ => k b o e, o.slots, k b o e⟩
theorem Kp.refl (l : List Addr) (h : Heap) : Kp l h h := .of fun _ _ e => e
theorem Kp.out {l : List Addr} {h h' : Heap} (x : Kp l h h') {b : Addr} {o : Obj} (e : h.get? b = some o) (hb : b ∉ l) : h'.get? b = some o := (x b o e).1 hb
theorem Kp.slots {l : List Addr} {h h' : Heap} (x : Kp l h h') {b : Addr} {o : Obj} (e : h.get? b = some o) : ∃ sl, h'.get? b = some { o with slots := sl } := (x b o e).2
theorem Kp.data {l : List Addr} {h h' : Heap} (x : Kp l h h') {b : Addr} {o : Obj} (e : h.get? b = some o) : ∃ o', h'.get? b = some o' ∧ o'.data = o.data := let ⟨sl, q⟩ := x.slots e; ⟨_, q, rfl⟩
theorem Kp.ns {l : List Addr} {h h' : Heap} (x : Kp l h h') {a : Addr} {m : Str → Option Value} (n : h.Ns a m) : h'.Ns a m := by
  obtain ⟨o, es, ep, e, d, r⟩ := n
  obtain ⟨o', e', d'⟩ := x.data e
  exact ⟨o', es, ep, e', d'.trans d, r⟩
theorem Kp.gone {l : List Addr} {h h' : Heap} (x : Kp l h h') {a : Addr} (e : h'.get? a = none) : h.get? a = none := by
  cases q : h.get? a with
  | none => rfl
  | some o => obtain ⟨sl, z⟩ := x.slots q; rw [e] at z; cases z
theorem Kp.trans {l l' : List Addr} {h h' h'' : Heap} (x : Kp l h h') (y : Kp l' h' h'') (hl : ∀ b o, h.get? b = some o → b ∉ l → b ∉ l') : Kp l h h'' := fun b o e => by
  refine ⟨fun hb => y.out (x.out e hb) (hl b o e hb), ?_⟩
  obtain ⟨sl, z⟩ := x.slots e
  obtain ⟨sl', z'⟩ := y.slots z
  exact ⟨sl', z'⟩
theorem Kp.keep {l : List Addr} {h h' h'' : Heap} (x : Kp l h h') (k : ∀ b o, h'.get? b = some o → h''.get? b = some o) : Kp l h h'' := x.trans (Kp.of (l := l) k) fun _ _ _ hb => hb
theorem Kp.ext {l : List Addr} {h h' h'' : Heap} {a : Addr} (x : Kp l h h') (hs : Heap.ExtBut a h' h'') (h0 : h.get? a = none) : Kp l h h'' := fun b o e => by
  have hb : b ≠ a := fun q => by rw [q, h0] at e; cases e
  refine ⟨fun hl => hs b o hb (x.out e hl), ?_⟩
  obtain ⟨sl, z⟩ := x.slots e
  exact ⟨sl, hs b _ hb z⟩

noncomputable abbrev own (c : Cx) (φ : List Addr) : List Addr := c.env.locals :: c.wc ++ φ

structure Inv (c : Cx) (σ : List (Str × D)) (μ : List MO) (P : Facts) (φ : List Addr) (s : Shared) : Prop where
  fz : ∀ a o, P a o → s.heap.get? a = some o
  base : Kp c.up c.h₀ s.heap
  src : ∀ a o, P a o → c.P₀ a o ∨ c.h₀.get? a = none
  gens : AllBare s.gens
  os : s.os = c.os
  ns : ∃ m, s.heap.Ns c.env.locals m
  cells : c.ro = false → ∀ x, c.env.kindOf x = some .cell → ∃ ca v, c.env.cells.lookup x = some ca ∧ ca ∈ c.wc ∧ s.heap.IsCell ca v
  vars : ∀ x d, (x, d) ∈ σ → ∃ v, Holds c P s.heap x v ∧ R P φ v d
  len : φ.length = μ.length
  mu : ∀ (k : Nat) (a : Addr) (m : MO), φ[k]? = some a → μ[k]? = some m → ∃ o, s.heap.get? a = some o ∧ MoR P φ o m
  nd : (c.env.locals :: c.wc ++ φ).Nodup
  apart : ∀ a ∈ c.env.locals :: c.wc ++ φ, ∀ o, ¬ P a o
  apart₀ : ∀ a ∈ c.env.locals :: c.wc ++ φ, c.h₀.get? a = none
  lt : ∀ a ∈ c.wc, ∃ o, s.heap.get? a = some o

/-- a def of the text stands at a -/
noncomputable def IsFn (h : Heap) (a : Addr) (d : DefRec) : Prop :=
  ∃ o pm code doc, h.get? a = some o ∧ o.data = .func (Calls.docDef d.name d.params d.body d.scope pm code doc) ∧ h.CodeRec code d.name

noncomputable def bltNames : List Str := ["len", "range", "list", "sorted", "chr", "iter", "next", "isinstance", "str", "IndexError", "StopIteration", "TypeError"]
noncomputable def defAt (i : Nat) : DefRec := match PySem.Challenge.pw_in0050_01.main.body[i]? with
  | some (.FunctionDef name a b _ _ _ sc _ _ pos) => ⟨name, a, b, sc, pos⟩
  | _ => ⟨⟨#[]⟩, ⟨[], [], none, [], [], none, []⟩, [], default, default⟩

/-- reduce stands at a; im is what its default is -/
noncomputable def IsRed (im : Addr) (h : Heap) (a : Addr) (d : DefRec) : Prop :=
  ∃ o pm code doc dt od nd, h.get? a = some o ∧ o.data = .func { Calls.docDef d.name d.params d.body d.scope pm code doc with defaults := .ref dt } ∧ h.CodeRec code d.name ∧ h.get? dt = some od ∧ od.data = .seq #[.ref im] nd
/-- the object that means: no initial -/
noncomputable def IsMiss (im : Addr) (h : Heap) : Prop := ∃ o, h.get? im = some o ∧ o.data = .plain
/-- the table of escape -/
noncomputable def mapKeys : List Nat := [40, 41, 91, 93, 123, 125, 63, 42, 43, 45, 124, 94, 36, 92, 46, 38, 126, 35, 32, 9, 10, 13, 11, 12]
noncomputable def mapEs : Array DictEntry := (mapKeys.zipIdx.map fun p => { hash := p.1, key := .int p.1 (338 + 6 * p.2), val := .str ⟨#[92, p.1]⟩ (342 + 6 * p.2) }).toArray
noncomputable def mapObj : Obj := { cls := .type "dict", data := .dict mapEs 24 }
/-- the compiled pattern of _translate -/
noncomputable def patCode : List Nat := [14, 14, 4, 1, 1, 9, 0, 64, 0, 1342177280, 0, 0, 0, 0, 0, 17, 0, 13, 11, 9, 0, 64, 0, 1342177280, 0, 0, 0, 0, 0, 17, 1, 1]
noncomputable def codeObj : Obj := { cls := .type "tuple", data := .seq (patCode.map fun n : Nat => Value.int n 0).toArray }
noncomputable def patObj (ac : Addr) : Obj := { cls := .type "re.Pattern", data := .fields #[.str (Str.ofString "([&~|])") 298, .int 32 333, .int 1 0, .none, .none, .ref ac, .int 0 0] }
/-- of frames' tables -/
noncomputable abbrev Tabs (l : List Addr) (h : Heap) : Prop := ∀ b ∈ l, ∃ o es ep, h.get? b = some o ∧ o.data = .dict es ep ∧ StrKeys es
theorem Kp.noDict {l : List Addr} {h h' : Heap} (x : Kp l h h') (hl : Tabs l h) {b : Addr} {o : Obj} (e : h.get? b = some o) (hd : ∀ es ep, o.data ≠ .dict es ep) : h'.get? b = some o :=
  x.out e fun hb => by obtain ⟨o', es, ep, e', d, _⟩ := hl b hb; rw [e] at e'; cases e'; exact hd _ _ d
theorem map_keys : ¬ StrKeys mapEs := fun h => by
  obtain ⟨n, t, e⟩ := h { hash := 40, key := .int 40 338, val := .str ⟨#[92, 40]⟩ 342 } (Array.mem_of_getElem? (i := 0) rfl)
  cases e
theorem Kp.map {l : List Addr} {h h' : Heap} (x : Kp l h h') (hl : Tabs l h) {b : Addr} (e : h.get? b = some mapObj) : h'.get? b = some mapObj :=
  x.out e fun hb => by
    obtain ⟨o', es, ep, e', d, k⟩ := hl b hb
    rw [e] at e'; cases e'
    cases d
    exact map_keys k
/-- the law's own text, as the run's top leaves it -/
structure Base (mg mb : Str → Option Value) (h : Heap) : Prop where
  g : h.Ns mainGlobals mg
  b : h.Ns builtinsNs mb
  lim : h.NoLimit
  fn : ∀ d ∈ recsOf PySem.Challenge.pw_in0050_01, ∃ a, mg d.name = some (.ref a) ∧ IsFn h a d
  blt : ∀ x ∈ bltNames, mg x = none ∧ mb x = bootBuiltins x
  red : ∃ a im, mg (Str.ofString "reduce") = some (.ref a) ∧ mg (Str.ofString "_initial_missing") = some (.ref im) ∧ IsRed im h a (defAt 3) ∧ IsMiss im h
  map : ∃ a, mg (Str.ofString "_special_chars_map") = some (.ref a) ∧ (a == sysModules) = false ∧ h.get? a = some mapObj
  pat : ∃ a ac, mg (Str.ofString "_twin_re_1") = some (.ref a) ∧ h.get? a = some (patObj ac) ∧ h.get? ac = some codeObj
  bmod : ∃ bm o, mg (Str.ofString "__builtins__") = some (.ref bm) ∧ bm ≠ builtinsNs ∧ bm ≠ mainGlobals ∧ h.get? bm = some o ∧ o.cls = .type "module" ∧ o.dict = some builtinsNs ∧ o.data = .plain
  tra : ∃ a cc T o pm doc, mg (Str.ofString "_translate") = some (.ref a) ∧ h.get? a = some o ∧ o.data = .func (Calls.docDef (defAt 9).name (defAt 9).params (defAt 9).body (defAt 9).scope pm (.ref cc) doc) ∧ CodeHd h cc T

theorem IsFn.keeps {h h' : Heap} {a : Addr} {d : DefRec} (x : IsFn h a d) (hk : ∀ b o, h.get? b = some o → h'.get? b = some o) : IsFn h' a d :=
  x.imp fun _ => Exists.imp fun _ => Exists.imp fun _ => Exists.imp fun _ => And.imp (hk _ _) (And.imp_right fun h => h.keeps hk)
theorem IsFn.kp {l : List Addr} {h h' : Heap} {a : Addr} {d : DefRec} (x : IsFn h a d) (hk : Kp l h h') : IsFn h' a d := by
  obtain ⟨o, pm, code, doc, h1, h2, cc, oc, vs, t, e, g, d1, d2⟩ := x
  obtain ⟨o', e1, e2⟩ := hk.data h1
  obtain ⟨oc', e3, e4⟩ := hk.data g
  exact ⟨o', pm, code, doc, e1, e2.trans h2, cc, oc', vs, t, e, e3, e4.trans d1, d2⟩
theorem red_kp {l : List Addr} {h h' : Heap} {a im : Addr} {d : DefRec} (hk : Kp l h h') (x : IsRed im h a d ∧ IsMiss im h) : IsRed im h' a d ∧ IsMiss im h' := by
  obtain ⟨⟨o, pm, code, doc, dt, od, nd, h1, h2, ⟨cc, oc, vs, t, e, g, d1, d2⟩, h4, h5⟩, oi, h6, h7⟩ := x
  obtain ⟨o', e1, e2⟩ := hk.data h1
  obtain ⟨oc', e3, e4⟩ := hk.data g
  obtain ⟨od', e5, e6⟩ := hk.data h4
  obtain ⟨oi', e7, e8⟩ := hk.data h6
  exact ⟨⟨o', pm, code, doc, dt, od', nd, e1, e2.trans h2, ⟨cc, oc', vs, t, e, e3, e4.trans d1, d2⟩, e5, e6.trans h5⟩, oi', e7, e8.trans h7⟩
theorem codeHd_there {h : Heap} {cc T : Addr} (x : CodeHd h cc T) : ∃ o, h.get? cc = some o ∧ ∀ es ep, o.data ≠ .dict es ep := by
  obtain ⟨o, vs, file, tf, fl, tg, inF, tx, tt, q1, _, q3, _⟩ := x
  exact ⟨o, q1, fun _ _ q => by rw [q3] at q; cases q⟩
theorem codeHd_same {h h' : Heap} {cc T : Addr} (e : h'.get? cc = h.get? cc) (x : CodeHd h cc T) : CodeHd h' cc T := by
  unfold CodeHd at x ⊢
  rw [e]; exact x
theorem Kp.codeHd {l : List Addr} {h h' : Heap} (hk : Kp l h h') (hl : Tabs l h) {cc T : Addr} (x : CodeHd h cc T) : CodeHd h' cc T := by
  obtain ⟨o, e, hd⟩ := codeHd_there x
  exact codeHd_same ((hk.noDict hl e hd).trans e.symm) x
theorem Base.kp {mg mb : Str → Option Value} {l : List Addr} {h h' : Heap} (B : Base mg mb h) (hk : Kp l h h') (hl : Tabs l h) : Base mg mb h' where
  g := hk.ns B.g
  b := hk.ns B.b
  lim := B.lim.imp fun mc => And.imp_left hk.ns
  fn := fun d hd => (B.fn d hd).imp fun a => And.imp_right fun x => x.kp hk
  blt := B.blt
  red := B.red.imp fun a => Exists.imp fun im => And.imp_right (And.imp_right (red_kp hk))
  map := B.map.imp fun a => And.imp_right (And.imp_right (hk.map hl))
  pat := B.pat.imp fun a => Exists.imp fun ac => And.imp_right (And.imp (fun x => hk.noDict hl x (fun _ _ q => by cases q)) fun x => hk.noDict hl x (fun _ _ q => by cases q))
  bmod := by
    obtain ⟨bm, o, h1, h2, h3, h4, h5, h6, h7⟩ := B.bmod
    exact ⟨bm, o, h1, h2, h3, hk.noDict hl h4 (fun _ _ q => by rw [h7] at q; cases q), h5, h6, h7⟩
  tra := by
    obtain ⟨a, cc, T, o, pm, doc, h1, h2, h3, h4⟩ := B.tra
    exact ⟨a, cc, T, o, pm, doc, h1, hk.noDict hl h2 (fun _ _ q => by rw [h3] at q; cases q), h3, hk.codeHd hl h4⟩
theorem Base.keeps {mg mb : Str → Option Value} {h h' : Heap} (B : Base mg mb h) (hk : ∀ b o, h.get? b = some o → h'.get? b = some o) : Base mg mb h' := B.kp (.of (l := []) hk) (fun _ h => by cases h)

/-- what is known of the whole run -/
structure Cx.OkW (c : Cx) (mg mb : Str → Option Value) : Prop where
  kind : c.env.scope.kind = .function
  glob : c.env.globals = mainGlobals
  blt : c.env.builtins = builtinsNs
  base : Base mg mb c.h₀
  depth : c.A.depth + c.n < 1000
  units : c.A.units + 20 * c.n < 9900
  nm : ∀ x k, c.env.kindOf x = some k → (x == ("__debug__" : Str)) = false ∧ (x == ("__classdict__" : Str)) = false
  wcs : ∀ x y ca, c.env.cells.lookup x = some ca → c.env.cells.lookup y = some ca → x = y
  fr : ∃ outer, c.A.frames = some (if c.ro = true then outer else c.env :: outer) ∧ ∀ env ∈ outer, env.scope.kind ≠ .module ∧ ∃ L ∈ c.up, env.frame = some L
  fl : c.ro = false → c.env.frame = some c.env.locals
  upOk : ∀ L ∈ c.up, (∃ o es ep, c.h₀.get? L = some o ∧ o.data = .dict es ep ∧ StrKeys es) ∧ ∀ o, ¬ c.P₀ L o
theorem Cx.OkW.tabs {c : Cx} {mg mb : Str → Option Value} (K : c.OkW mg mb) : Tabs c.up c.h₀ := fun L hL => (K.upOk L hL).1
structure Cx.Ok (c : Cx) (mg mb : Str → Option Value) : Prop extends Cx.OkW c mg mb where
  handled : c.A.handled = .none

section
variable {c : Cx} {σ : List (Str × D)} {μ : List MO} {P : Facts} {φ : List Addr} {s : Shared} {mg mb : Str → Option Value}


/-- a value of the program, no heap touched -/
theorem none_of {h h' : Heap} (hk : ∀ b o, h.get? b = some o → h'.get? b = some o) {a : Addr} (e : h'.get? a = none) : h.get? a = none := by
  cases q : h.get? a with
  | none => rfl
  | some o => have := hk a o q; rw [e] at this; cases this
theorem Inv.tok (I : Inv c σ μ P φ s) (t : Nat) : Inv c σ μ P φ { s with toks := t } := ⟨I.fz, I.base, I.src, I.gens, I.os, I.ns, I.cells, I.vars, I.len, I.mu, I.nd, I.apart, I.apart₀, I.lt⟩

theorem Holds.mono {P' : Facts} {h h' : Heap} {x : Str} {v : Value} (H : Holds c P h x v) (hp : Le P P') (hk : ∀ b o, h.get? b = some o → h'.get? b = some o) : Holds c P' h' x v := by
  rcases H with ⟨a, m, n, e⟩ | ⟨a, ca, n, hw, e⟩ | ⟨a, ca, o, n, e, e2⟩
  · exact .inl ⟨a, m, n.keeps hk, e⟩
  · exact .inr (.inl ⟨a, ca, n, hw, e.keeps hk⟩)
  · exact .inr (.inr ⟨a, ca, o, n, hp _ _ e, e2⟩)

/-- new objects alone: what is known stays known, and facts of new objects may be added -/
theorem Inv.grow {h' : Heap} {P' : Facts} {t : Nat} (I : Inv c σ μ P φ s) (hk : ∀ b o, s.heap.get? b = some o → h'.get? b = some o)
    (hp : Le P P') (hf : ∀ a o, P' a o → h'.get? a = some o) (hnew : ∀ a o, P' a o → P a o ∨ s.heap.get? a = none) :
    Inv c σ μ P' φ { s with heap := h', toks := t } where
  fz := hf
  base := I.base.keep hk
  src := fun a o h => (hnew a o h).elim (I.src a o) fun e => .inr (I.base.gone e)
  gens := I.gens
  os := I.os
  ns := let ⟨m, h⟩ := I.ns; ⟨m, h.keeps hk⟩
  cells := fun hr x hx => let ⟨ca, v, h1, h2, h3⟩ := I.cells hr x hx; ⟨ca, v, h1, h2, h3.keeps hk⟩
  vars := fun x d hx => let ⟨v, h1, h2⟩ := I.vars x d hx; ⟨v, h1.mono hp hk, h2.mono hp (List.prefix_refl _)⟩
  len := I.len
  mu := fun k a m h1 h2 => let ⟨o, h3, h4⟩ := I.mu k a m h1 h2; ⟨o, hk _ _ h3, h4.mono hp (List.prefix_refl _)⟩
  nd := I.nd
  apart := fun a ha o hP => by
    rcases hnew a o hP with q | q
    · exact I.apart a ha o q
    · have : ∃ o, s.heap.get? a = some o := by
        rcases List.mem_append.mp (show a ∈ (c.env.locals :: c.wc) ++ φ from ha) with h1 | h1
        · rcases List.mem_cons.mp h1 with rfl | h1
          · obtain ⟨m, o, es, ep, e, _⟩ := I.ns; exact ⟨o, e⟩
          · exact I.lt a h1
        · obtain ⟨k, hk', rfl⟩ := List.getElem_of_mem h1
          have hm : k < μ.length := I.len ▸ hk'
          obtain ⟨o, e, _⟩ := I.mu k φ[k] μ[k] (List.getElem?_eq_getElem hk') (List.getElem?_eq_getElem hm)
          exact ⟨o, e⟩
      obtain ⟨o', e⟩ := this
      rw [q] at e; cases e
  apart₀ := I.apart₀
  lt := fun a ha => let ⟨o, e⟩ := I.lt a ha; ⟨o, hk _ _ e⟩

/-- the same, as a run's new state -/
theorem Inv.grow' {s' : Shared} {P' : Facts} (I : Inv c σ μ P φ s) (hg : AllBare s'.gens) (hos : s'.os = s.os) (hk : ∀ b o, s.heap.get? b = some o → s'.heap.get? b = some o)
    (hp : Le P P') (hf : ∀ a o, P' a o → s'.heap.get? a = some o) (hnew : ∀ a o, P' a o → P a o ∨ s.heap.get? a = none) :
    Inv c σ μ P' φ s' := by
  have J := I.grow (t := s'.toks) hk hp hf hnew
  exact ⟨J.fz, J.base, J.src, hg, hos.trans I.os, J.ns, J.cells, J.vars, J.len, J.mu, J.nd, J.apart, J.apart₀, J.lt⟩

/-- a call's end: new objects, and slots of frames -/
theorem Inv.growK {s' : Shared} {P' : Facts} {l : List Addr} (I : Inv c σ μ P φ s) (hg : AllBare s'.gens) (hos : s'.os = s.os) (hk : Kp l s.heap s'.heap) (hl : ∀ b ∈ l, b = c.env.locals ∨ b ∈ c.up) (hup : ∀ L ∈ c.up, ∃ o, c.h₀.get? L = some o)
    (hp : Le P P') (hf : ∀ a o, P' a o → s'.heap.get? a = some o) (hnew : ∀ a o, P' a o → P a o ∨ s.heap.get? a = none) :
    Inv c σ μ P' φ s' := by
  have hnd := List.nodup_append.mp I.nd
  have hout : ∀ a ∈ own c φ, a ≠ c.env.locals → a ∉ l := fun a ha hne hm => by
    rcases hl a hm with h | h
    · exact hne h
    · obtain ⟨o, e⟩ := hup a h
      rw [I.apart₀ a ha] at e; cases e
  have hw : ∀ ca ∈ c.wc, ca ∉ l := fun ca hca => hout ca (List.mem_append_left _ (List.mem_cons_of_mem _ hca)) fun e => (List.nodup_cons.mp hnd.1).1 (e ▸ hca)
  have hphi : ∀ a ∈ φ, a ∉ l := fun a ha => hout a (List.mem_append_right _ ha) fun e => hnd.2.2 _ (List.mem_cons_self ..) a ha e.symm
  refine ⟨hf, I.base.trans hk fun b o e hb hm => ?_, fun a o h => (hnew a o h).elim (I.src a o) fun e => .inr (I.base.gone e), hg, hos.trans I.os, ?_, fun hr x hx => ?_, fun x d hx => ?_, I.len, fun k a m h1 h2 => ?_, I.nd, fun a ha o hP => ?_, I.apart₀, fun a ha => ?_⟩
  · rcases hl b hm with h | h
    · rw [h, I.apart₀ _ (List.mem_cons_self ..)] at e; cases e
    · exact hb h
  · obtain ⟨m, h⟩ := I.ns; exact ⟨m, hk.ns h⟩
  · obtain ⟨ca, v, h1, h2, o, h3, h4⟩ := I.cells hr x hx
    exact ⟨ca, v, h1, h2, o, hk.out h3 (hw ca h2), h4⟩
  · obtain ⟨v, H, r⟩ := I.vars x d hx
    refine ⟨v, ?_, r.mono hp (List.prefix_refl _)⟩
    rcases H with ⟨q, m, n, e⟩ | ⟨q, ca, n, hw', o, e, e'⟩ | ⟨q, ca, o, n, e, e2⟩
    · exact .inl ⟨q, m, hk.ns n, e⟩
    · exact .inr (.inl ⟨q, ca, n, hw', o, hk.out e (hw ca hw'), e'⟩)
    · exact .inr (.inr ⟨q, ca, o, n, hp _ _ e, e2⟩)
  · obtain ⟨o, h3, h4⟩ := I.mu k a m h1 h2
    exact ⟨o, hk.out h3 (hphi a (List.mem_of_getElem? h1)), h4.mono hp (List.prefix_refl _)⟩
  · rcases hnew a o hP with q | q
    · exact I.apart a ha o q
    · have : ∃ o, s.heap.get? a = some o := by
        rcases List.mem_append.mp (show a ∈ (c.env.locals :: c.wc) ++ φ from ha) with h1 | h1
        · rcases List.mem_cons.mp h1 with rfl | h1
          · obtain ⟨m, o, es, ep, e, _⟩ := I.ns; exact ⟨o, e⟩
          · exact I.lt a h1
        · obtain ⟨k, hk', rfl⟩ := List.getElem_of_mem h1
          have hm : k < μ.length := I.len ▸ hk'
          obtain ⟨o, e, _⟩ := I.mu k φ[k] μ[k] (List.getElem?_eq_getElem hk') (List.getElem?_eq_getElem hm)
          exact ⟨o, e⟩
      obtain ⟨o', e⟩ := this
      rw [q] at e; cases e
  · obtain ⟨o, e⟩ := I.lt a ha; exact ⟨o, hk.out e (hw a ha)⟩

/-- one new object, frozen -/
theorem Inv.push (I : Inv c σ μ P φ s) (o : Obj) (hfree : o.isFreed = false) (t : Nat) :
    Inv c σ μ (fun a o' => P a o' ∨ (a = s.heap.objs.size ∧ o' = o)) φ { s with heap := s.heap.push o, toks := t } :=
  I.grow (fun _ _ e => Heap.get?_push_of_some _ e) (fun _ _ h => .inl h)
    (fun a o' h => by rcases h with h | ⟨rfl, rfl⟩; exact Heap.get?_push_of_some _ (I.fz _ _ h); exact Heap.get?_push_size _ hfree)
    (fun a o' h => by
      rcases h with h | ⟨rfl, rfl⟩
      · exact .inl h
      · right
        cases q : s.heap.get? s.heap.objs.size with
        | none => rfl
        | some o' => exact absurd (Heap.lt_size q) (Nat.lt_irrefl _))

/-- one new list that will be written in place -/
theorem Inv.pushMu (I : Inv c σ μ P φ s) {o : Obj} {m : MO} (hm : MoR P φ o m) (hfree : o.isFreed = false) (t : Nat) :
    Inv c σ (μ ++ [m]) P (φ ++ [s.heap.objs.size]) { s with heap := s.heap.push o, toks := t } := by
  have hk : ∀ b o', s.heap.get? b = some o' → (s.heap.push o).get? b = some o' := fun _ _ e => Heap.get?_push_of_some _ e
  have hpre : φ <+: φ ++ [s.heap.objs.size] := List.prefix_append _ _
  have hnone : s.heap.get? s.heap.objs.size = none := by
    cases q : s.heap.get? s.heap.objs.size with
    | none => rfl
    | some o' => exact absurd (Heap.lt_size q) (Nat.lt_irrefl _)
  have hin : ∀ a ∈ c.env.locals :: c.wc ++ φ, a ≠ s.heap.objs.size := fun a ha e => by
    subst e
    rcases List.mem_append.mp (show _ ∈ (c.env.locals :: c.wc) ++ φ from ha) with h1 | h1
    · rcases List.mem_cons.mp h1 with h1 | h1
      · obtain ⟨m, o, es, ep, e, _⟩ := I.ns; rw [← h1, hnone] at e; cases e
      · obtain ⟨o, e⟩ := I.lt _ h1; rw [hnone] at e; cases e
    · obtain ⟨k, hk', e1⟩ := List.getElem_of_mem h1
      have hm : k < μ.length := I.len ▸ hk'
      obtain ⟨o, e, _⟩ := I.mu k φ[k] μ[k] (List.getElem?_eq_getElem hk') (List.getElem?_eq_getElem hm)
      rw [e1, hnone] at e; cases e
  have J := I.grow (P' := P) (t := t) hk (fun _ _ h => h) (fun a o h => hk _ _ (I.fz _ _ h)) (fun _ _ h => .inl h)
  refine ⟨J.fz, J.base, J.src, J.gens, J.os, J.ns, J.cells, fun x d hx => ?_, ?_, fun k a m' h1 h2 => ?_, ?_, ?_, ?_, J.lt⟩
  · obtain ⟨v, h1, h2⟩ := J.vars x d hx
    exact ⟨v, h1, h2.mono (fun _ _ h => h) hpre⟩
  · simp [I.len]
  · by_cases hk' : k < φ.length
    · rw [List.getElem?_append_left hk'] at h1
      rw [List.getElem?_append_left (I.len ▸ hk')] at h2
      obtain ⟨o', h3, h4⟩ := J.mu k a m' h1 h2
      exact ⟨o', h3, h4.mono (fun _ _ h => h) hpre⟩
    · have hkl : k = φ.length := by
        have := (List.getElem?_eq_some_iff.mp h1).1
        simp at this; omega
      subst hkl
      simp at h1
      rw [I.len] at h2; simp at h2
      subst h1 h2
      exact ⟨o, Heap.get?_push_size _ hfree, hm.mono (fun _ _ h => h) hpre⟩
  · rw [show c.env.locals :: c.wc ++ (φ ++ [s.heap.objs.size]) = (c.env.locals :: c.wc ++ φ) ++ [s.heap.objs.size] by simp]
    refine List.nodup_append.mpr ⟨I.nd, by simp, ?_⟩
    intro a ha b hb
    simp at hb; subst hb
    exact hin a ha
  · intro a ha o' hP
    have ha' : a ∈ (c.env.locals :: c.wc ++ φ) ++ [s.heap.objs.size] := by simpa using ha
    rcases List.mem_append.mp ha' with h1 | h1
    · exact I.apart a h1 o' hP
    · simp at h1; subst h1
      have := I.fz _ _ hP
      rw [hnone] at this; cases this
  · intro a ha
    have ha' : a ∈ (c.env.locals :: c.wc ++ φ) ++ [s.heap.objs.size] := by simpa using ha
    rcases List.mem_append.mp ha' with h1 | h1
    · exact I.apart₀ a h1
    · simp at h1; subst h1; exact I.base.gone hnone

/-- an object written in place -/
theorem Inv.setMu (I : Inv c σ μ P φ s) {k : Nat} {a : Addr} {o : Obj} {m : MO} {h' : Heap} (hk : φ[k]? = some a) (hs : Heap.SameBut a s.heap h') (ho : h'.get? a = some o) (hm : MoR P φ o m) (t : Nat) :
    Inv c σ (μ.set k m) P φ { s with heap := h', toks := t } := by
  have hmem : a ∈ φ := List.mem_of_getElem? hk
  have hmem' : a ∈ c.env.locals :: c.wc ++ φ := List.mem_append_right _ hmem
  have nd := I.nd
  rw [List.nodup_append] at nd
  have hne : ∀ b ∈ c.env.locals :: c.wc, b ≠ a := fun b hb => nd.2.2 b hb a hmem
  have hP : ∀ b o', P b o' → b ≠ a := fun b o' h e => I.apart a hmem' o' (e ▸ h)
  have h₀n : c.h₀.get? a = none := I.apart₀ a hmem'
  refine ⟨fun b o' h => (hs.2 b (hP b o' h)).trans (I.fz b o' h), I.base.ext hs.extBut h₀n, I.src, I.gens, I.os, ?_, ?_, ?_, by simp [I.len], ?_, I.nd, I.apart, I.apart₀, ?_⟩
  · obtain ⟨m, h⟩ := I.ns
    exact ⟨m, h.sameBut hs (hne _ (List.mem_cons_self ..))⟩
  · intro hr x hx
    obtain ⟨ca, v, h1, h2, h3⟩ := I.cells hr x hx
    exact ⟨ca, v, h1, h2, h3.sameBut hs (hne _ (List.mem_cons_of_mem _ h2))⟩
  · intro x d hx
    obtain ⟨v, H, h2⟩ := I.vars x d hx
    refine ⟨v, ?_, h2⟩
    rcases H with ⟨q, m, n, e⟩ | ⟨q, ca, n, hw, e⟩ | ⟨q, ca, o, n, e, e2⟩
    · exact .inl ⟨q, m, n.sameBut hs (hne _ (List.mem_cons_self ..)), e⟩
    · exact .inr (.inl ⟨q, ca, n, hw, e.sameBut hs (hne _ (List.mem_cons_of_mem _ hw))⟩)
    · exact .inr (.inr ⟨q, ca, o, n, e, e2⟩)
  · intro j b m' h1 h2
    by_cases hj : j = k
    · subst hj
      rw [hk] at h1; cases h1
      rw [List.getElem?_set_self (I.len ▸ (List.getElem?_eq_some_iff.mp hk).1)] at h2
      cases h2
      exact ⟨o, ho, hm⟩
    · rw [List.getElem?_set_ne (Ne.symm hj)] at h2
      obtain ⟨o', h3, h4⟩ := I.mu j b m' h1 h2
      refine ⟨o', (hs.2 b fun e => hj ?_).trans h3, h4⟩
      subst e
      exact (List.getElem?_inj (List.getElem?_eq_some_iff.mp h1).1 nd.2.1).mp (h1.trans hk.symm)
  · intro b hb
    obtain ⟨o', e⟩ := I.lt b hb
    exact ⟨o', (hs.2 b (hne _ (List.mem_cons_of_mem _ hb))).trans e⟩
end

/-- the abstract store: x holds d, all else as it was -/
inductive Fresh (x : Str) : List (Str × D) → Prop
  | nil : Fresh x []
  | cons {y : Str} {e : D} {r : List (Str × D)} : y ≠ x → Fresh x r → Fresh x ((y, e) :: r)
theorem Fresh.not {x : Str} {r : List (Str × D)} (f : Fresh x r) : ∀ e, (x, e) ∉ r := by
  induction f with
  | nil => intro e h; cases h
  | cons hy _ ih =>
    intro e h
    rcases List.mem_cons.mp h with h | h
    · cases h; exact hy rfl
    · exact ih e h
inductive Upd : List (Str × D) → Str → D → List (Str × D) → Prop
  | nil {x : Str} {d : D} : Upd [] x d [(x, d)]
  | head {x : Str} {d e : D} {r : List (Str × D)} (h : Fresh x r) : Upd ((x, e) :: r) x d ((x, d) :: r)
  | tail {x y : Str} {d e : D} {r r' : List (Str × D)} : y ≠ x → Upd r x d r' → Upd ((y, e) :: r) x d ((y, e) :: r')

theorem Upd.mem {σ σ' : List (Str × D)} {x : Str} {d : D} (u : Upd σ x d σ') : ∀ y e, (y, e) ∈ σ' → (y = x ∧ e = d) ∨ (y ≠ x ∧ (y, e) ∈ σ) := by
  induction u with
  | nil => intro y e h; simp at h; exact .inl h
  | head hn =>
    intro y e h
    rcases List.mem_cons.mp h with h | h
    · cases h; exact .inl ⟨rfl, rfl⟩
    · refine .inr ⟨fun q => hn.not e (q ▸ h), List.mem_cons_of_mem _ h⟩
  | tail hy _ ih =>
    intro y' e h
    rcases List.mem_cons.mp h with h | h
    · cases h; exact .inr ⟨hy, List.mem_cons_self ..⟩
    · rcases ih y' e h with q | ⟨q1, q2⟩
      · exact .inl q
      · exact .inr ⟨q1, List.mem_cons_of_mem _ q2⟩

section
variable {c : Cx} {σ σ' : List (Str × D)} {μ : List MO} {P : Facts} {φ : List Addr} {s : Shared} {mg mb : Str → Option Value}

theorem Inv.weaken (I : Inv c σ μ P φ s) (h : ∀ p ∈ σ', p ∈ σ) : Inv c σ' μ P φ s :=
  ⟨I.fz, I.base, I.src, I.gens, I.os, I.ns, I.cells, fun x d hx => I.vars x d (h _ hx), I.len, I.mu, I.nd, I.apart, I.apart₀, I.lt⟩

/-- storing a name -/
theorem store_ok {M : Model} {A : Around} {E : Value → Shared → Prop} {x : Str} {v : Value} {d : D} {Q : Unit → Shared → Prop} (K : c.OkW mg mb) (I : Inv c σ μ P φ s)
    (hk : c.st x) (hu : Upd σ x d σ') (hr : R P φ v d)
    (h : ∀ s', Inv c σ' μ P φ s' → Q () s') : wpAny M A (storeName c.env x v) Q E s := by
  have nd := I.nd
  rw [List.nodup_append] at nd
  rcases hk with hk | ⟨hk, hro⟩
  · obtain ⟨m, hn⟩ := I.ns
    have hLP : ∀ b o, P b o → b ≠ c.env.locals := fun b o h e => I.apart c.env.locals (List.mem_cons_self ..) o (e ▸ h)
    refine wpAny_storeName_local hk hn (fun h' hn' hs => h _ ?_) (by rw [K.kind]; rfl)
    have h₀n : c.h₀.get? c.env.locals = none := I.apart₀ _ (List.mem_cons_self ..)
    refine ⟨fun b o q => (hs.2 b (hLP b o q)).trans (I.fz b o q), I.base.ext hs.extBut h₀n, I.src, I.gens, I.os, ⟨_, hn'⟩, fun hro y hy => ?_, fun y e hy => ?_, I.len, fun k a m' h1 h2 => ?_, I.nd, I.apart, I.apart₀, fun b hb => ?_⟩
    · obtain ⟨ca, v', h1, h2, h3⟩ := I.cells hro y hy
      exact ⟨ca, v', h1, h2, h3.sameBut hs (fun e => (List.nodup_cons.mp nd.1).1 (e ▸ h2))⟩
    · rcases hu.mem y e hy with ⟨rfl, rfl⟩ | ⟨hne, hy'⟩
      · exact ⟨v, .inl ⟨hk, _, hn', by simp⟩, hr⟩
      · obtain ⟨v', H, h2⟩ := I.vars y e hy'
        refine ⟨v', ?_, h2⟩
        rcases H with ⟨q, m', n, e'⟩ | ⟨q, ca, n, hw, e'⟩ | ⟨q, ca, o, n, e', e2⟩
        · refine .inl ⟨q, _, hn', ?_⟩
          have : m = m' := by
            obtain ⟨o, es, ep, a1, a2, a3, a4⟩ := hn
            obtain ⟨o', es', ep', b1, b2, b3, b4⟩ := n
            rw [a1] at b1; cases b1
            rw [a2] at b2; cases b2
            funext z; rw [← a4, ← b4]
          subst this
          rw [if_neg hne]; exact e'
        · exact .inr (.inl ⟨q, ca, n, hw, e'.sameBut hs (fun e => (List.nodup_cons.mp nd.1).1 (e ▸ hw))⟩)
        · exact .inr (.inr ⟨q, ca, o, n, e', e2⟩)
    · obtain ⟨o, h3, h4⟩ := I.mu k a m' h1 h2
      exact ⟨o, (hs.2 a fun e => nd.2.2 _ (List.mem_cons_self ..) a (List.mem_of_getElem? h1) e.symm).trans h3, h4⟩
    · obtain ⟨o, e⟩ := I.lt b hb
      exact ⟨o, (hs.2 b fun e => (List.nodup_cons.mp nd.1).1 (e ▸ hb)).trans e⟩
  · obtain ⟨ca, v₀, hca, hw, hc⟩ := I.cells hro x hk
    have hmem : ca ∈ c.env.locals :: c.wc ++ φ := List.mem_append_left _ (List.mem_cons_of_mem _ hw)
    have hLP : ∀ b o, P b o → b ≠ ca := fun b o h e => I.apart ca hmem o (e ▸ h)
    have hL : c.env.locals ≠ ca := fun e => (List.nodup_cons.mp nd.1).1 (e ▸ hw)
    refine wpAny_storeName_cell K.kind hk hca hc (fun h' hc' hs => h _ ?_)
    have h₀n : c.h₀.get? ca = none := I.apart₀ _ hmem
    refine ⟨fun b o q => (hs.2 b (hLP b o q)).trans (I.fz b o q), I.base.ext hs.extBut h₀n, I.src, I.gens, I.os, ?_, fun _ y hy => ?_, fun y e hy => ?_, I.len, fun k a m' h1 h2 => ?_, I.nd, I.apart, I.apart₀, fun b hb => ?_⟩
    · obtain ⟨m, hn⟩ := I.ns
      exact ⟨m, hn.sameBut hs hL⟩
    · obtain ⟨cb, v', h1, h2, h3⟩ := I.cells hro y hy
      by_cases hb : cb = ca
      · subst hb; exact ⟨cb, _, h1, h2, hc'⟩
      · exact ⟨cb, v', h1, h2, h3.sameBut hs hb⟩
    · rcases hu.mem y e hy with ⟨rfl, rfl⟩ | ⟨hne, hy'⟩
      · exact ⟨v, .inr (.inl ⟨hk, ca, hca, hw, hc'⟩), hr⟩
      · obtain ⟨v', H, h2⟩ := I.vars y e hy'
        refine ⟨v', ?_, h2⟩
        rcases H with ⟨q, m', n, e'⟩ | ⟨q, cb, n, hw', e'⟩ | ⟨q, cb, o, n, e', e2⟩
        · exact .inl ⟨q, m', n.sameBut hs hL, e'⟩
        · refine .inr (.inl ⟨q, cb, n, hw', e'.sameBut hs fun e => hne ?_⟩)
          subst e
          exact K.wcs _ _ _ n hca
        · exact .inr (.inr ⟨q, cb, o, n, e', e2⟩)
    · obtain ⟨o, h3, h4⟩ := I.mu k a m' h1 h2
      exact ⟨o, (hs.2 a fun e => nd.2.2 ca (List.mem_cons_of_mem _ hw) a (List.mem_of_getElem? h1) e.symm).trans h3, h4⟩
    · obtain ⟨o, e⟩ := I.lt b hb
      by_cases hbc : b = ca
      · obtain ⟨o', e1, _⟩ := hc'; exact ⟨o', hbc ▸ e1⟩
      · exact ⟨o, (hs.2 b hbc).trans e⟩

theorem name_plain {x : Str} {d : D} (K : c.OkW mg mb) (I : Inv c σ μ P φ s) (hx : (x, d) ∈ σ) : (x == ("__debug__" : Str)) = false := by
  obtain ⟨v, H, hr⟩ := I.vars x d hx
  rcases H with ⟨q, _⟩ | ⟨q, _⟩ | ⟨q | q, _⟩ <;> exact (K.nm _ _ q).1
theorem load_ok {M : Model} {A : Around} {E : Value → Shared → Prop} {x : Str} {d : D} {Q : Value → Shared → Prop} (K : c.OkW mg mb) (I : Inv c σ μ P φ s) (hx : (x, d) ∈ σ)
    (h : ∀ v, R P φ v d → (x == ("__debug__" : Str)) = false → Q v s) : wpAny M A (loadName c.env x) Q E s := by
  obtain ⟨v, H, hr⟩ := I.vars x d hx
  rcases H with ⟨q, m, n, e⟩ | ⟨q, ca, n, hw, e⟩ | ⟨q, ca, o, n, e, e2⟩
  · exact wpAny_loadName_local K.kind q n e (h v hr (K.nm _ _ q).1)
  · exact wpAny_loadName_cell K.kind q n e (h v hr (K.nm _ _ q).1)
  · rcases q with q | q
    · exact wpAny_loadName_free K.kind q n ⟨o, I.fz _ _ e, e2⟩ (h v hr (K.nm _ _ q).1) (K.nm _ _ q).2
    · exact wpAny_loadName_cell K.kind q n ⟨o, I.fz _ _ e, e2⟩ (h v hr (K.nm _ _ q).1)
end

/-! ### the judgements -/
noncomputable abbrev noE : Value → Shared → Prop := fun _ _ => False
inductive PV (c : Cx) (σ : List (Str × D)) (P : Facts) (φ : List Addr) (Q : D → List MO → Prop) (v : Value) (s' : Shared) : Prop
  | mk (d : D) (μ' : List MO) (P' : Facts) (φ' : List Addr) (l : Le P P') (f : φ <+: φ') (r : R P' φ' v d) (I : Inv c σ μ' P' φ' s') (q : Q d μ') : PV c σ P φ Q v s'
inductive PVs (c : Cx) (σ : List (Str × D)) (P : Facts) (φ : List Addr) (Q : List D → List MO → Prop) (v : List Value) (s' : Shared) : Prop
  | mk (d : List D) (μ' : List MO) (P' : Facts) (φ' : List Addr) (l : Le P P') (f : φ <+: φ') (r : Rs P' φ' v d) (I : Inv c σ μ' P' φ' s') (q : Q d μ') : PVs c σ P φ Q v s'
inductive PB (c : Cx) (σ : List (Str × D)) (P : Facts) (φ : List Addr) (Q : Bool → List MO → Prop) (b : Bool) (s' : Shared) : Prop
  | mk (μ' : List MO) (P' : Facts) (φ' : List Addr) (l : Le P P') (f : φ <+: φ') (I : Inv c σ μ' P' φ' s') (q : Q b μ') : PB c σ P φ Q b s'

/-- an expression, from the variables σ and the lists μ, gives data of which Q is told -/
noncomputable def EvT (c : Cx) (σ : List (Str × D)) (μ : List MO) (t : Sem Value) (Q : D → List MO → Prop) : Prop :=
  ∀ P φ s, Inv c σ μ P φ s → wpAny (model c.prog c.w) c.A t (PV c σ P φ Q) noE s

/-- several expressions -/
noncomputable def EvsT (c : Cx) (σ : List (Str × D)) (μ : List MO) (t : Sem (List Value)) (Q : List D → List MO → Prop) : Prop :=
  ∀ P φ s, Inv c σ μ P φ s → wpAny (model c.prog c.w) c.A t (PVs c σ P φ Q) noE s

/-- a test -/
noncomputable def TsT (c : Cx) (σ : List (Str × D)) (μ : List MO) (t : Sem Bool) (Q : Bool → List MO → Prop) : Prop :=
  ∀ P φ s, Inv c σ μ P φ s → wpAny (model c.prog c.w) c.A t (PB c σ P φ Q) noE s

/-- an operation on values that are at hand -/
noncomputable def OpT (c : Cx) (σ : List (Str × D)) (μ : List MO) (ds : List D) (f : List Value → Sem Value) (Q : D → List MO → Prop) : Prop :=
  ∀ P φ s vs, Inv c σ μ P φ s → Rs P φ vs ds → wpAny (model c.prog c.w) c.A (f vs) (PV c σ P φ Q) noE s

inductive Fl where
  | next | brk | cont | ret (d : D)

inductive FlR (P : Facts) (φ : List Addr) : Flow → Fl → Prop
  | next : FlR P φ .next .next
  | brk : FlR P φ .brk .brk
  | cont : FlR P φ .cont .cont
  | ret {v : Value} {d : D} : R P φ v d → FlR P φ (.ret v) (.ret d)

noncomputable def FlR.Inv (P : Facts) (φ : List Addr) : Fl → Flow → Prop
  | .next, f => f = .next
  | .brk, f => f = .brk
  | .cont, f => f = .cont
  | .ret d, f => ∃ v, f = .ret v ∧ R P φ v d
theorem FlR.inv {P : Facts} {φ : List Addr} {f : Flow} {fl : Fl} (h : FlR P φ f fl) : FlR.Inv P φ fl f := by
  cases h with
  | next => exact rfl
  | brk => exact rfl
  | cont => exact rfl
  | ret a => exact ⟨_, rfl, a⟩
inductive PF (c : Cx) (P : Facts) (Q : Fl → List (Str × D) → List MO → Prop) (f : Flow) (s' : Shared) : Prop
  | mk (fl : Fl) (σ' : List (Str × D)) (μ' : List MO) (P' : Facts) (φ' : List Addr) (l : Le P P') (r : FlR P' φ' f fl) (I : Inv c σ' μ' P' φ' s') (q : Q fl σ' μ') : PF c P Q f s'
/-- a statement, or several -/
noncomputable def TrT (c : Cx) (σ : List (Str × D)) (μ : List MO) (t : Sem Flow) (Q : Fl → List (Str × D) → List MO → Prop) : Prop :=
  ∀ P φ s, Inv c σ μ P φ s → wpAny (model c.prog c.w) c.A t (PF c P Q) noE s
end -- QCore

section -- QTop
noncomputable def vw : Program := view PySem.Challenge.pw_in0050_01 [0, 2, 4, 6, 7, 9, 10, 12, 14, 15, 16, 17, 18, 19, 20, 21, 22, 23, 24, 25, 26, 27, 28]
noncomputable def lse : List Str := [Str.ofString "_initial_missing", Str.ofString "reduce", Str.ofString "_twin_re_1", Str.ofString "_special_chars_map"]
noncomputable def ent (P : Params) (x : String) (t : Nat) (v : Value) : DictEntry := { hash := PyData.keyHash P (Str.ofString x), key := .str (Str.ofString x) t, val := v }
noncomputable def fnO (i : Nat) (d : Value) (m : String) (t : Nat) (cd : Addr) : Obj := { cls := .type "function", data := .func { Calls.docDef (defAt i).name (defAt i).params (defAt i).body (defAt i).scope (.str (Str.ofString m) t) (.ref cd) .none with defaults := d } }
noncomputable def txO (x : String) (t : Nat) : Value := .str (Str.ofString x) t
noncomputable def mainO (P : Params) : Obj := { cls := .type "dict", data := .dict #[
  ent P "__name__" 165 (txO "law_in0050_01" 540), ent P "__doc__" 166 .none, ent P "__package__" 167 .none, ent P "__loader__" 168 (.builtin "__main__.__loader__#opaque"), ent P "__spec__" 169 .none,
  ent P "__annotations__" 170 (.ref 6), ent P "__builtins__" 171 (.ref 4), ent P "__file__" 173 (txO "/claim/cut.py" 172), ent P "__cached__" 174 .none, ent P "_sre" 275 (.ref 12),
  ent P "_initial_missing" 284 (.ref 32), ent P "reduce" 296 (.ref 40), ent P "_twin_re_1" 334 (.ref 45), ent P "_special_chars_map" 482 (.ref 47), ent P "escape" 489 (.ref 57), ent P "_translate" 510 (.ref 64),
  ent P "_join_translated_parts" 523 (.ref 71), ent P "sorted_list_difference" 539 (.ref 78), ent P "_law_item" 551 (.ref 85), ent P "_law_read" 563 (.ref 92), ent P "_law_fits" 574 (.ref 99), ent P "_law_takes" 587 (.ref 106),
  ent P "_law_sign" 594 (.ref 113), ent P "_law_drawn" 604 (.ref 120), ent P "_law_built" 616 (.ref 127), ent P "_law_stretch" 626 (.ref 134), ent P "_law_means" 632 (.ref 139), ent P "_law_told" 638 (.ref 144),
  ent P "_law_both" 646 (.ref 151), ent P "_law_then" 652 (.ref 156), ent P "_law_found" 669 (.ref 163), ent P "_law_right" 675 (.ref 168), ent P "law" 681 (.ref 173)] 33 }
noncomputable def cdO (x : String) (t n k s : Nat) (a b c d e : Addr) (q f : Nat) : Obj := { cls := .type "code", data := .fields #[txO x t, txO x (t + 1), txO "/claim/cut.py" (t + 2), .int n 0, .int 3 0, .int 0 0, .int 0 0, .int 3 0, .ref a, .bool true, .int k 0, .ref b, .none, .ref c, .ref d, .ref e, .int q 0, .int f 0, txO "/claim/cut.py" s] }
noncomputable def KH (P : Params) : Frag := [(3, mainO P), (32, { cls := .type "object" }), (33, { cls := .type "tuple", data := .seq #[.ref 32] }),
  (39, cdO "reduce" 285 4 276 295 34 35 36 37 38 294 4), (40, fnO 3 (.ref 33) "cpy313.functools" 282 39), (44, codeObj), (45, patObj 44), (47, mapObj),
  (63, cdO "_translate" 492 26 276 509 58 59 60 61 62 508 26), (64, fnO 9 .none "cpy313.fnmatch" 490 63)]
noncomputable def asH : List Addr := [3, 32, 33, 39, 40, 44, 45, 47, 63, 64]
theorem asH_eq (P : Params) : asH = (KH P).map (·.1) := rfl
noncomputable abbrev XtH (s : Shared) : Bool := xlAt vw [] s && recOk (RowW.records PySem.Challenge.rw_in0050_01.row.toRowW) s
noncomputable abbrev HkH : Hook := kmHook KH asH asH_eq [59]
noncomputable abbrev LeftAt (w : World) : Prop := (openEnds treeTable PySem.Challenge.pw_in0050_01 w 4210).map (fun s => (openSeen vw lse (importedModules PySem.Challenge.pw_in0050_01.main.body) XtH true s, HkH.obs s)) = some (openGood vw lse, HkH.val w)
theorem left_ff (w : World) : LeftAt ((w.withFollow "comprehension-iter-twice" false).withFollow "special-get-raises" false) := by
  unfold LeftAt openEnds fencedOpening topFrom
  rw [PySem.W.Fast.te10274390034422433532, PySem.W.Fast.te14082659384304107361, PySem.W.Fast.te14364793385576792824, PySem.W.Fast.te14289696077712309145, PySem.W.Fast.te4187177175401517315, PySem.W.Fast.te1435165496053646825]
  kernel_rfl
theorem left_ft (w : World) : LeftAt ((w.withFollow "comprehension-iter-twice" false).withFollow "special-get-raises" true) := by
  unfold LeftAt openEnds fencedOpening topFrom
  rw [PySem.W.Fast.te10274390034422433532, PySem.W.Fast.te14082659384304107361, PySem.W.Fast.te14364793385576792824, PySem.W.Fast.te14289696077712309145, PySem.W.Fast.te4187177175401517315, PySem.W.Fast.te1435165496053646825]
  kernel_rfl
theorem left_tf (w : World) : LeftAt ((w.withFollow "comprehension-iter-twice" true).withFollow "special-get-raises" false) := by
  unfold LeftAt openEnds fencedOpening topFrom
  rw [PySem.W.Fast.te10274390034422433532, PySem.W.Fast.te14082659384304107361, PySem.W.Fast.te14364793385576792824, PySem.W.Fast.te14289696077712309145, PySem.W.Fast.te4187177175401517315, PySem.W.Fast.te1435165496053646825]
  kernel_rfl
theorem left_tt (w : World) : LeftAt ((w.withFollow "comprehension-iter-twice" true).withFollow "special-get-raises" true) := by
  unfold LeftAt openEnds fencedOpening topFrom
  rw [PySem.W.Fast.te10274390034422433532, PySem.W.Fast.te14082659384304107361, PySem.W.Fast.te14364793385576792824, PySem.W.Fast.te14289696077712309145, PySem.W.Fast.te4187177175401517315, PySem.W.Fast.te1435165496053646825]
  kernel_rfl
theorem left (w : World) : LeftAt w :=
  byRow2 "special-get-raises" (P := LeftAt) (fun w => byRow2 "comprehension-iter-twice" (P := fun w => LeftAt (w.withFollow "special-get-raises" false)) left_ff left_tf w) (fun w => byRow2 "comprehension-iter-twice" (P := fun w => LeftAt (w.withFollow "special-get-raises" true)) left_ft left_tt w) w
theorem saidH : OpenLaw.wellSaid PySem.Challenge.rw_in0050_01 = true := by
  rw [PySem.W.Fast.te9446332074065402090]
  kernel_rfl
noncomputable def dLaw : DefRec := defAt 28
theorem defH : defOf vw PySem.Challenge.rw_in0050_01.row.name = some (dLaw, []) := by kernel_rfl
theorem defP : PySem.Challenge.rw_in0050_01.row.prog.theDef PySem.Challenge.rw_in0050_01.row.name = some (dLaw.params, dLaw.body, dLaw.scope) := by kernel_rfl
theorem defK : kwWritten? dLaw.params.kwonlyargs dLaw.params.kw_defaults = some [] := by kernel_rfl
theorem okH : (chainsOk vw && opensWell PySem.Challenge.rw_in0050_01.row.prog && (frees PySem.Challenge.rw_in0050_01.row.toRowW && PySem.Challenge.rw_in0050_01.row.within.isEmpty)) = true := by kernel_rfl
theorem bareH : PySem.Challenge.rw_in0050_01.row.prog.bare := ⟨rfl, rfl, rfl, rfl, rfl, by decide +kernel⟩
theorem head (call : WalkO vw lse (XL vw []) HkH.says PySem.Challenge.rw_in0050_01.row.toRowW dLaw [] fun f vs => PySem.call f vs) : PySem.Challenge.rw_in0050_01.Holds := by
  refine holds_law saidH fun sd => holds_open (q := vw) (loose := lse) (Xt := XtH) (XP := XL vw []) (Yf := HkH.obs) (Ya := HkH.val) (YP := HkH.says) (N := 4210) left HkH.of HkH.keeps (fun s e => xl_of s (Bool.and_eq_true_iff.mp e).1) XL.keeps defH defP defK (fun s e => recFacts_of (Bool.and_eq_true_iff.mp e).2) (by kernel_rfl) sd okH bareH ?hw call
  case hw => w_witness2
end -- QTop

section -- QRules
section
variable {c : Cx} {σ σ' : List (Str × D)} {μ : List MO} {P : Facts} {φ : List Addr} {s : Shared} {mg mb : Str → Option Value}

theorem Le.rfl {P : Facts} : Le P P := fun _ _ h => h
theorem Le.trans {P P' P'' : Facts} (a : Le P P') (b : Le P' P'') : Le P P'' := fun _ _ h => b _ _ (a _ _ h)

theorem EvT.use {α : Type} {t : Sem Value} {f : Value → Sem α} {Q : D → List MO → Prop} {X : α → Shared → Prop} {E : Value → Shared → Prop} (h : EvT c σ μ t Q) (I : Inv c σ μ P φ s)
    (k : ∀ v s' d μ' P' φ', Le P P' → φ <+: φ' → R P' φ' v d → Inv c σ μ' P' φ' s' → Q d μ' → wpAny (model c.prog c.w) c.A (f v) X E s') :
    wpAny (model c.prog c.w) c.A t (fun v s' => wpAny (model c.prog c.w) c.A (f v) X E s') E s :=
  wpAny_mono (h P φ s I) (fun v s' ⟨d, μ', P', φ', l, f, r, I', q⟩ => k v s' d μ' P' φ' l f r I' q) fun _ _ x => x.elim
theorem EvT.at {t : Sem Value} {Q : D → List MO → Prop} {X : Value → Shared → Prop} {E : Value → Shared → Prop} (h : EvT c σ μ t Q) (I : Inv c σ μ P φ s)
    (k : ∀ v s' d μ' P' φ', Le P P' → φ <+: φ' → R P' φ' v d → Inv c σ μ' P' φ' s' → Q d μ' → X v s') :
    wpAny (model c.prog c.w) c.A t X E s :=
  wpAny_mono (h P φ s I) (fun v s' ⟨d, μ', P', φ', l, f, r, I', q⟩ => k v s' d μ' P' φ' l f r I' q) fun _ _ x => x.elim
theorem EvsT.at {t : Sem (List Value)} {Q : List D → List MO → Prop} {X : List Value → Shared → Prop} {E : Value → Shared → Prop} (h : EvsT c σ μ t Q) (I : Inv c σ μ P φ s)
    (k : ∀ v s' d μ' P' φ', Le P P' → φ <+: φ' → Rs P' φ' v d → Inv c σ μ' P' φ' s' → Q d μ' → X v s') :
    wpAny (model c.prog c.w) c.A t X E s :=
  wpAny_mono (h P φ s I) (fun v s' ⟨d, μ', P', φ', l, f, r, I', q⟩ => k v s' d μ' P' φ' l f r I' q) fun _ _ x => x.elim
theorem TsT.at {t : Sem Bool} {Q : Bool → List MO → Prop} {X : Bool → Shared → Prop} {E : Value → Shared → Prop} (h : TsT c σ μ t Q) (I : Inv c σ μ P φ s)
    (k : ∀ v s' μ' P' φ', Le P P' → φ <+: φ' → Inv c σ μ' P' φ' s' → Q v μ' → X v s') :
    wpAny (model c.prog c.w) c.A t X E s :=
  wpAny_mono (h P φ s I) (fun v s' ⟨μ', P', φ', l, f, I', q⟩ => k v s' μ' P' φ' l f I' q) fun _ _ x => x.elim
theorem TrT.at {t : Sem Flow} {Q : Fl → List (Str × D) → List MO → Prop} {X : Flow → Shared → Prop} {E : Value → Shared → Prop} (h : TrT c σ μ t Q) (I : Inv c σ μ P φ s)
    (k : ∀ v s' fl σ' μ' P' φ', Le P P' → FlR P' φ' v fl → Inv c σ' μ' P' φ' s' → Q fl σ' μ' → X v s') :
    wpAny (model c.prog c.w) c.A t X E s :=
  wpAny_mono (h P φ s I) (fun v s' ⟨fl, σ', μ', P', φ', l, r, I', q⟩ => k v s' fl σ' μ' P' φ' l r I' q) fun _ _ x => x.elim
theorem OpT.at {ds : List D} {f : List Value → Sem Value} {vs : List Value} {Q : D → List MO → Prop} {X : Value → Shared → Prop} {E : Value → Shared → Prop} (h : OpT c σ μ ds f Q) (I : Inv c σ μ P φ s) (rs : Rs P φ vs ds)
    (k : ∀ v s' d μ' P' φ', Le P P' → φ <+: φ' → R P' φ' v d → Inv c σ μ' P' φ' s' → Q d μ' → X v s') :
    wpAny (model c.prog c.w) c.A (f vs) X E s :=
  wpAny_mono (h P φ s vs I rs) (fun v s' ⟨d, μ', P', φ', l, f, r, I', q⟩ => k v s' d μ' P' φ' l f r I' q) fun _ _ x => x.elim

theorem EvT.mono {t : Sem Value} {Q Q' : D → List MO → Prop} (h : EvT c σ μ t Q) (k : ∀ d μ', Q d μ' → Q' d μ') : EvT c σ μ t Q' :=
  fun _ _ _ I => h.at I fun v s' d μ' P' φ' l f r I' q => ⟨d, μ', P', φ', l, f, r, I', k _ _ q⟩
theorem TrT.mono {t : Sem Flow} {Q Q' : Fl → List (Str × D) → List MO → Prop} (h : TrT c σ μ t Q) (k : ∀ d σ' μ', Q d σ' μ' → Q' d σ' μ') : TrT c σ μ t Q' :=
  fun _ _ _ I => h.at I fun v s' fl σ' μ' P' φ' l r I' q => ⟨fl, σ', μ', P', φ', l, r, I', k _ _ _ q⟩
theorem TrT.forget {σ' : List (Str × D)} {t : Sem Flow} {Q : Fl → List (Str × D) → List MO → Prop} (hs : ∀ p ∈ σ', p ∈ σ) (h : TrT c σ' μ t Q) : TrT c σ μ t Q :=
  fun P φ s I => h P φ s (I.weaken hs)

/-! ### what stands behind: by name, so that no text of a proof bears it twice -/
noncomputable abbrev KV := D → List MO → Prop
noncomputable abbrev KB := Bool → List MO → Prop
noncomputable abbrev KS := Fl → List (Str × D) → List MO → Prop
theorem ite_t {b : Bool} {A B : Prop} (e : b = true) (h : A) : if b = true then A else B := (if_pos e).mpr h
theorem ite_f {b : Bool} {A B : Prop} (e : b = false) (h : B) : if b = true then A else B := (if_neg (e ▸ Bool.false_ne_true)).mpr h
theorem ite_n {b : Bool} {A B : Prop} (e : ¬ b = true) (h : B) : if b = true then A else B := (if_neg e).mpr h
theorem ite_c {b : Bool} {A B : Prop} (h1 : b = true → A) (h2 : ¬ b = true → B) : if b = true then A else B := dite (b = true) (fun e => ite_t e (h1 e)) fun e => ite_n e (h2 e)
theorem ite_T {A B : Prop} (h : if true = true then A else B) : A := (if_pos rfl).mp h
theorem ite_F {A B : Prop} (h : if false = true then A else B) : B := (if_neg Bool.false_ne_true).mp h
noncomputable abbrev kRet (σ : List (Str × D)) (Q : KS) : KV := fun d μ' => Q (.ret d) σ μ'
noncomputable abbrev kAsg (σ : List (Str × D)) (x : Str) (Q : KS) : KV := fun d μ' => ∃ σ', Upd σ x d σ' ∧ Q .next σ' μ'
noncomputable abbrev kIf (c : Cx) (σ : List (Str × D)) (body orelse : List Stmt) (Q : KS) : KB := fun b μ' => if b = true then TrT c σ μ' (execs body c.env) Q else TrT c σ μ' (execs orelse c.env) Q
noncomputable abbrev kIfE (c : Cx) (σ : List (Str × D)) (body orelse : Expr) (Q : KV) : KB := fun b μ' => if b = true then EvT c σ μ' (eval body c.env) Q else EvT c σ μ' (eval orelse c.env) Q
noncomputable abbrev kBin2 (c : Cx) (σ : List (Str × D)) (f : List Value → Sem Value) (a : D) (Q : KV) : KV := fun b μ₂ => OpT c σ μ₂ [a, b] f Q
noncomputable abbrev kBin (c : Cx) (σ : List (Str × D)) (r : Expr) (f : List Value → Sem Value) (Q : KV) : KV := fun a μ₁ => EvT c σ μ₁ (eval r c.env) (kBin2 c σ f a Q)
noncomputable abbrev kUn (c : Cx) (σ : List (Str × D)) (f : List Value → Sem Value) (Q : KV) : KV := fun a μ₁ => OpT c σ μ₁ [a] f Q
noncomputable abbrev kTst (Q : KB) : KV := fun d μ₃ => ∃ b, d = .bool b ∧ Q b μ₃
noncomputable abbrev kNot (Q : KB) : KB := fun b μ' => Q (!b) μ'
/-! ### another writing of what is at hand -/
theorem qi {Q : KV} {i j : Int} {μ : List MO} (e : i = j) (h : Q (.int j) μ) : Q (.int i) μ := e ▸ h
theorem qs {Q : KV} {i j : Str} {μ : List MO} (e : i = j) (h : Q (.str j) μ) : Q (.str i) μ := e ▸ h
theorem qb {Q : KV} {i j : Bool} {μ : List MO} (e : i = j) (h : Q (.bool j) μ) : Q (.bool i) μ := e ▸ h
theorem qt {Q : KB} {i j : Bool} {μ : List MO} (e : i = j) (h : Q j μ) : Q i μ := e ▸ h
theorem qm {α : Type} {Q : α → List MO → Prop} {d : α} {μ μ' : List MO} (e : μ = μ') (h : Q d μ') : Q d μ := e ▸ h
theorem q1 {ds : List D} {f : List Value → Sem Value} {Q : KV} {i j : Int} (e : i = j) (h : OpT c σ μ (.int j :: ds) f Q) : OpT c σ μ (.int i :: ds) f Q := e ▸ h
/-! ### statements -/
noncomputable def afterSt (c : Cx) (rest : Sem Flow) (Q : Fl → List (Str × D) → List MO → Prop) : Fl → List (Str × D) → List MO → Prop
  | .next, σ, μ => TrT c σ μ rest Q
  | fl, σ, μ => Q fl σ μ

theorem tr_nil {Q : Fl → List (Str × D) → List MO → Prop} (h : Q .next σ μ) : TrT c σ μ (execs [] c.env) Q :=
  fun P φ s I => wpAny_execs_nil ⟨.next, σ, μ, P, φ, Le.rfl, .next, I, h⟩
theorem tr_cons {st : Stmt} {rest : List Stmt} {Q : Fl → List (Str × D) → List MO → Prop} (h : TrT c σ μ (exec st c.env) (afterSt c (execs rest c.env) Q)) : TrT c σ μ (execs (st :: rest) c.env) Q :=
  fun P φ s I => wpAny_execs_cons (h.at I fun f s' fl σ' μ' P' φ' l r I' q => by
    cases r with
    | next => exact (show TrT c σ' μ' (execs rest c.env) Q from q).at I' fun f s'' fl σ'' μ'' P'' φ'' l' r' I'' q' => ⟨fl, σ'', μ'', P'', φ'', l.trans l', r', I'', q'⟩
    | brk => exact ⟨.brk, σ', μ', P', φ', l, .brk, I', q⟩
    | cont => exact ⟨.cont, σ', μ', P', φ', l, .cont, I', q⟩
    | ret hr => exact ⟨.ret _, σ', μ', P', φ', l, .ret hr, I', q⟩)

theorem tr_ret {e : Expr} {pos : Pos} {Q : Fl → List (Str × D) → List MO → Prop} (h : EvT c σ μ (eval e c.env) (kRet σ Q)) : TrT c σ μ (exec (.Return (some e) pos) c.env) Q :=
  fun P φ s I => wpAny_Return_some (h.at I fun v s' d μ' P' φ' l f r I' q => ⟨.ret d, σ, μ', P', φ', l, .ret r, I', q⟩)

theorem tr_assign {x : Str} {pos' pos : Pos} {value : Expr} {Q : Fl → List (Str × D) → List MO → Prop} (K : c.Ok mg mb)
    (hk : c.st x)
    (h : EvT c σ μ (eval value c.env) (kAsg σ x Q))
    (hs : swapsWith value (some (.Name x pos')) pos.line c.env = pure false := by rfl) : TrT c σ μ (exec (.Assign [.Name x pos'] value pos) c.env) Q :=
  fun P φ s I => wpAny_Assign_Name (h.at I fun v s' d μ' P' φ' l f r I' ⟨σ', u, q⟩ =>
    store_ok K.toOkW I' hk u r fun s'' I'' => ⟨.next, σ', μ', P', φ', l, .next, I'', q⟩) hs

theorem tr_if {test : Expr} {body orelse : List Stmt} {pos : Pos} {Q : Fl → List (Str × D) → List MO → Prop}
    (h : TsT c σ μ (isTrue test c.env (eval test c.env)) (kIf c σ body orelse Q)) :
    TrT c σ μ (exec (.If test body orelse pos) c.env) Q :=
  fun P φ s I => wpAny_If (h.at I fun b s' μ' P' φ' l f I' q => by
    cases b with
    | true =>
      simp only [if_true]
      replace q := ite_T q
      exact q.at I' fun f s'' fl σ'' μ'' P'' φ'' l' r' I'' q' => ⟨fl, σ'', μ'', P'', φ'', l.trans l', r', I'', q'⟩
    | false =>
      simp only [Bool.false_eq_true, if_false]
      replace q := ite_F q
      exact q.at I' fun f s'' fl σ'' μ'' P'' φ'' l' r' I'' q' => ⟨fl, σ'', μ'', P'', φ'', l.trans l', r', I'', q'⟩)

/-! ### expressions -/
theorem ev_name {x : Str} {pos : Pos} {d : D} {Q : D → List MO → Prop} (K : c.OkW mg mb) (hx : (x, d) ∈ σ) (h : Q d μ) : EvT c σ μ (eval (.Name x pos) c.env) Q :=
  fun P φ s I => wpAny_Name (load_ok K I hx (fun v r _ => ⟨d, μ, P, φ, Le.rfl, List.prefix_refl _, r, I, h⟩)) (name_plain K I hx)
theorem ev_global {x : Str} {pos : Pos} {v : Value} {Q : D → List MO → Prop} (K : c.Ok mg mb) (hk : c.env.kindOf x = some .globalImplicit) (hx : mg x = some v) (h : Q (.opq v) μ) : EvT c σ μ (eval (.Name x pos) c.env) Q :=
  fun P φ s I => Calls.Name_function_global K.kind hk (Calls.loadGlobal_global (mg := mg) (by rw [K.glob]; exact I.base.ns K.base.g) hx ⟨.opq v, μ, P, φ, Le.rfl, List.prefix_refl _, .opq v, I, h⟩) (K.nm _ _ hk).1
theorem ev_builtin {x : Str} {pos : Pos} {v : Value} {Q : D → List MO → Prop} (K : c.Ok mg mb) (hk : c.env.kindOf x = some .globalImplicit) (hx : mg x = none) (hb : mb x = some v) (h : Q (.opq v) μ) : EvT c σ μ (eval (.Name x pos) c.env) Q :=
  fun P φ s I => Calls.Name_function_global K.kind hk (Calls.loadGlobal_builtin (mg := mg) (mb := mb) (by rw [K.glob]; exact I.base.ns K.base.g) hx (by rw [K.blt]; exact I.base.ns K.base.b) hb ⟨.opq v, μ, P, φ, Le.rfl, List.prefix_refl _, .opq v, I, h⟩) (K.nm _ _ hk).1

theorem ev_int {i : Int} {k : Nat} {pos : Pos} {Q : D → List MO → Prop} (h : Q (.int i) μ) : EvT c σ μ (eval (.Constant (.int i) k pos) c.env) Q :=
  fun P φ s I => wpAny_Constant_int ⟨.int i, μ, P, φ, Le.rfl, List.prefix_refl _, .int i _, I.tok _, h⟩
theorem ev_str {x : Str} {k : Nat} {pos : Pos} {Q : D → List MO → Prop} (h : Q (.str x) μ) : EvT c σ μ (eval (.Constant (.str x) k pos) c.env) Q :=
  fun P φ s I => wpAny_Constant_str ⟨.str x, μ, P, φ, Le.rfl, List.prefix_refl _, .str x _, I.tok _, h⟩
theorem ev_bool {b : Bool} {k : Nat} {pos : Pos} {Q : D → List MO → Prop} (h : Q (.bool b) μ) : EvT c σ μ (eval (.Constant (.bool b) k pos) c.env) Q :=
  fun P φ s I => wpAny_Constant_bool ⟨.bool b, μ, P, φ, Le.rfl, List.prefix_refl _, .bool b, I, h⟩
theorem ev_none {k : Nat} {pos : Pos} {Q : D → List MO → Prop} (h : Q .none μ) : EvT c σ μ (eval (.Constant .none k pos) c.env) Q :=
  fun P φ s I => wpAny_Constant_none ⟨.none, μ, P, φ, Le.rfl, List.prefix_refl _, .none, I, h⟩

noncomputable def op2 (f : Value → Value → Sem Value) : List Value → Sem Value
  | [a, b] => f a b
  | _ => Sem.unsupported "two"
noncomputable def op1 (f : Value → Sem Value) : List Value → Sem Value
  | [a] => f a
  | _ => Sem.unsupported "one"

theorem ev_binop {l r : Expr} {op : Operator} {pos : Pos} {Q : D → List MO → Prop}
    (h : EvT c σ μ (eval l c.env) (kBin c σ r (op2 (binaryOp op)) Q)) : EvT c σ μ (eval (.BinOp l op r pos) c.env) Q :=
  fun P φ s I => wpAny_BinOp (h.at I fun v₁ s₁ d₁ μ₁ P₁ φ₁ l₁ f₁ r₁ I₁ q₁ => q₁.at I₁ fun v₂ s₂ d₂ μ₂ P₂ φ₂ l₂ f₂ r₂ I₂ q₂ =>
    q₂.at (vs := [v₁, v₂]) I₂ (.cons (r₁.mono l₂ f₂) (.cons r₂ .nil)) fun v s' d μ' P' φ' l f r I' q => ⟨d, μ', P', φ', (l₁.trans l₂).trans l, (f₁.trans f₂).trans f, r, I', q⟩)
theorem ev_compare {l r : Expr} {op : CmpOp} {pos : Pos} {Q : D → List MO → Prop}
    (h : EvT c σ μ (eval l c.env) (kBin c σ r (op2 (compareOp op)) Q))
    (hm : behindInMarks op r = false := by with_unfolding_all rfl) : EvT c σ μ (eval (.Compare l [op] [r] pos) c.env) Q :=
  fun P φ s I => wpAny_Compare1 (h.at I fun v₁ s₁ d₁ μ₁ P₁ φ₁ l₁ f₁ r₁ I₁ q₁ => q₁.at I₁ fun v₂ s₂ d₂ μ₂ P₂ φ₂ l₂ f₂ r₂ I₂ q₂ =>
    q₂.at (vs := [v₁, v₂]) I₂ (.cons (r₁.mono l₂ f₂) (.cons r₂ .nil)) fun v s' d μ' P' φ' l f r I' q => ⟨d, μ', P', φ', (l₁.trans l₂).trans l, (f₁.trans f₂).trans f, r, I', q⟩) hm
theorem ev_unary {x : Expr} {op : UnaryOp} {pos : Pos} {Q : D → List MO → Prop} (h : EvT c σ μ (eval x c.env) (kUn c σ (op1 (unaryOp op)) Q)) : EvT c σ μ (eval (.UnaryOp op x pos) c.env) Q :=
  fun P φ s I => wpAny_UnaryOp (h.at I fun v₁ s₁ d₁ μ₁ P₁ φ₁ l₁ f₁ r₁ I₁ q₁ =>
    q₁.at (vs := [v₁]) I₁ (.cons r₁ .nil) fun v s' d μ' P' φ' l f r I' q => ⟨d, μ', P', φ', l₁.trans l, f₁.trans f, r, I', q⟩)
theorem ev_ifexp {test body orelse : Expr} {pos : Pos} {Q : D → List MO → Prop}
    (h : TsT c σ μ (isTrue test c.env (eval test c.env)) (kIfE c σ body orelse Q)) :
    EvT c σ μ (eval (.IfExp test body orelse pos) c.env) Q :=
  fun P φ s I => wpAny_IfExp (h.at I fun b s' μ' P' φ' l f I' q => by
    cases b with
    | true =>
      simp only [if_true]
      replace q := ite_T q
      exact q.at I' fun v s' d μ' P' φ' l' f' r I' q => ⟨d, μ', P', φ', l.trans l', f.trans f', r, I', q⟩
    | false =>
      simp only [Bool.false_eq_true, if_false]
      replace q := ite_F q
      exact q.at I' fun v s' d μ' P' φ' l' f' r I' q => ⟨d, μ', P', φ', l.trans l', f.trans f', r, I', q⟩)

/-! ### tests -/
theorem ts_compare {l r : Expr} {op : CmpOp} {pos : Pos} {whole : Sem Value} {Q : Bool → List MO → Prop}
    (h : EvT c σ μ (eval l c.env) (kBin c σ r (op2 (compareOp op)) (kTst Q)))
    (hm : behindInMarks op r = false := by with_unfolding_all rfl) : TsT c σ μ (isTrue (.Compare l [op] [r] pos) c.env whole) Q :=
  fun P φ s I => wpAny_isTrue_Compare1 (h.at I fun v₁ s₁ d₁ μ₁ P₁ φ₁ l₁ f₁ r₁ I₁ q₁ => q₁.at I₁ fun v₂ s₂ d₂ μ₂ P₂ φ₂ l₂ f₂ r₂ I₂ q₂ =>
    q₂.at (vs := [v₁, v₂]) I₂ (.cons (r₁.mono l₂ f₂) (.cons r₂ .nil)) fun v s' d μ' P' φ' l f r I' ⟨b, hb, q⟩ => by
      subst hb; (first | obtain rfl := r.inv | obtain ⟨_, rfl⟩ := r.inv)
      exact wpAny_truthy_bool ⟨μ', P', φ', (l₁.trans l₂).trans l, (f₁.trans f₂).trans f, I', q⟩) hm
theorem ts_not {x : Expr} {pos : Pos} {whole : Sem Value} {Q : Bool → List MO → Prop} (h : TsT c σ μ (isTrue x c.env (eval x c.env)) (kNot Q)) :
    TsT c σ μ (isTrue (.UnaryOp .Not x pos) c.env whole) Q :=
  fun P φ s I => wpAny_isTrue_Not (h.at I fun b s' μ' P' φ' l f I' q => ⟨μ', P', φ', l, f, I', q⟩)
theorem ts_and {values : List Expr} {pos : Pos} {whole : Sem Value} {op : BoolOp} {Q : Bool → List MO → Prop} (h : TsT c σ μ (allTrue op values c.env) Q) :
    TsT c σ μ (isTrue (.BoolOp op values pos) c.env whole) Q :=
  fun P φ s I => wpAny_isTrue_BoolOp (h P φ s I)
theorem all_and_nil {Q : Bool → List MO → Prop} (h : Q true μ) : TsT c σ μ (allTrue .And [] c.env) Q :=
  fun P φ s I => wpAny_allTrue_And_nil ⟨μ, P, φ, Le.rfl, List.prefix_refl _, I, h⟩
theorem all_or_nil {Q : Bool → List MO → Prop} (h : Q false μ) : TsT c σ μ (allTrue .Or [] c.env) Q :=
  fun P φ s I => wpAny_allTrue_Or_nil ⟨μ, P, φ, Le.rfl, List.prefix_refl _, I, h⟩
end
end -- QRules

section -- QLoop
mutual
noncomputable def D.pure : D → Bool
  | .ref _ => false
  | .tup l => Ds.pure l
  | .lst l => Ds.pure l
  | _ => true
noncomputable def Ds.pure : List D → Bool
  | [] => true
  | d :: r => D.pure d && Ds.pure r
end

theorem R.pure {P : Facts} {φ ψ : List Addr} {v : Value} {d : D} (h : R P φ v d) : D.pure d = true → R P ψ v d :=
  R.rec (motive_1 := fun v d _ => D.pure d = true → R P ψ v d) (motive_2 := fun vs ds _ => Ds.pure ds = true → Rs P ψ vs ds) (fun _ => .none) (fun _ _ => .bool _) (fun _ _ _ => .int _ _) (fun _ _ _ => .str _ _)
    (fun h1 h2 h3 _ ih e => .tup h1 h2 h3 (ih (by rw [D.pure] at e; exact e))) (fun h1 h2 h3 _ ih e => .lst h1 h2 h3 (ih (by rw [D.pure] at e; exact e))) (fun _ _ => .opq _) (fun _ e => by rw [D.pure] at e; exact nomatch e)
    (fun _ => .nil) (fun _ _ h1 h2 e => by rw [Ds.pure, Bool.and_eq_true] at e; exact .cons (h1 e.1) (h2 e.2)) h

theorem Rs.pure {P : Facts} {φ ψ : List Addr} {v : List Value} {d : List D} (h : Rs P φ v d) (e : Ds.pure d = true) : Rs P ψ v d :=
  h.ind (M := fun vs ds => Ds.pure ds = true → Rs P ψ vs ds) (fun _ => .nil) (fun _ _ _ _ a _ ih e => by rw [Ds.pure, Bool.and_eq_true] at e; exact .cons (a.pure e.1) (ih e.2)) e

structure Inert (o : Obj) : Prop where
  seq : ∀ vs n, o.data ≠ .seq vs n
  cell : ∀ v, o.data ≠ .cell v

noncomputable abbrev less (P : Facts) (a : Addr) : Facts := fun b o => P b o ∧ b ≠ a
noncomputable abbrev plus (P : Facts) (a : Addr) (o : Obj) : Facts := fun b o' => P b o' ∨ (b = a ∧ o' = o)

theorem R.less {P : Facts} {φ : List Addr} {a : Addr} (hi : ∀ o, P a o → Inert o) {v : Value} {d : D} (h : R P φ v d) : R (less P a) φ v d :=
  R.rec (motive_1 := fun v d _ => R (Q50.less P a) φ v d) (motive_2 := fun vs ds _ => Rs (Q50.less P a) φ vs ds) .none .bool .int .str (fun h1 h2 h3 _ ih => .tup ⟨h1, fun e => (hi _ (e ▸ h1)).seq _ _ h3⟩ h2 h3 ih)
    (fun h1 h2 h3 _ ih => .lst ⟨h1, fun e => (hi _ (e ▸ h1)).seq _ _ h3⟩ h2 h3 ih) .opq .ref .nil (fun _ _ h1 h2 => .cons h1 h2) h
theorem Rs.less {P : Facts} {φ : List Addr} {a : Addr} (hi : ∀ o, P a o → Inert o) {v : List Value} {d : List D} (h : Rs P φ v d) : Rs (Q50.less P a) φ v d :=
  h.ind (M := fun vs ds => Rs (Q50.less P a) φ vs ds) .nil fun _ _ _ _ a _ ih => .cons (a.less hi) ih
theorem MoR.less {P : Facts} {φ : List Addr} {a : Addr} (hi : ∀ o, P a o → Inert o) {o : Obj} {m : MO} (h : MoR P φ o m) : MoR (less P a) φ o m :=
  h.rec (motive := fun o m _ => MoR (Q50.less P a) φ o m) (fun h1 h2 h3 h => .lst h1 h2 h3 (h.less hi)) (fun h => .tab h)
    (fun h1 h2 h3 h4 h5 h => .itr h1 h2 ⟨h3, fun e => (hi _ (e ▸ h3)).seq _ _ h5⟩ h4 h5 (h.less hi)) (fun h => .bnd h)

section
variable {c : Cx} {σ σ' : List (Str × D)} {μ : List MO} {P : Facts} {φ : List Addr} {s : Shared} {mg mb : Str → Option Value}


theorem Inv.retract (I : Inv c σ μ P φ s) {a : Addr} (hi : ∀ o, P a o → Inert o) (h0 : c.h₀.get? a = none) : Inv c σ μ (less P a) φ s where
  fz := fun b o h => I.fz b o h.1
  base := I.base
  src := fun b o h => I.src b o h.1
  gens := I.gens
  os := I.os
  ns := I.ns
  cells := I.cells
  vars := fun x d hx => by
    obtain ⟨v, H, r⟩ := I.vars x d hx
    refine ⟨v, ?_, r.less hi⟩
    rcases H with ⟨q, m, n, e⟩ | ⟨q, ca, n, hw, e⟩ | ⟨q, ca, o, n, e, e2⟩
    · exact .inl ⟨q, m, n, e⟩
    · exact .inr (.inl ⟨q, ca, n, hw, e⟩)
    · exact .inr (.inr ⟨q, ca, o, n, ⟨e, fun z => (hi o (z ▸ e)).cell _ e2⟩, e2⟩)
  len := I.len
  mu := fun k b m h1 h2 => let ⟨o, h3, h4⟩ := I.mu k b m h1 h2; ⟨o, h3, h4.less hi⟩
  nd := I.nd
  apart := fun b hb o h => I.apart b hb o h.1
  apart₀ := I.apart₀
  lt := I.lt

theorem Inv.learn (I : Inv c σ μ P φ s) {a : Addr} {o : Obj} (ho : s.heap.get? a = some o) (hn : a ∉ own c φ) (h0 : c.h₀.get? a = none) : Inv c σ μ (plus P a o) φ s where
  fz := fun b o' h => by rcases h with h | ⟨rfl, rfl⟩; exact I.fz _ _ h; exact ho
  base := I.base
  src := fun b o' h => by
    rcases h with h | ⟨rfl, rfl⟩
    · exact I.src _ _ h
    · exact .inr h0
  gens := I.gens
  os := I.os
  ns := I.ns
  cells := I.cells
  vars := fun x d hx => let ⟨v, H, r⟩ := I.vars x d hx; ⟨v, H.mono (fun _ _ h => .inl h) (fun _ _ e => e), r.mono (fun _ _ h => .inl h) (List.prefix_refl _)⟩
  len := I.len
  mu := fun k b m h1 h2 => let ⟨o, h3, h4⟩ := I.mu k b m h1 h2; ⟨o, h3, h4.mono (fun _ _ h => .inl h) (List.prefix_refl _)⟩
  nd := I.nd
  apart := fun b hb o' h => by
    rcases h with h | ⟨rfl, rfl⟩
    · exact I.apart b hb o' h
    · exact hn hb
  apart₀ := I.apart₀
  lt := I.lt

/-- the heap turned at one address that is neither ours nor known -/
theorem Inv.other (I : Inv c σ μ P φ s) {a : Addr} {h' : Heap} (hs : Heap.ExtBut a s.heap h') (hn : a ∉ own c φ) (hP : ∀ o, ¬ P a o) (h0 : c.h₀.get? a = none) (t : Nat) : Inv c σ μ P φ { s with heap := h', toks := t } := by
  have hL : c.env.locals ≠ a := fun e => hn (e ▸ List.mem_cons_self ..)
  have hw : ∀ b ∈ c.wc, b ≠ a := fun b hb e => hn (e ▸ List.mem_append_left _ (List.mem_cons_of_mem _ hb))
  refine ⟨fun b o h => hs b o (fun e => hP o (e ▸ h)) (I.fz b o h), I.base.ext hs h0, I.src, I.gens, I.os, ?_, fun hro x hx => ?_, fun x d hx => ?_, I.len, fun k b m h1 h2 => ?_, I.nd, I.apart, I.apart₀, fun b hb => ?_⟩
  · obtain ⟨m, n⟩ := I.ns; exact ⟨m, n.extBut hs hL⟩
  · obtain ⟨ca, v, h1, h2, o, h3, h4⟩ := I.cells hro x hx
    exact ⟨ca, v, h1, h2, o, hs _ _ (hw _ h2) h3, h4⟩
  · obtain ⟨v, H, r⟩ := I.vars x d hx
    refine ⟨v, ?_, r⟩
    rcases H with ⟨q, m, n, e⟩ | ⟨q, ca, n, hw', o, e, e'⟩ | ⟨q, ca, o, n, e, e2⟩
    · exact .inl ⟨q, m, n.extBut hs hL, e⟩
    · exact .inr (.inl ⟨q, ca, n, hw', o, hs _ _ (hw _ hw') e, e'⟩)
    · exact .inr (.inr ⟨q, ca, o, n, e, e2⟩)
  · obtain ⟨o, h3, h4⟩ := I.mu k b m h1 h2
    exact ⟨o, hs _ _ (fun e => hn (e ▸ List.mem_append_right _ (List.mem_of_getElem? h1))) h3, h4⟩
  · obtain ⟨o, e⟩ := I.lt b hb; exact ⟨o, hs _ _ (hw b hb) e⟩

noncomputable def nmOf : Expr → Option Str
  | .Name x _ => some x
  | _ => none
theorem nmOf_some {e : Expr} {x : Str} (h : nmOf e = some x) : ∃ p, e = .Name x p := by
  unfold nmOf at h; split at h
  · cases h; exact ⟨_, rfl⟩
  · cases h

inductive PA (c : Cx) (μ : List MO) (P : Facts) (φ : List Addr) (Q : List (Str × D) → Prop) (s' : Shared) : Prop
  | mk (σ' : List (Str × D)) (P' : Facts) (l : Le P P') (I : Inv c σ' μ P' φ s') (q : Q σ') : PA c μ P φ Q s'
/-- storing into a for's target -/
noncomputable def AsgT (c : Cx) (σ : List (Str × D)) (target : Expr) (d : D) (Q : List (Str × D) → Prop) : Prop :=
  ∀ μ P φ s v, Inv c σ μ P φ s → R P φ v d → wpAny (model c.prog c.w) c.A (assign target c.env v) (fun _ s' => PA c μ P φ Q s') noE s

theorem asg_name {x : Str} {pos : Pos} {d : D} {Q : List (Str × D) → Prop} (K : c.Ok mg mb) (hk : c.st x) (hu : Upd σ x d σ') (h : Q σ') : AsgT c σ (.Name x pos) d Q :=
  fun μ P φ s v I r => wpAny_assign_Name (store_ok K.toOkW I hk hu r fun s' I' => ⟨σ', P, Le.rfl, I', h⟩)

/-- several names, each in its turn -/
inductive Upds : List (Str × D) → List Str → List D → List (Str × D) → Prop
  | nil {σ : List (Str × D)} : Upds σ [] [] σ
  | cons {σ σ₁ σ₂ : List (Str × D)} {x : Str} {d : D} {xs : List Str} {ds : List D} : Upd σ x d σ₁ → Upds σ₁ xs ds σ₂ → Upds σ (x :: xs) (d :: ds) σ₂

theorem inOrder_ok (K : c.Ok mg mb) {elts : List Expr} : ∀ {xs : List Str} {σ σ' : List (Str × D)} {ds : List D} {elts : List Expr} {μ : List MO} {P : Facts} {φ : List Addr} {s : Shared} {vs : List Value} {Q : Unit → Shared → Prop} {E : Value → Shared → Prop}, Upds σ xs ds σ' →
    elts.map nmOf = xs.map some → (∀ x ∈ xs, c.st x) → Inv c σ μ P φ s → Rs P φ vs ds →
    (∀ s', Inv c σ' μ P φ s' → Q () s') → wpAny (model c.prog c.w) c.A (assignInOrder ((assignEach elts c.env).map (·.2)) vs) Q E s := by
  intro xs
  induction xs with
  | nil =>
    intro σ σ' ds elts μ P φ s vs Q E u he hk I r h
    cases u
    cases elts with
    | cons e r => simp at he
    | nil => (first | obtain rfl := r.inv | obtain ⟨_, rfl⟩ := r.inv); exact wpAny_pure (h s I)
  | cons x xs ih =>
    intro σ σ' ds elts μ P φ s vs Q E u he hk I r h
    cases u with
    | cons u1 u2 =>
      cases elts with
      | nil => simp at he
      | cons e rest =>
        simp only [List.map_cons, List.cons.injEq] at he
        obtain ⟨e1, e2⟩ := he
        obtain ⟨_, _, rfl, r1, r2⟩ := r.inv
        obtain ⟨p, rfl⟩ := nmOf_some e1
        show wpAny _ _ (do holding _ (assign (.Name x _) c.env _); assignInOrder _ _) _ _ _
        refine wpAny_bind (wpAny_holding (wpAny_assign_Name (store_ok K.toOkW I (hk _ (List.mem_cons_self ..)) u1 r1 fun s' I' => ?_)))
        exact ih u2 e2 (fun y hy => hk y (List.mem_cons_of_mem _ hy)) I' r2 h

theorem each_len : ∀ (elts : List Expr), (∀ x, elts.map nmOf = List.map some x → (assignEach elts c.env).length = x.length ∧ (assignEach elts c.env).findIdx? (·.1) = none)
  | [], x, h => by cases x <;> simp at h; exact ⟨rfl, rfl⟩
  | e :: r, x, h => by
    cases x with
    | nil => simp at h
    | cons y ys =>
      simp only [List.map_cons, List.cons.injEq] at h
      obtain ⟨a, b⟩ := each_len r ys h.2
      obtain ⟨p, rfl⟩ := nmOf_some h.1
      have e0 : assignEach (.Name y p :: r) c.env = (false, assign (.Name y p) c.env) :: assignEach r c.env := rfl
      rw [e0]
      exact ⟨by simp [a], by simp [List.findIdx?_cons, b]⟩

theorem Upds.length {σ σ' : List (Str × D)} {xs : List Str} {ds : List D} (u : Upds σ xs ds σ') : xs.length = ds.length := by
  induction u with
  | nil => rfl
  | cons _ _ ih => simp [ih]
theorem asg_tuple {elts : List Expr} {k : Nat} {pos : Pos} {xs : List Str} {ds : List D} {Q : List (Str × D) → Prop} (K : c.Ok mg mb)
    (he : elts.map nmOf = xs.map some) (hk : ∀ x ∈ xs, c.st x) (hu : Upds σ xs ds σ') (h : Q σ') : AsgT c σ (.Tuple elts k pos) (.tup ds) Q :=
  fun μ P φ s v I r => by
    obtain ⟨a, o, vs, n, rfl, hP, hc, hd, hrs⟩ := r.inv
    have hl := each_len (c := c) elts xs he
    have hlen : xs.length = ds.length := hu.length
    have hsz : vs.size = ds.length := by have := hrs.length; simpa using this
    refine wpAny_assign_Tuple K.handled (items := vs) ⟨o, I.fz _ _ hP, hc, n, hd⟩ (by rw [hl.1, hlen, hsz]) hl.2 (fun h' hx => ?_)
    have I' : Inv c σ μ P φ { s with heap := h' } := by
      have hk' : ∀ b o, s.heap.get? b = some o → h'.get? b = some o := fun b o e => hx b o (Nat.ne_of_lt (Heap.lt_size e)) e
      exact I.grow (t := s.toks) hk' (fun _ _ h => h) (fun a o h => hk' _ _ (I.fz _ _ h)) (fun _ _ h => .inl h)
    exact inOrder_ok K (elts := elts) hu he hk I' hrs fun s' I'' => ⟨σ', P, Le.rfl, I'', h⟩

/-- what follows a turn -/
noncomputable def loopK (N : List (Str × D) → List MO → Prop) (Q : Fl → List (Str × D) → List MO → Prop) : Fl → List (Str × D) → List MO → Prop
  | .next, σ, μ => N σ μ
  | .cont, σ, μ => N σ μ
  | .brk, σ, μ => Q .next σ μ
  | .ret r, σ, μ => Q (.ret r) σ μ
theorem loop_next {N : List (Str × D) → List MO → Prop} {Q : Fl → List (Str × D) → List MO → Prop} (h : N σ μ) : loopK N Q .next σ μ := h
theorem loop_brk {N : List (Str × D) → List MO → Prop} {Q : Fl → List (Str × D) → List MO → Prop} (h : Q .next σ μ) : loopK N Q .brk σ μ := h
theorem loop_ret {N : List (Str × D) → List MO → Prop} {Q : Fl → List (Str × D) → List MO → Prop} {d : D} (h : Q (.ret d) σ μ) : loopK N Q (.ret d) σ μ := h

noncomputable def ForT (c : Cx) (target : Expr) (body : Sem Flow) (Q : Fl → List (Str × D) → List MO → Prop) : List D → List (Str × D) → List MO → Prop
  | [], σ, μ => Q .next σ μ
  | d :: ds, σ, μ => AsgT c σ target d (fun σ₁ => TrT c σ₁ μ body (loopK (ForT c target body Q ds) Q))

noncomputable abbrev FlPost (c : Cx) (P : Facts) (Q : Fl → List (Str × D) → List MO → Prop) (f : Flow) (s' : Shared) : Prop := PF c P Q f s'

theorem forLoop_walk (K : c.Ok mg mb) {I : Addr} {fp : List Addr} {Pv : Nat → Value → Prop} {St : Nat → Heap → Prop} {target : Expr} {body : List Stmt} {items : List D} {R' : Result → Shared → Prop} {Q : Fl → List (Str × D) → List MO → Prop}
    (W : PySem.Walks c.prog c.w c.A I fp [I] items.length Pv St) (hst : ∀ i h, St i h → ∃ o, h.get? I = some o ∧ Inert o)
    (hgo : ∀ i (s : Shared) v (Q : Unit → Shared → Prop) (E : Value → Shared → Prop), St i s.heap → Q () s → wpAny (model c.prog c.w) c.A (letOwnedTupleGo target (.ref I) v) Q E s)
    (hfp : ∀ b ∈ fp, b = I ∨ ∃ o, P b o) (hval : ∀ i v d, Pv i v → items[i]? = some d → R P [] v d)
    (h0 : c.h₀.get? I = none) (hR : ∀ f s', FlPost c P Q f s' → R' (.ok f) s')
    (J : Inv c σ μ P φ s) (hs0 : St 0 s.heap) (hI : I ∉ own c φ) (hPI : ∀ o, ¬ P I o) (hF : ForT c target (execs body c.env) Q items σ μ) :
    codeAny (model c.prog c.w) c.A (.forLoop target (.ref I) body [] c.env) R' s := by
  refine codeAny_loop' rfl (fun n s' => ∃ i σ' μ' P' φ', Le P P' ∧ Inv c σ' μ' P' φ' s' ∧ St i s'.heap ∧ I ∉ own c φ' ∧ (∀ o, ¬ P' I o) ∧ i ≤ items.length ∧
    ForT c target (execs body c.env) Q (items.drop i) σ' μ' ∧ n = items.length - i) ?_ items.length ⟨0, σ, μ, P, φ, Le.rfl, J, hs0, hI, hPI, Nat.zero_le _, by simpa using hF, by simp⟩
  rintro n s' ⟨i, σ', μ', P', φ', l, J', hs', hI', hPI', hi, hF', rfl⟩
  show wpAny _ c.A ((forTurn target (.ref I) body [] c.env).onRaise (fun x => do noteFrame x c.env; theTreesLotGoes x)) _ _ s'
  refine wpAny_noted ?_
  simp only [forTurn]
  refine wpAny_bind (wpAny_standAt (wpAny_bind (wpAny_onRaise ?_)))
  by_cases hlt : i < items.length
  · refine W.item i s' _ _ hlt hs' fun v h₁ tk hv hs₁ hx => ?_
    have hd : items.drop i = items[i] :: items.drop (i + 1) := List.drop_eq_getElem_cons hlt
    rw [hd] at hF'
    have hrv : R P' φ' v items[i] := (hval i v _ hv (List.getElem?_eq_getElem hlt)).mono l (List.nil_prefix ..)
    obtain ⟨o₁, ho₁, hin₁⟩ := hst _ _ hs₁
    have J₁ := (J'.other (h' := h₁) (a := I) (fun b o hb e => hx b o (by simpa using hb) e) hI' hPI' h0 tk).learn (o := o₁) ho₁ hI' h0
    refine wpAny_bind (hgo (i + 1) _ v _ _ hs₁ (wpAny_bind (wpAny_mono (hF' μ' _ _ _ v J₁ (hrv.mono (fun _ _ h => .inl h) (List.prefix_refl _))) (fun _ s₂ ⟨σ₂, P₂, l₂, J₂, q₂⟩ => ?_) fun _ _ x => x.elim)))
    refine wpAny_bind (q₂.at J₂ fun f s₃ fl σ₃ μ₃ P₃ φ₃ l₃ r₃ J₃ q₃ => ?_)
    have hP₃ : P₃ I o₁ := l₃ _ _ (l₂ _ _ (.inr ⟨rfl, rfl⟩))
    have hg₃ : s₃.heap.get? I = some o₁ := J₃.fz _ _ hP₃
    have lP : Le P P₃ := fun a o h => l₃ _ _ (l₂ _ _ (.inl (l _ _ h)))
    have hI₃ : I ∉ own c φ₃ := fun h => J₃.apart I h _ hP₃
    have hin : ∀ o, P₃ I o → Inert o := fun o h => by
      have := J₃.fz _ _ h
      rw [hg₃] at this; cases this; exact hin₁
    have J₄ := J₃.retract hin h0
    have l₄ : Le P (less P₃ I) := fun a o h => ⟨lP _ _ h, fun e => hPI o (e ▸ h)⟩
    have hs₃ : St (i + 1) s₃.heap := W.frame _ _ _ hs₁ fun b hb o e => by
      rcases hfp b hb with rfl | ⟨o', ho'⟩
      · rw [ho₁] at e; cases e; exact hg₃
      · have e1 := J₁.fz _ _ (Or.inl (l _ _ ho'))
        rw [e] at e1; cases e1
        exact J₃.fz _ _ (lP _ _ ho')
    cases r₃ with
    | next => exact wpAny_pure (.inl ⟨rfl, _, by omega, i + 1, σ₃, μ₃, _, φ₃, l₄, J₄, hs₃, hI₃, fun o h => h.2 rfl, hlt, q₃, rfl⟩)
    | cont => exact wpAny_pure (.inl ⟨rfl, _, by omega, i + 1, σ₃, μ₃, _, φ₃, l₄, J₄, hs₃, hI₃, fun o h => h.2 rfl, hlt, q₃, rfl⟩)
    | brk => exact wpAny_pure (hR _ _ ⟨.next, σ₃, μ₃, _, φ₃, l₄, .next, J₄, q₃⟩)
    | ret hr => exact wpAny_pure (hR _ _ ⟨.ret _, σ₃, μ₃, _, φ₃, l₄, .ret (hr.less hin), J₄, q₃⟩)
  · have hie : i = items.length := by omega
    subst hie
    refine W.done s' _ _ hs' fun h₁ tk hx => ?_
    refine wpAny_pure (.inr ⟨rfl, codeAny_block (wpAny_execs_nil (hR _ _ ⟨.next, σ', μ', P', φ', l, .next, ?_, ?_⟩))⟩)
    · exact J'.other (h' := h₁) (a := I) (fun b o hb e => hx b o (by simpa using hb) e) hI' hPI' h0 tk
    · simpa [ForT] using hF'

theorem fresh_none (J : Inv c σ μ P φ s) : s.heap.objs.size ∉ own c φ ∧ (∀ o, ¬ P s.heap.objs.size o) ∧ c.h₀.get? s.heap.objs.size = none := by
  have hnone : s.heap.get? s.heap.objs.size = none := by
    cases q : s.heap.get? s.heap.objs.size with
    | none => rfl
    | some o' => exact absurd (Heap.lt_size q) (Nat.lt_irrefl _)
  refine ⟨fun h => ?_, fun o h => ?_, ?_⟩
  · rcases List.mem_append.mp (show _ ∈ (c.env.locals :: c.wc) ++ φ from h) with h1 | h1
    · rcases List.mem_cons.mp h1 with h1 | h1
      · obtain ⟨m, o, es, ep, e, _⟩ := J.ns; rw [← h1, hnone] at e; cases e
      · obtain ⟨o, e⟩ := J.lt _ h1; rw [hnone] at e; cases e
    · obtain ⟨k, hk', e1⟩ := List.getElem_of_mem h1
      have hm : k < μ.length := J.len ▸ hk'
      obtain ⟨o, e, _⟩ := J.mu k φ[k] μ[k] (List.getElem?_eq_getElem hk') (List.getElem?_eq_getElem hm)
      rw [e1, hnone] at e; cases e
  · have := J.fz _ _ h; rw [hnone] at this; cases this
  · exact J.base.gone hnone

theorem inert_listiter {h : Heap} {I l : Addr} {i : Nat} (x : h.IsListIter I l i) : ∃ o, h.get? I = some o ∧ Inert o := by
  obtain ⟨o, ho, hc, hd⟩ := x
  exact ⟨o, ho, ⟨fun _ _ e => (by rw [hd] at e; cases e), fun v e => (by rw [hd] at e; cases e)⟩⟩

theorem go_ok {target : Expr} {I l : Addr} {i : Nat} {v : Value} {Q : Unit → Shared → Prop} {E : Value → Shared → Prop} (ht : (∃ x p, target = .Name x p) ∨ ∃ es k p, target = .Tuple es k p) (hI : s.heap.IsListIter I l i) (h : Q () s) :
    wpAny (model c.prog c.w) c.A (letOwnedTupleGo target (.ref I) v) Q E s := by
  rcases ht with ⟨x, p, rfl⟩ | ⟨es, k, p, rfl⟩
  · exact wpAny_pure h
  · cases v with
    | ref a => exact wpAny_letOwnedTupleGo_listiter hI h
    | _ => exact wpAny_pure h

noncomputable abbrev kFor (c : Cx) (σ : List (Str × D)) (target : Expr) (body : List Stmt) (Q : KS) : KV := fun d μ' => ∃ ds, d = .lst ds ∧ Ds.pure ds = true ∧ ForT c target (execs body c.env) Q ds σ μ'
/-- for target in a list that stays -/
theorem tr_for {target iter : Expr} {body : List Stmt} {pos : Pos} {Q : Fl → List (Str × D) → List MO → Prop} (K : c.Ok mg mb)
    (h : EvT c σ μ (eval iter c.env) (kFor c σ target body Q))
    (ht : (∃ x p, target = .Name x p) ∨ ∃ es k p, target = .Tuple es k p := by first | exact .inl ⟨_, _, rfl⟩ | exact .inr ⟨_, _, _, rfl⟩)
    (hs : ∀ x, foldedSetIterable iter c.env x = pure x := by intro _; rfl) : TrT c σ μ (exec (.For target iter body [] pos) c.env) Q :=
  fun P φ s I => wpAny_For (h.at I fun v s₁ d μ₁ P₁ φ₁ l₁ f₁ r₁ I₁ ⟨ds, hd, hp, hF⟩ => by
    subst hd
    obtain ⟨ax, o, vs, n, rfl, hP, hc, hdat, hrs⟩ := r₁.inv
    have hl : s₁.heap.IsList ax vs := ⟨o, I₁.fz _ _ hP, hc, n, hdat⟩
    obtain ⟨n1, n2, n3⟩ := fresh_none I₁
    have hax : ax ≠ s₁.heap.objs.size := Nat.ne_of_lt (Heap.lt_size (I₁.fz _ _ hP))
    refine wpAny_pyIter_list hl ?_
    have hk : ∀ b o', s₁.heap.get? b = some o' → (s₁.heap.push { cls := .type "list_iterator", data := .fields #[.ref ax, .int 0 0] }).get? b = some o' := fun _ _ e => Heap.get?_push_of_some _ e
    have I₂ := I₁.grow (t := s₁.toks) hk (fun _ _ h => h) (fun a o h => hk _ _ (I₁.fz _ _ h)) (fun _ _ h => .inl h)
    have hlen : vs.size = ds.length := by have := hrs.length; simpa using this
    have W := PySem.Walks.list (prog := c.prog) (w := c.w) K.handled s₁.heap.objs.size ax hax vs
    rw [hlen] at W
    refine forLoop_walk K W (fun i h st => inert_listiter st.1) (fun i s v Q E st hq => go_ok ht st.1 hq) (fun b hb => ?_) (fun i v d hv hd => ?_) n3 (fun f s' hf => ?_) I₂
      ⟨⟨_, Heap.get?_push_size _ rfl, rfl, rfl⟩, hl.push _⟩ n1 n2 hF
    · simp at hb
      rcases hb with rfl | rfl
      · exact .inl rfl
      · exact .inr ⟨o, hP⟩
    · obtain ⟨v', hv', r⟩ := hrs.get hd
      have : v = v' := by
        have e : vs.toList[i]? = some v := by simpa using hv
        rw [hv'] at e; cases e; rfl
      subst this
      refine r.pure ?_
      have : ∀ (l : List D) (i : Nat) (d : D), Ds.pure l = true → l[i]? = some d → D.pure d = true := by
        intro l
        induction l with
        | nil => intro i d _ e; simp at e
        | cons x r ih =>
          intro i d hp e
          simp only [Ds.pure, Bool.and_eq_true] at hp
          cases i with
          | zero => simp at e; subst e; exact hp.1
          | succ i => simp at e; exact ih i d hp.2 e
      exact this _ _ _ hp hd
    · obtain ⟨fl, σ', μ', P', φ', l, r, I', q⟩ := hf
      exact ⟨fl, σ', μ', P', φ', l₁.trans l, r, I', q⟩) hs

/-! ### while -/
inductive PW (c : Cx) (P : Facts) (W : List (Str × D) → List MO → Prop) (s' : Shared) : Prop
  | mk (σ' : List (Str × D)) (μ' : List MO) (P' : Facts) (φ' : List Addr) (l : Le P P') (I : Inv c σ' μ' P' φ' s') (w : W σ' μ') : PW c P W s'
noncomputable abbrev kW (n : Nat) (W : Nat → List (Str × D) → List MO → Prop) : List (Str × D) → List MO → Prop := fun σ₂ μ₂ => ∃ m, m < n ∧ W m σ₂ μ₂
noncomputable abbrev kWhile (c : Cx) (σ : List (Str × D)) (body : List Stmt) (n : Nat) (W : Nat → List (Str × D) → List MO → Prop) (Q : KS) : KB := fun b μ' => if b = true then TrT c σ μ' (execs body c.env) (loopK (kW n W) Q) else Q .next σ μ'
/-- a while by a measure: the word W holds at each look -/
noncomputable abbrev kWhL (c : Cx) (σ : List (Str × D)) (body : List Stmt) (N : List (Str × D) → List MO → Prop) (X : KS) : KB := fun b μ' => if b = true then TrT c σ μ' (execs body c.env) (loopK N X) else X .next σ μ'
theorem tr_while {test : Expr} {body : List Stmt} {pos : Pos} {Q : Fl → List (Str × D) → List MO → Prop} (W : Nat → List (Str × D) → List MO → Prop)
    (turn : ∀ n σ μ, W n σ μ → TsT c σ μ (isTrue test c.env (eval test c.env)) (kWhile c σ body n W Q))
    (n : Nat) (h : W n σ μ) : TrT c σ μ (exec (.While test body [] pos) c.env) Q :=
  fun P φ s I => wpAny_While (codeAny_whileLoop (fun n s' => PW c P (W n) s')
    (fun n s' ⟨σ', μ', P', φ', l, I', w⟩ => (turn n σ' μ' w).at I' fun b s₂ μ₂ P₂ φ₂ l₂ f₂ I₂ q₂ => by
      cases b with
      | false =>
        simp only [Bool.false_eq_true, if_false]
        replace q₂ := ite_F q₂
        exact wpAny_execs_nil ⟨.next, σ', μ₂, P₂, φ₂, l.trans l₂, .next, I₂, q₂⟩
      | true =>
        simp only [if_true]
        replace q₂ := ite_T q₂
        refine q₂.at I₂ fun f s₃ fl σ₃ μ₃ P₃ φ₃ l₃ r₃ I₃ q₃ => ?_
        cases r₃ with
        | next => obtain ⟨m, hm, hw⟩ := q₃; exact ⟨m, hm, σ₃, μ₃, P₃, φ₃, (l.trans l₂).trans l₃, I₃, hw⟩
        | cont => obtain ⟨m, hm, hw⟩ := q₃; exact ⟨m, hm, σ₃, μ₃, P₃, φ₃, (l.trans l₂).trans l₃, I₃, hw⟩
        | brk => exact ⟨.next, σ₃, μ₃, P₃, φ₃, (l.trans l₂).trans l₃, .next, I₃, q₃⟩
        | ret hr => exact ⟨.ret _, σ₃, μ₃, P₃, φ₃, (l.trans l₂).trans l₃, .ret hr, I₃, q₃⟩)
    n ⟨σ, μ, P, φ, Le.rfl, I, h⟩)
/-- the same; what stands behind a turn, and behind the loop, is a letter -/
theorem tr_whileL {test : Expr} {body : List Stmt} {pos : Pos} {Q : Fl → List (Str × D) → List MO → Prop} (W : Nat → List (Str × D) → List MO → Prop)
    (turn : ∀ n σ μ, W n σ μ → ∀ (N : List (Str × D) → List MO → Prop) (X : KS), (∀ σ₂ μ₂ m, m < n → W m σ₂ μ₂ → N σ₂ μ₂) → (∀ fl σ₂ μ₂, Q fl σ₂ μ₂ → X fl σ₂ μ₂) →
      TsT c σ μ (isTrue test c.env (eval test c.env)) (kWhL c σ body N X))
    (n : Nat) (h : W n σ μ) : TrT c σ μ (exec (.While test body [] pos) c.env) Q :=
  tr_while W (fun n σ μ w => turn n σ μ w (kW n W) Q (fun σ₂ μ₂ m hm hw => ⟨m, hm, hw⟩) fun _ _ _ q => q) n h
/-- what stands behind, as a letter -/
theorem tr_let {t : Sem Flow} {Q : Fl → List (Str × D) → List MO → Prop} (h : ∀ X : KS, (∀ fl σ₂ μ₂, Q fl σ₂ μ₂ → X fl σ₂ μ₂) → TrT c σ μ t X) : TrT c σ μ t Q := h Q fun _ _ _ q => q
end
end -- QLoop

section -- QOps
section
variable {c : Cx} {σ σ' : List (Str × D)} {μ : List MO} {P : Facts} {φ : List Addr} {s : Shared} {mg mb : Str → Option Value} {Q : D → List MO → Prop}

theorem op2_of {d e : D} {f : Value → Value → Sem Value} (h : ∀ P φ s v w, Inv c σ μ P φ s → R P φ v d → R P φ w e →
    wpAny (model c.prog c.w) c.A (f v w) (PV c σ P φ Q) noE s) : OpT c σ μ [d, e] (op2 f) Q :=
  fun P φ s vs I rs => by
    (have hx := rs.inv; clear rs; obtain ⟨_, _, rfl, r1, rs⟩ := hx)
    · (have hx := rs.inv; clear rs; obtain ⟨_, _, rfl, r2, rs⟩ := hx)
      · (first | obtain rfl := rs.inv | obtain ⟨_, rfl⟩ := rs.inv); exact h P φ s _ _ I r1 r2
theorem op1_of {d : D} {f : Value → Sem Value} (h : ∀ P φ s v, Inv c σ μ P φ s → R P φ v d →
    wpAny (model c.prog c.w) c.A (f v) (PV c σ P φ Q) noE s) : OpT c σ μ [d] (op1 f) Q :=
  fun P φ s vs I rs => by
    (have hx := rs.inv; clear rs; obtain ⟨_, _, rfl, r1, rs⟩ := hx)
    · (first | obtain rfl := rs.inv | obtain ⟨_, rfl⟩ := rs.inv); exact h P φ s _ I r1

/-- an end: the same facts, some token -/
theorem fin_tok (I : Inv c σ μ P φ s) {v : Value} {d : D} (r : R P φ v d) (h : Q d μ) (t : Nat) :
    PV c σ P φ Q v { s with toks := t } := ⟨d, μ, P, φ, Le.rfl, List.prefix_refl _, r, I.tok t, h⟩
theorem fin_same (I : Inv c σ μ P φ s) {v : Value} {d : D} (r : R P φ v d) (h : Q d μ) :
    PV c σ P φ Q v s := ⟨d, μ, P, φ, Le.rfl, List.prefix_refl _, r, I, h⟩

/-! ints -/
theorem op_add {i j : Int} (h : Q (.int (i + j)) μ) : OpT c σ μ [.int i, .int j] (op2 (binaryOp .Add)) Q :=
  op2_of fun P φ s v w I r1 r2 => by (first | obtain rfl := r1.inv | obtain ⟨_, rfl⟩ := r1.inv); (first | obtain rfl := r2.inv | obtain ⟨_, rfl⟩ := r2.inv); exact add_int (fin_tok I (.int _ _) h _)
theorem op_sub {i j : Int} (h : Q (.int (i - j)) μ) : OpT c σ μ [.int i, .int j] (op2 (binaryOp .Sub)) Q :=
  op2_of fun P φ s v w I r1 r2 => by (first | obtain rfl := r1.inv | obtain ⟨_, rfl⟩ := r1.inv); (first | obtain rfl := r2.inv | obtain ⟨_, rfl⟩ := r2.inv); exact PyProof.Rows.sub_int (fin_tok I (.int _ _) h _)
theorem op_mod {i j : Int} (hj : j ≠ 0) (h : Q (.int (i.fmod j)) μ) : OpT c σ μ [.int i, .int j] (op2 (binaryOp .Mod)) Q :=
  op2_of fun P φ s v w I r1 r2 => by (first | obtain rfl := r1.inv | obtain ⟨_, rfl⟩ := r1.inv); (first | obtain rfl := r2.inv | obtain ⟨_, rfl⟩ := r2.inv); exact mod_int' hj (fin_tok I (.int _ _) h _)
theorem op_fdiv {i j : Int} (hj : j ≠ 0) (hs : j.natAbs < 1073741824) (h : Q (.int (i.fdiv j)) μ) : OpT c σ μ [.int i, .int j] (op2 (binaryOp .FloorDiv)) Q :=
  op2_of fun P φ s v w I r1 r2 => by (first | obtain rfl := r1.inv | obtain ⟨_, rfl⟩ := r1.inv); (first | obtain rfl := r2.inv | obtain ⟨_, rfl⟩ := r2.inv); exact floordiv_int hj (fin_tok I (.int _ _) h _) (.inl (PyProof.noPylong_small hs))
theorem op_pow8 (h : Q (.int 100000000) μ) : OpT c σ μ [.int 10, .int 8] (op2 (binaryOp .Pow)) Q :=
  op2_of fun P φ s v w I r1 r2 => by
    (first | obtain rfl := r1.inv | obtain ⟨_, rfl⟩ := r1.inv); (first | obtain rfl := r2.inv | obtain ⟨_, rfl⟩ := r2.inv)
    exact AutoIntOps.pow_4 (by decide) (by decide) (by decide) (by decide) (by decide +kernel) (fin_tok I (.int _ _) h _)
theorem op_iadd {i j : Int} (h : Q (.int (i + j)) μ) : OpT c σ μ [.int i, .int j] (op2 (inplaceOp .Add)) Q :=
  op2_of fun P φ s v w I r1 r2 => by (first | obtain rfl := r1.inv | obtain ⟨_, rfl⟩ := r1.inv); (first | obtain rfl := r2.inv | obtain ⟨_, rfl⟩ := r2.inv); exact wpAny_iadd_int (fin_tok I (.int _ _) h _)
theorem op_lt {i j : Int} (h : Q (.bool (decide (i < j))) μ) : OpT c σ μ [.int i, .int j] (op2 (compareOp .Lt)) Q :=
  op2_of fun P φ s v w I r1 r2 => by (first | obtain rfl := r1.inv | obtain ⟨_, rfl⟩ := r1.inv); (first | obtain rfl := r2.inv | obtain ⟨_, rfl⟩ := r2.inv); exact PyProof.Rows.lt_int (fin_same I (.bool _) h)
theorem op_le {i j : Int} (h : Q (.bool (decide (i ≤ j))) μ) : OpT c σ μ [.int i, .int j] (op2 (compareOp .LtE)) Q :=
  op2_of fun P φ s v w I r1 r2 => by (first | obtain rfl := r1.inv | obtain ⟨_, rfl⟩ := r1.inv); (first | obtain rfl := r2.inv | obtain ⟨_, rfl⟩ := r2.inv); exact PyProof.Rows.le_int (fin_same I (.bool _) h)
theorem op_gt {i j : Int} (h : Q (.bool (decide (j < i))) μ) : OpT c σ μ [.int i, .int j] (op2 (compareOp .Gt)) Q :=
  op2_of fun P φ s v w I r1 r2 => by (first | obtain rfl := r1.inv | obtain ⟨_, rfl⟩ := r1.inv); (first | obtain rfl := r2.inv | obtain ⟨_, rfl⟩ := r2.inv); exact PyProof.Rows.gt_int (fin_same I (.bool _) h)
theorem op_ge {i j : Int} (h : Q (.bool (decide (j ≤ i))) μ) : OpT c σ μ [.int i, .int j] (op2 (compareOp .GtE)) Q :=
  op2_of fun P φ s v w I r1 r2 => by (first | obtain rfl := r1.inv | obtain ⟨_, rfl⟩ := r1.inv); (first | obtain rfl := r2.inv | obtain ⟨_, rfl⟩ := r2.inv); exact PyProof.Rows.ge_int (fin_same I (.bool _) h)
theorem op_eq {i j : Int} (h : Q (.bool (i == j)) μ) : OpT c σ μ [.int i, .int j] (op2 (compareOp .Eq)) Q :=
  op2_of fun P φ s v w I r1 r2 => by (first | obtain rfl := r1.inv | obtain ⟨_, rfl⟩ := r1.inv); (first | obtain rfl := r2.inv | obtain ⟨_, rfl⟩ := r2.inv); exact eq_int (fin_same I (.bool _) h)
theorem op_ne {i j : Int} (h : Q (.bool (i != j)) μ) : OpT c σ μ [.int i, .int j] (op2 (compareOp .NotEq)) Q :=
  op2_of fun P φ s v w I r1 r2 => by (first | obtain rfl := r1.inv | obtain ⟨_, rfl⟩ := r1.inv); (first | obtain rfl := r2.inv | obtain ⟨_, rfl⟩ := r2.inv); exact PyProof.Rows.ne_int (fin_same I (.bool _) h)
/-! bools, None -/
theorem op_eqb {i j : Bool} (h : Q (.bool (i == j)) μ) : OpT c σ μ [.bool i, .bool j] (op2 (compareOp .Eq)) Q :=
  op2_of fun P φ s v w I r1 r2 => by (first | obtain rfl := r1.inv | obtain ⟨_, rfl⟩ := r1.inv); (first | obtain rfl := r2.inv | obtain ⟨_, rfl⟩ := r2.inv); exact eq_bool (fin_same I (.bool _) h)
theorem op_isnone {d : D} {b : Bool} (hd : ∀ P φ v, R P φ v d → (v == Value.none) = b) (h : Q (.bool b) μ) : OpT c σ μ [d, .none] (op2 (compareOp .Is)) Q :=
  op2_of fun P φ s v w I r1 r2 => by (first | obtain rfl := r2.inv | obtain ⟨_, rfl⟩ := r2.inv); exact PySem.is_none (by rw [hd _ _ _ r1]; exact fin_same I (.bool _) h)
theorem op_isnotnone {d : D} {b : Bool} (hd : ∀ P φ v, R P φ v d → (v == Value.none) = b) (h : Q (.bool (!b)) μ) : OpT c σ μ [d, .none] (op2 (compareOp .IsNot)) Q :=
  op2_of fun P φ s v w I r1 r2 => by (first | obtain rfl := r2.inv | obtain ⟨_, rfl⟩ := r2.inv); exact PySem.isNot_none (by rw [hd _ _ _ r1]; exact fin_same I (.bool _) h)
noncomputable def D.isNone : D → Option Bool
  | .none => some true
  | .opq _ => Option.none
  | _ => some false
theorem isNone_of {d : D} {b : Bool} (h : d.isNone = some b) : ∀ P φ v, R P φ v d → (v == Value.none) = b := fun P φ v r => by
  cases r <;> simp [D.isNone] at h <;> subst h <;> rfl
theorem op_isN {d : D} {b : Bool} (hd : d.isNone = some b) (h : Q (.bool b) μ) : OpT c σ μ [d, .none] (op2 (compareOp .Is)) Q := op_isnone (isNone_of hd) h
theorem op_isnotN {d : D} {b : Bool} (hd : d.isNone = some b) (h : Q (.bool (!b)) μ) : OpT c σ μ [d, .none] (op2 (compareOp .IsNot)) Q := op_isnotnone (isNone_of hd) h
/-! texts -/
theorem op_adds {x y : Str} (hl : x.length + y.length ≤ sizeLine) (h : Q (.str (x ++ y)) μ) : OpT c σ μ [.str x, .str y] (op2 (binaryOp .Add)) Q :=
  op2_of fun P φ s v w I r1 r2 => by (first | obtain rfl := r1.inv | obtain ⟨_, rfl⟩ := r1.inv); (first | obtain rfl := r2.inv | obtain ⟨_, rfl⟩ := r2.inv); exact add_str (fun t' tk => fin_tok I (.str _ t') h tk) hl
theorem op_eqs {x y : Str} (h : Q (.bool (x == y)) μ) : OpT c σ μ [.str x, .str y] (op2 (compareOp .Eq)) Q :=
  op2_of fun P φ s v w I r1 r2 => by (first | obtain rfl := r1.inv | obtain ⟨_, rfl⟩ := r1.inv); (first | obtain rfl := r2.inv | obtain ⟨_, rfl⟩ := r2.inv); exact eq_str (fin_same I (.bool _) h)
theorem op_nes {x y : Str} (h : Q (.bool (x != y)) μ) : OpT c σ μ [.str x, .str y] (op2 (compareOp .NotEq)) Q :=
  op2_of fun P φ s v w I r1 r2 => by (first | obtain rfl := r1.inv | obtain ⟨_, rfl⟩ := r1.inv); (first | obtain rfl := r2.inv | obtain ⟨_, rfl⟩ := r2.inv); exact PyProof.Rows.ne_str (fin_same I (.bool _) h)
theorem op_ins {x y : Str} (h : Q (.bool !(Builtin.Str.occurrences x y 0 x.length 1).isEmpty) μ) : OpT c σ μ [.str y, .str x] (op2 (compareOp .In)) Q :=
  op2_of fun P φ s v w I r1 r2 => by (first | obtain rfl := r1.inv | obtain ⟨_, rfl⟩ := r1.inv); (first | obtain rfl := r2.inv | obtain ⟨_, rfl⟩ := r2.inv); exact PyProof.Rows.in_str (fin_same I (.bool _) h)

/-! ### subscripts -/
noncomputable def subT (c : Cx) (value slice : Expr) : List Value → Sem Value := op2 (subscriptTail value slice)
theorem ev_sub {value slice : Expr} {pos : Pos} (h : EvT c σ μ (eval value c.env) (kBin c σ slice (subT c value slice) Q)) :
    EvT c σ μ (eval (.Subscript value slice pos) c.env) Q :=
  fun P φ s I => Subscript_ (h.at I fun v₁ s₁ d₁ μ₁ P₁ φ₁ l₁ f₁ r₁ I₁ q₁ => q₁.at I₁ fun v₂ s₂ d₂ μ₂ P₂ φ₂ l₂ f₂ r₂ I₂ q₂ =>
    q₂.at (vs := [v₁, v₂]) I₂ (.cons (r₁.mono l₂ f₂) (.cons r₂ .nil)) fun v s' d μ' P' φ' l f r I' q => ⟨d, μ', P', φ', (l₁.trans l₂).trans l, (f₁.trans f₂).trans f, r, I', q⟩)

theorem tail_any {value slice : Expr} {o i : Value} {T id : String} {X : Value → Shared → Prop} {E : Value → Shared → Prop} {ops : List Value} (hT : s.TypeIs o T)
    (hl : typeLookup (.type T) "__getitem__" = pure (some (.builtin id))) (h : wpAny (model c.prog c.w) c.A (getItem o i) X E s)
    (hs : subscripted slice false o i = operate ops (getItem o i)) :
    wpAny (model c.prog c.w) c.A (subscriptTail value slice o i) X E s := by
  unfold subscriptTail
  refine wpAny_bind ?_
  rw [getitemInPython_of_ne hT.not_modules]
  refine wpAny_bind (wpAny_specialOf hT hl ?_)
  have fin : wpAny (model c.prog c.w) c.A (subscripted slice false o i) (fun r s₃ => wpAny (model c.prog c.w) c.A (letTemporaryGo value o r >>= fun _ => pure r) X E s₃) E s := by
    rw [hs]
    exact wpAny_operating (wpAny_mono h (fun r s₃ h₃ => wpAny_bind (wpAny_letTemporaryGo (wpAny_pure h₃))) fun _ _ x => x)
  first
    | exact wpAny_pure (wpAny_bind fin)
    | exact wpAny_bind (wpAny_pure (wpAny_bind fin))
    | exact wpAny_bind fin

/-- which place of n an int means -/
noncomputable def place (i : Int) (n : Nat) : Nat := if i < 0 then (i + n).toNat else i.toNat

theorem sub_lst {value slice : Expr} {ds : List D} {i : Int} {d : D} (hi : -(ds.length : Int) ≤ i ∧ i < ds.length) (hb : ds.length < 2 ^ 62) (hd : ds[place i ds.length]? = some d) (h : Q d μ)
    (hs : ∀ o i, subscripted slice false o i = operate [o, i] (getItem o i) := by intro _ _; with_unfolding_all rfl) : OpT c σ μ [.lst ds, .int i] (subT c value slice) Q :=
  op2_of fun P φ s v w I r1 r2 => by
    (first | obtain rfl := r2.inv | obtain ⟨_, rfl⟩ := r2.inv)
    obtain ⟨a, o, vs, n, rfl, hP, hc, hdat, hrs⟩ := r1.inv
    have hl : s.heap.IsList a vs := ⟨o, I.fz _ _ hP, hc, n, hdat⟩
    obtain ⟨v, hv, r⟩ := hrs.get hd
    have hlen : vs.size = ds.length := by have := hrs.length; simpa using this
    refine tail_any hl.typeIs slot_list_getitem.lookup ?_ (hs _ _)
    unfold place at hv
    by_cases h0 : i < 0
    · rw [if_pos h0] at hv
      exact wpAny_getItem_list_neg hl h0 (by rw [hlen]; exact hi.1) (by omega) (by rw [hlen]; simpa using hv) (fin_same I r h)
    · rw [if_neg h0] at hv
      exact wpAny_getItem_list hl (by omega) (by omega) (by simpa using hv) (fin_same I r h)
theorem sub_ref {value slice : Expr} {ds : List D} {k : Nat} {i : Int} {d : D} (hk : μ[k]? = some (.lst ds)) (hi : -(ds.length : Int) ≤ i ∧ i < ds.length) (hb : ds.length < 2 ^ 62) (hd : ds[place i ds.length]? = some d) (h : Q d μ)
    (hs : ∀ o i, subscripted slice false o i = operate [o, i] (getItem o i) := by intro _ _; with_unfolding_all rfl) : OpT c σ μ [.ref k, .int i] (subT c value slice) Q :=
  op2_of fun P φ s v w I r1 r2 => by
    (first | obtain rfl := r2.inv | obtain ⟨_, rfl⟩ := r2.inv)
    obtain ⟨_, rfl, hφ⟩ := r1.inv
    obtain ⟨o, ho, hm⟩ := I.mu _ _ _ hφ hk
    obtain ⟨vs, n, hc, _, hdat, hrs⟩ := hm.inv
    have hl : s.heap.IsList _ vs := ⟨_, ho, hc, n, hdat⟩
    obtain ⟨v, hv, r⟩ := hrs.get hd
    have hlen : vs.size = ds.length := by have := hrs.length; simpa using this
    refine tail_any hl.typeIs slot_list_getitem.lookup ?_ (hs _ _)
    unfold place at hv
    by_cases h0 : i < 0
    · rw [if_pos h0] at hv
      exact wpAny_getItem_list_neg hl h0 (by rw [hlen]; exact hi.1) (by omega) (by rw [hlen]; simpa using hv) (fin_same I r h)
    · rw [if_neg h0] at hv
      exact wpAny_getItem_list hl (by omega) (by omega) (by simpa using hv) (fin_same I r h)
theorem sub_tup {value slice : Expr} {ds : List D} {i : Int} {d : D} (hi : 0 ≤ i ∧ i < ds.length) (hb : ds.length < 2 ^ 62) (hd : ds[i.toNat]? = some d) (h : Q d μ)
    (hs : ∀ o i, subscripted slice false o i = operate [o, i] (getItem o i) := by intro _ _; with_unfolding_all rfl) : OpT c σ μ [.tup ds, .int i] (subT c value slice) Q :=
  op2_of fun P φ s v w I r1 r2 => by
    (first | obtain rfl := r2.inv | obtain ⟨_, rfl⟩ := r2.inv)
    obtain ⟨a, o, vs, n, rfl, hP, hc, hdat, hrs⟩ := r1.inv
    have hl : IsTup s.heap a vs := ⟨o, I.fz _ _ hP, hc, n, hdat⟩
    obtain ⟨v, hv, r⟩ := hrs.get hd
    have hlen : vs.size = ds.length := by have := hrs.length; simpa using this
    have hT : s.TypeIs (.ref a) "tuple" := ⟨o, I.fz _ _ hP, hc⟩
    refine tail_any hT F.slot_tuple_getitem.lookup ?_ (hs _ _)
    exact PyProof.Rows.getItem_tuple hl (by omega) (by omega) (j := i.toNat) (by rw [hlen]; unfold seqIndex?; simp only [if_neg (Int.not_lt.mpr hi.1)]; rw [if_pos (by simp [hi.1, hi.2])]) (by simpa using hv) (fin_same I r h)
theorem sub_str {value slice : Expr} {x : Str} {i : Int} {ch : Nat} (hi : -(x.length : Int) ≤ i ∧ i < x.length) (hb : x.length < 2 ^ 62) (hd : x.cps[place i x.length]? = some ch) (h : Q (.str ⟨#[ch]⟩) μ)
    (hs : ∀ o i, subscripted slice false o i = operate [o, i] (getItem o i) := by intro _ _; with_unfolding_all rfl) : OpT c σ μ [.str x, .int i] (subT c value slice) Q :=
  op2_of fun P φ s v w I r1 r2 => by
    (first | obtain rfl := r2.inv | obtain ⟨_, rfl⟩ := r2.inv); (first | obtain rfl := r1.inv | obtain ⟨_, rfl⟩ := r1.inv)
    refine tail_any (typeIs_str _ _ _) F.slot_str_getitem.lookup ?_ (hs _ _)
    refine PyProof.Rows.getItem_str (c := ch) (by simp; omega) ?_ (fin_tok I (.str _ _) h _)
    have e : seqIndex? i x.length = some (place i x.length) := by
      unfold seqIndex? place
      by_cases h0 : i < 0
      · simp only [if_pos h0]
        rw [if_pos (by simp; omega)]
      · simp only [if_neg h0]
        rw [if_pos (by simp; omega)]
    rw [e]; exact hd
end
end -- QOps

section -- QCall
noncomputable abbrev facts (h : Heap) : Facts := fun a o => h.get? a = some o

mutual
inductive Res (μ : List MO) : D → D → Prop
  | pure {d : D} : D.pure d = true → Res μ d d
  | tup {ds es : List D} : Ress μ ds es → Res μ (.tup ds) (.tup es)
  | lst {ds es : List D} : Ress μ ds es → Res μ (.lst ds) (.lst es)
  | ref {k : Nat} {ds es : List D} : μ[k]? = some (.lst ds) → Ress μ ds es → Res μ (.ref k) (.lst es)
inductive Ress (μ : List MO) : List D → List D → Prop
  | nil : Ress μ [] []
  | cons {d e : D} {ds es : List D} : Res μ d e → Ress μ ds es → Ress μ (d :: ds) (e :: es)
end

section
variable {c : Cx} {σ σ' : List (Str × D)} {μ : List MO} {P : Facts} {φ : List Addr} {s : Shared} {mg mb : Str → Option Value} {Q : D → List MO → Prop}

/-- what is known, and what this frame has made and may still write -/
noncomputable abbrev out (P : Facts) (φ : List Addr) (h : Heap) : Facts := fun a o => P a o ∨ (a ∈ φ ∧ h.get? a = some o)

theorem res_ok (I : Inv c σ μ P φ s) {d e : D} (h : Res μ d e) : ∀ {v : Value}, R P φ v d → R (out P φ s.heap) [] v e :=
  Res.rec (motive_1 := fun d e _ => ∀ {v : Value}, R P φ v d → R (out P φ s.heap) [] v e) (motive_2 := fun d e _ => ∀ {v : List Value}, Rs P φ v d → Rs (out P φ s.heap) [] v e)
    (fun h _ r => (r.pure h).mono (fun _ _ h => .inl h) (List.prefix_refl _))
    (fun _ ih _ r => by obtain ⟨a, o, vs, n, rfl, h1, h2, h3, h4⟩ := r.inv; exact .tup (.inl h1) h2 h3 (ih h4))
    (fun _ ih _ r => by obtain ⟨a, o, vs, n, rfl, h1, h2, h3, h4⟩ := r.inv; exact .lst (.inl h1) h2 h3 (ih h4))
    (fun hk _ ih _ r => by
      obtain ⟨a, rfl, hφ⟩ := r.inv
      obtain ⟨o, ho, hm⟩ := I.mu _ _ _ hφ hk
      obtain ⟨vs, n, hc, _, hdat, hrs⟩ := hm.inv
      exact .lst (.inr ⟨List.mem_of_getElem? hφ, ho⟩) hc hdat (ih hrs))
    (fun r => by obtain rfl := r.inv; exact .nil)
    (fun _ _ i1 i2 _ r => by obtain ⟨v, vs, rfl, r1, r2⟩ := r.inv; exact .cons (i1 r1) (i2 r2)) h

/-- what a call of a def gives: it ends, hands back data of which Q is told, and leaves all that was as it was -/
noncomputable abbrev frs (A : Around) : List Addr := (A.frames.getD []).filterMap (·.frame)
/-- the frames that stand around a call -/
noncomputable def FrOk (A : Around) (h : Heap) (P : Facts) : Prop :=
  ∃ outer, A.frames = some outer ∧ ∀ env ∈ outer, env.scope.kind ≠ .module ∧ ∃ L, env.frame = some L ∧ (∃ o es ep, h.get? L = some o ∧ o.data = .dict es ep ∧ StrKeys es) ∧ ∀ o, ¬ P L o
inductive PC (A : Around) (s : Shared) (P : Facts) (Q : D → Prop) (r : Result) (s' : Shared) : Prop
  | mk (v : Value) (e : D) (P' : Facts) (hr : r = .ok (.ret v)) (hk : Kp (frs A) s.heap s'.heap) (hg : AllBare s'.gens) (ho : s'.os = s.os) (l : Le P P') (h1 : ∀ a o, P' a o → s'.heap.get? a = some o) (h2 : ∀ a o, P' a o → P a o ∨ s.heap.get? a = none) (hv : R P' [] v e) (q : Q e) : PC A s P Q r s'
noncomputable abbrev kEnd (Q : D → Prop) : Fl → List (Str × D) → List MO → Prop := fun fl σ' μ' => ∃ e e', (fl = .ret e ∨ (fl = .next ∧ e = .none)) ∧ Res μ' e e' ∧ Q e'
noncomputable def Con (prog : Program) (w : World) (mg mb : Str → Option Value) (n : Nat) (d : DefRec) (ds : List D) (Q : D → Prop) : Prop :=
  ∀ (A : Around) (s : Shared) (a : Addr) (vs : List Value) (P : Facts), Base mg mb s.heap → IsFn s.heap a d → AllBare s.gens → A.depth + n < 1000 → A.units + 20 * n < 9900 → A.handled = none → FrOk A s.heap P →
    (∀ a o, P a o → s.heap.get? a = some o) → Rs P [] vs ds →
    codeAny (model prog w) A (.call (.ref a) ⟨vs, []⟩) (PC A s P Q) s

theorem Con.mono {prog : Program} {w : World} {n : Nat} {d : DefRec} {ds : List D} {Q Q' : D → Prop} (h : Con prog w mg mb n d ds Q) (k : ∀ e, Q e → Q' e) : Con prog w mg mb n d ds Q' :=
  fun A s a vs P B F hg h1 h2 h3 hfr hp hr => codeAny_mono (h A s a vs P B F hg h1 h2 h3 hfr hp hr) fun r s' ⟨v, e, P', a1, a2, a3, a4, a5, a6, a7, a8, a9⟩ => ⟨v, e, P', a1, a2, a3, a4, a5, a6, a7, a8, k _ a9⟩

/-- the binds of a def's parameters -/
theorem bindL_other {kindOf : Str → Option NameKind} {x : Str} : ∀ (binds : List (Str × Value)) (m : Str → Option Value), x ∉ binds.map (·.1) → bindL kindOf binds m x = m x
  | [], m, _ => rfl
  | (n, v) :: r, m, h => by
    simp only [List.map_cons, List.mem_cons, not_or] at h
    unfold bindL
    rw [bindL_other r _ h.2]
    split
    · exact if_neg h.1
    · rfl
theorem bindC_other {kindOf : Str → Option NameKind} {x : Str} : ∀ (binds : List (Str × Value)) (m : Str → Option Value), x ∉ binds.map (·.1) → bindC kindOf binds m x = m x
  | [], m, _ => rfl
  | (n, v) :: r, m, h => by
    simp only [List.map_cons, List.mem_cons, not_or] at h
    unfold bindC
    rw [bindC_other r _ h.2]
    split
    · rfl
    · exact if_neg h.1
theorem bindL_at {kindOf : Str → Option NameKind} {x : Str} {v : Value} (hk : kindOf x = some .local) : ∀ (binds : List (Str × Value)) (m : Str → Option Value), (binds.map (·.1)).Nodup → (x, v) ∈ binds → bindL kindOf binds m x = some v
  | (n, u) :: r, m, hn, h => by
    simp only [List.map_cons, List.nodup_cons] at hn
    unfold bindL
    rcases List.mem_cons.mp h with e | h
    · cases e
      rw [bindL_other r _ hn.1, if_pos hk, if_pos rfl]
    · exact bindL_at hk r _ hn.2 h
theorem bindC_at {kindOf : Str → Option NameKind} {x : Str} {v : Value} (hk : kindOf x = some .cell) : ∀ (binds : List (Str × Value)) (m : Str → Option Value), (binds.map (·.1)).Nodup → (x, v) ∈ binds → bindC kindOf binds m x = some v
  | (n, u) :: r, m, hn, h => by
    simp only [List.map_cons, List.nodup_cons] at hn
    unfold bindC
    rcases List.mem_cons.mp h with e | h
    · cases e
      rw [bindC_other r _ hn.1, if_neg (by rw [hk]; decide), if_pos rfl]
    · exact bindC_at hk r _ hn.2 h

theorem zip_R : ∀ {xs : List Str} {vs : List Value} {ds : List D}, Rs P φ vs ds → ∀ {x : Str} {d : D}, (x, d) ∈ xs.zip ds → ∃ v, (x, v) ∈ xs.zip vs ∧ R P φ v d
  | [], _, _, _, _, _, h => by simp at h
  | x :: xs, _, _, .nil, _, _, h => by simp at h
  | x :: xs, _, _, .cons r1 r2, y, d, h => by
    simp only [List.zip_cons_cons, List.mem_cons] at h ⊢
    rcases h with h | h
    · cases h; exact ⟨_, .inl rfl, r1⟩
    · obtain ⟨v, h1, h2⟩ := zip_R r2 h
      exact ⟨v, .inr h1, h2⟩

/-- the frame of a call -/
noncomputable def cxOf (prog : Program) (w : World) (A : Around) (s : Shared) (fd : FuncData) (a : Addr) (n : Nat) (P : Facts) : Cx where
  prog := prog
  w := w
  A := A.deeper (callEnvC fd s.heap.objs.size a)
  env := callEnvC fd s.heap.objs.size a
  h₀ := s.heap
  os := s.os
  wc := (cellsFrom (s.heap.objs.size + 1) fd.scope.names []).map (·.2)
  n := n
  P₀ := P
  ro := false
  up := frs A

theorem zip_names (xs : List Str) (vs : List Value) (h : xs.length = vs.length) : (xs.zip vs).map (·.1) = xs := List.map_fst_zip (Nat.le_of_eq h)

theorem codeAny_call_cellsW {prog : Program} {w : World} {A : Around} {s : Shared} {R : Result → Shared → Prop} {a : Addr} {o : Obj} {fd : FuncData} {body : List Stmt} {vals : List Value} {binds : List (Str × Value)}
    (hroom : A.depth < recursionLimit) (ho : s.heap.get? a = some o) (hdata : o.data = .func fd) (hlim : s.heap.NoLimit) (hcd : s.heap.CodeRec fd.code fd.qualname)
    (hbody : fd.body = .stmts body) (hbind : ∀ (A : Around) (Q : List (Str × Value) → Shared → Prop) (E : Value → Shared → Prop), Q binds s → wpAny (model prog w) A (bindArgs fd ⟨vals, []⟩) Q E s) (hclo : fd.closure = [])
    (hkind : ∀ x ∈ binds, fd.scope.names.lookup x.1 = some .local ∨ (fd.scope.names.lookup x.1 = some .cell ∧ ((cellsFrom (s.heap.objs.size + 1) fd.scope.names []).lookup x.1).isSome = true))
    (h : ∀ s₁, InCallC s (callEnvC fd s.heap.objs.size a).locals (bindL (callEnvC fd s.heap.objs.size a).kindOf binds fun _ => none) (callEnvC fd s.heap.objs.size a).cells
        (bindC (callEnvC fd s.heap.objs.size a).kindOf binds fun _ => none) s₁ →
      wpAny (model prog w) (A.deeper (callEnvC fd s.heap.objs.size a)) (execs body (callEnvC fd s.heap.objs.size a)) (fun f s' => R (.ok (.ret (match f with | .ret v => v | _ => .none))) s')
        (fun e s' => wpAny (model prog w) (A.deeper (callEnvC fd s.heap.objs.size a)) (leaving (callEnvC fd s.heap.objs.size a) e) (fun _ s'' => R (.error e) s'') (fun e' s'' => R (.error e') s'') s') s₁)
    (hco : fd.scope.isCoroutine = false) (hgen : fd.scope.isGenerator = false) (hk : fd.scope.kind = .function) :
    codeAny (model prog w) A (.call (.ref a) ⟨vals, []⟩) R s := by
  refine codeAny_call_function hroom ho hdata hco hgen hbody hcd ?_
  rw [hclo]
  refine hbind _ _ _ (wpAny_newFunctionEnv_cells hk hkind fun env he s' x => ?_)
  subst he
  exact ⟨hlim.keeps x.toInCall.keep, codeAny_func (h s' x)⟩

/-- a call, by the body of what is called -/
theorem call_intro {prog : Program} {w : World} {n : Nat} {fd : FuncData} {body : List Stmt} {ds : List D} {Q : D → Prop} {xs : List Str} {A : Around} {s : Shared} {a : Addr} {o : Obj} {vals vs : List Value} {P : Facts}
    (B : Base mg mb s.heap) (ho : s.heap.get? a = some o) (hdat : o.data = .func fd) (hcd : s.heap.CodeRec fd.code fd.qualname) (hbody : fd.body = .stmts body) (hclo : fd.closure = []) (hglob : fd.globals = mainGlobals) (hbltn : fd.builtins = builtinsNs)
    (hbind : ∀ (A : Around) (Q : List (Str × Value) → Shared → Prop) (E : Value → Shared → Prop), Q (xs.zip vs) s → wpAny (model prog w) A (bindArgs fd ⟨vals, []⟩) Q E s) (hlen : xs.length = ds.length) (hnd : xs.Nodup)
    (hg : AllBare s.gens) (hd : A.depth + (n + 1) < 1000) (hu : A.units + 20 * (n + 1) < 9900) (hh : A.handled = none) (hfr : FrOk A s.heap P) (hp : ∀ a o, P a o → s.heap.get? a = some o) (hr : Rs P [] vs ds)
    (hkind : ∀ x ∈ xs, fd.scope.names.lookup x = some .local ∨ fd.scope.names.lookup x = some .cell)
    (hnm : (fd.scope.names.all fun p => !(p.1 == ("__debug__" : Str)) && !(p.1 == ("__classdict__" : Str))) = true) (hcn : ((cellsFrom 0 fd.scope.names []).map (·.1)).Nodup) (hco : fd.scope.isCoroutine = false) (hgen : fd.scope.isGenerator = false) (hk : fd.scope.kind = .function)
    (h : ∀ c : Cx, c.prog = prog → c.w = w → c.env.scope = fd.scope → c.n = n → c.ro = false → c.Ok mg mb → TrT c (xs.zip ds) [] (execs body c.env) (kEnd Q)) :
    codeAny (model prog w) A (.call (.ref a) ⟨vals, []⟩) (PC A s P Q) s := by
  have hvl : vs.length = xs.length := by rw [hr.length, hlen]
  have hcellk : ∀ n : Nat, ∀ x : Str, fd.scope.names.lookup x = some .cell → ((cellsFrom n fd.scope.names []).lookup x).isSome = true := fun n x hx => cellsFrom_some _ _ _ (.inl hx)
  refine codeAny_call_cellsW (by show A.depth < 1000; omega) ho hdat B.lim hcd hbody hbind hclo (fun x hx => ?_) (fun s₁ C => ?_) hco hgen hk
  · have hx1 : x.1 ∈ xs := (List.of_mem_zip hx).1
    rcases hkind x.1 hx1 with q | q
    · exact .inl q
    · exact .inr ⟨q, hcellk _ _ q⟩
  · obtain ⟨h₁, tk, rfl, hkeep⟩ := C.done
    have K : (cxOf prog w A s fd a n P).Ok mg mb :=
      { kind := hk, glob := hglob, blt := hbltn, base := B, depth := by show A.depth + 1 + n < 1000; omega, units := by show A.units + 3 + 20 * n < 9900; omega, handled := hh
        nm := fun x k hx => by
          have := List.all_eq_true.mp hnm (x, k) (mem_of_lookup (show fd.scope.names.lookup x = some k from hx))
          simpa [Bool.and_eq_true] using this
        wcs := fun x y ca h1 h2 => name_of_addr C.apart (mem_of_lookup h1) (mem_of_lookup h2)
        fr := by
          obtain ⟨outer, e, ho⟩ := hfr
          refine ⟨outer, by show A.frames.map _ = _; rw [e]; rfl, fun env he => ?_⟩
          obtain ⟨h1, L, h2, _⟩ := ho env he
          refine ⟨h1, L, ?_, h2⟩
          show L ∈ (A.frames.getD []).filterMap (·.frame)
          rw [e]; exact List.mem_filterMap.mpr ⟨env, he, h2⟩
        fl := fun _ => rfl
        upOk := fun L hL => by
          obtain ⟨outer, e, ho⟩ := hfr
          have hL' : L ∈ (A.frames.getD []).filterMap (·.frame) := hL
          rw [e] at hL'
          obtain ⟨env, he, hf⟩ := List.mem_filterMap.mp hL'
          obtain ⟨_, L', h2, h3, h4⟩ := ho env he
          rw [hf] at h2; cases h2
          exact ⟨h3, h4⟩ }
    have hL : ∀ b o, s.heap.get? b = some o → b < s.heap.objs.size := fun b o e => Heap.lt_size e
    have I : Inv (cxOf prog w A s fd a n P) (xs.zip ds) [] P [] { s with heap := h₁, toks := tk } := by
      have hnew : ∀ b ∈ own (cxOf prog w A s fd a n P) [], s.heap.get? b = none := fun b hb => by
        cases e : s.heap.get? b with
        | none => rfl
        | some o' =>
          exfalso
          have hb' : b ∈ (cxOf prog w A s fd a n P).env.locals :: (cxOf prog w A s fd a n P).wc := by simpa [own] using hb
          have hlt := hL b o' e
          rcases List.mem_cons.mp hb' with rfl | hb'
          · exact Nat.lt_irrefl _ hlt
          · obtain ⟨p, hp, rfl⟩ := List.mem_map.mp hb'
            have h2 : s.heap.objs.size < p.2 := C.above p.1 p.2 hp
            have h3 : p.2 < s.heap.objs.size := hlt
            exact Nat.lt_irrefl _ (Nat.lt_trans h2 h3)
      refine ⟨fun b o h => hkeep b o (hp b o h), .of hkeep, fun _ _ h => .inl h, hg, rfl, ⟨_, C.toInCall.ns⟩, fun _ x hx => ?_, fun x e hx => ?_, rfl, fun k b m h1 => by simp at h1, ?_, fun b hb o' e => ?_, hnew, fun b hb => ?_⟩
      · obtain ⟨ca, hca⟩ := Option.isSome_iff_exists.mp (hcellk (s.heap.objs.size + 1) x hx)
        exact ⟨ca, _, hca, List.mem_map.mpr ⟨(x, ca), mem_of_lookup hca, rfl⟩, C.cell x ca hca⟩
      · obtain ⟨v, hv, r⟩ := zip_R hr hx
        have hx1 : x ∈ xs := (List.of_mem_zip hx).1
        have hnn : ((xs.zip vs).map (·.1)).Nodup := by rw [zip_names xs vs hvl.symm]; exact hnd
        refine ⟨v, ?_, r⟩
        rcases hkind x hx1 with q | q
        · exact .inl ⟨q, _, C.toInCall.ns, bindL_at q _ _ hnn hv⟩
        · obtain ⟨ca, hca⟩ := Option.isSome_iff_exists.mp (hcellk (s.heap.objs.size + 1) x q)
          refine .inr (.inl ⟨q, ca, hca, List.mem_map.mpr ⟨(x, ca), mem_of_lookup hca, rfl⟩, ?_⟩)
          have := C.cell x ca hca
          rw [bindC_at q _ _ hnn hv] at this
          exact this
      · rw [List.append_nil]
        refine List.nodup_cons.mpr ⟨fun hm => ?_, ?_⟩
        · obtain ⟨p, hp, e⟩ := List.mem_map.mp hm
          have := C.above p.1 p.2 hp
          rw [e] at this
          exact Nat.lt_irrefl _ this
        · exact (List.pairwise_map.mpr C.apart)
      · have := hnew b hb
        rw [hp b o' e] at this; cases this
      · obtain ⟨p, hp, rfl⟩ := List.mem_map.mp hb
        obtain ⟨o, e, _⟩ := C.cell p.1 p.2 (lookup_of_mem_nodup (cellsFrom_names fd.scope.names 0 (s.heap.objs.size + 1) [] [] rfl ▸ hcn) hp)
        exact ⟨o, e⟩
    refine (h _ rfl rfl rfl rfl rfl K).at I fun f s' fl σ' μ' P' φ' l r I' q => ?_
    obtain ⟨e, e', hfl, hres, hq⟩ := q
    have fin : ∀ v, R P' φ' v e → PC A s P Q (.ok (.ret v)) s' := fun v hr' =>
      ⟨v, e', out P' φ' s'.heap, rfl, I'.base, I'.gens, I'.os, l.trans fun _ _ h => .inl h, fun a o h => h.elim (I'.fz a o) (·.2),
        fun a o h => h.elim (I'.src a o) (fun h => .inr (I'.apart₀ a (List.mem_append_right _ h.1))), res_ok I' hres hr', hq⟩
    rcases hfl with rfl | ⟨rfl, rfl⟩
    · cases r with
      | ret hr' => exact fin _ hr'
    · (first | obtain rfl := r.inv | obtain ⟨_, rfl⟩ := r.inv)
      exact fin _ .none

/-- a def's contract by its body -/
theorem con_intro {prog : Program} {w : World} {n : Nat} {d : DefRec} {ds : List D} {Q : D → Prop} {xs : List Str}
    (hbind : ∀ pm code doc vs, vs.length = xs.length → bindArgs (Calls.docDef d.name d.params d.body d.scope pm code doc) ⟨vs, []⟩ = pure (xs.zip vs)) (hlen : xs.length = ds.length) (hnd : xs.Nodup)
    (hkind : ∀ x ∈ xs, d.scope.names.lookup x = some .local ∨ d.scope.names.lookup x = some .cell)
    (hnm : (d.scope.names.all fun p => !(p.1 == ("__debug__" : Str)) && !(p.1 == ("__classdict__" : Str))) = true) (hcn : ((cellsFrom 0 d.scope.names []).map (·.1)).Nodup) (hco : d.scope.isCoroutine = false) (hgen : d.scope.isGenerator = false) (hk : d.scope.kind = .function)
    (h : ∀ c : Cx, c.prog = prog → c.w = w → c.env.scope = d.scope → c.n = n → c.ro = false → c.Ok mg mb → TrT c (xs.zip ds) [] (execs d.body c.env) (kEnd Q)) :
    Con prog w mg mb (n + 1) d ds Q := fun A s a vs P B F hg hd hu hh hfr hp hr => by
  obtain ⟨o, pm, code, doc, ho, hdat, hcd⟩ := F
  have hvl : vs.length = xs.length := by rw [hr.length, hlen]
  exact call_intro (vs := vs) (xs := xs) B ho hdat hcd rfl rfl rfl rfl (fun A Q E h => wpAny_of_eq (hbind pm code doc vs hvl) h) hlen hnd hg hd hu hh hfr hp hr hkind hnm hcn hco hgen hk h

theorem bind_dflt {M : Model} {A : Around} {s : Shared} {fd : FuncData} {dt : Addr} {od : Obj} {nd : Nat} {items : Array Value} {args : Args} {binds : List (Str × Value)} {Q : List (Str × Value) → Shared → Prop} {E : Value → Shared → Prop}
    (hd : fd.defaults = .ref dt) (ho : s.heap.get? dt = some od) (hod : od.data = .seq items nd) (f : Option (Array Value) → Sem (List (Str × Value))) (he : bindArgs fd args = (seqItems? (.ref dt) >>= f)) (hf : f (some items) = pure binds) (h : Q binds s) :
    wpAny M A (bindArgs fd args) Q E s := by
  rw [he]
  refine wpAny_bind (wpAny_seqItems ho hod ?_)
  rw [hf]; exact wpAny_pure h
end
end -- QCall

section -- QCall2
section
variable {c : Cx} {σ σ' : List (Str × D)} {μ : List MO} {P : Facts} {φ : List Addr} {s : Shared} {mg mb : Str → Option Value} {Q : D → List MO → Prop}

/-- a look at a value -/
noncomputable def OpB (c : Cx) (σ : List (Str × D)) (μ : List MO) (d : D) (f : Value → Sem Bool) (Q : Bool → List MO → Prop) : Prop :=
  ∀ P φ s v, Inv c σ μ P φ s → R P φ v d → wpAny (model c.prog c.w) c.A (f v) (PB c σ P φ Q) noE s

noncomputable abbrev kEvs2 (d : D) (Q : List D → List MO → Prop) : List D → List MO → Prop := fun ds μ₂ => Q (d :: ds) μ₂
noncomputable abbrev kEvs (c : Cx) (σ : List (Str × D)) (pos : Pos) (rest : List Expr) (Q : List D → List MO → Prop) : KV := fun d μ₁ => EvsT c σ μ₁ (spliced (backTo pos (starEach rest c.env))) (kEvs2 d Q)
noncomputable abbrev kTup (Q : KV) : List D → List MO → Prop := fun ds μ' => ds.length ≤ 1000 ∧ Q (.tup ds) μ'
noncomputable abbrev kLst (Q : KV) : List D → List MO → Prop := fun ds μ' => ds.length ≤ 1000 ∧ Q (.lst ds) μ'
noncomputable abbrev kLstM (Q : KV) : List D → List MO → Prop := fun ds μ' => ds.length ≤ 1000 ∧ Q (.ref μ'.length) (μ' ++ [.lst ds])
noncomputable abbrev kBlt (c : Cx) (σ : List (Str × D)) (id : String) (Q : KV) : List D → List MO → Prop := fun ds μ₂ => OpT c σ μ₂ ds (fun vs => call (.builtin id) vs) Q
noncomputable abbrev kTyp (c : Cx) (σ : List (Str × D)) (id : String) (Q : KV) : List D → List MO → Prop := fun ds μ₂ => OpT c σ μ₂ ds (fun vs => call (.type id) vs) Q
noncomputable abbrev kAnd (c : Cx) (σ : List (Str × D)) (rest : List Expr) (Q : KB) : KB := fun b μ' => if b = true then TsT c σ μ' (allTrue .And rest c.env) Q else Q false μ'
noncomputable abbrev kOr (c : Cx) (σ : List (Str × D)) (rest : List Expr) (Q : KB) : KB := fun b μ' => if b = true then Q true μ' else TsT c σ μ' (allTrue .Or rest c.env) Q
noncomputable abbrev kAug (c : Cx) (σ : List (Str × D)) (x : Str) (d : D) (op : Operator) (Q : KS) : KV := fun e μ₁ => OpT c σ μ₁ [d, e] (op2 (inplaceOp op)) (kAsg σ x Q)
noncomputable abbrev kAssert (σ : List (Str × D)) (Q : KS) : KB := fun b μ' => b = true ∧ Q .next σ μ'
theorem evs_nil {pos : Pos} {Q : List D → List MO → Prop} (h : Q [] μ) : EvsT c σ μ (spliced (backTo pos (starEach [] c.env))) Q :=
  fun P φ s I => args_nil ⟨[], μ, P, φ, Le.rfl, List.prefix_refl _, .nil, I, h⟩
theorem evs_cons {e : Expr} {rest : List Expr} {pos : Pos} {Q : List D → List MO → Prop}
    (h : EvT c σ μ (eval e c.env) (kEvs c σ pos rest Q))
    (he : starEach (e :: rest) c.env = (false, eval e c.env) :: starEach rest c.env := by rfl) : EvsT c σ μ (spliced (backTo pos (starEach (e :: rest) c.env))) Q :=
  fun P φ s I => args_cons (h.at I fun v s₁ d μ₁ P₁ φ₁ l₁ f₁ r₁ I₁ q₁ => q₁.at I₁ fun vs s₂ ds μ₂ P₂ φ₂ l₂ f₂ r₂ I₂ q₂ =>
    ⟨d :: ds, μ₂, P₂, φ₂, l₁.trans l₂, f₁.trans f₂, .cons (r₁.mono l₂ f₂) r₂, I₂, q₂⟩) he

theorem ev_tuple {elts : List Expr} {k : Nat} {pos : Pos} (h : EvsT c σ μ (spliced (backTo pos (starEach elts c.env))) (kTup Q)) :
    EvT c σ μ (eval (.Tuple elts k pos) c.env) Q :=
  fun P φ s I => Tuple_ (h.at I fun vs s₁ ds μ₁ P₁ φ₁ l₁ f₁ r₁ I₁ ⟨hl, q⟩ => by
    refine wpAny_newObj_type ?_ (by show vs.toArray.size ≤ sizeLine; rw [List.size_toArray, r₁.length, sizeLine_eq]; omega)
    have J := I₁.push { cls := .type "tuple", data := .seq vs.toArray } rfl s₁.toks
    exact ⟨.tup ds, μ₁, _, φ₁, l₁.trans fun _ _ h => .inl h, f₁, .tup (.inr ⟨rfl, rfl⟩) rfl rfl (r₁.mono (fun _ _ h => .inl h) (List.prefix_refl _)), J, q⟩)
/-- a list that stays as it is -/
theorem ev_list {elts : List Expr} {pos : Pos} (h : EvsT c σ μ (spliced (backTo pos (starEach elts c.env))) (kLst Q)) :
    EvT c σ μ (eval (.List elts pos) c.env) Q :=
  fun P φ s I => List_ (h.at I fun vs s₁ ds μ₁ P₁ φ₁ l₁ f₁ r₁ I₁ ⟨hl, q⟩ => by
    refine wpAny_newObj_type ?_ (by show vs.toArray.size ≤ sizeLine; rw [List.size_toArray, r₁.length, sizeLine_eq]; omega)
    have J := I₁.push { cls := .type "list", data := .seq vs.toArray } rfl s₁.toks
    exact ⟨.lst ds, μ₁, _, φ₁, l₁.trans fun _ _ h => .inl h, f₁, .lst (.inr ⟨rfl, rfl⟩) rfl rfl (r₁.mono (fun _ _ h => .inl h) (List.prefix_refl _)), J, q⟩)
/-- a list that will be written in place -/
theorem ev_listM {elts : List Expr} {pos : Pos} (h : EvsT c σ μ (spliced (backTo pos (starEach elts c.env))) (kLstM Q)) :
    EvT c σ μ (eval (.List elts pos) c.env) Q :=
  fun P φ s I => List_ (h.at I fun vs s₁ ds μ₁ P₁ φ₁ l₁ f₁ r₁ I₁ ⟨hl, q⟩ => by
    refine wpAny_newObj_type ?_ (by show vs.toArray.size ≤ sizeLine; rw [List.size_toArray, r₁.length, sizeLine_eq]; omega)
    have J := I₁.pushMu (o := { cls := .type "list", data := .seq vs.toArray }) (m := .lst ds) (.lst rfl rfl rfl r₁) rfl s₁.toks
    refine ⟨.ref μ₁.length, _, P₁, _, l₁, f₁.trans (List.prefix_append _ _), .ref ?_, J, q⟩
    rw [← I₁.len]; simp)

/-! ### calls -/
theorem ev_call_blt {func : Expr} {e : Expr} {args : List Expr} {pos : Pos} (h : EvT c σ μ (eval func c.env) (fun f μ₁ => ∃ id, f = .opq (.builtin id) ∧
      EvsT c σ μ₁ (spliced (backTo pos (starEach (e :: args) c.env))) (kBlt c σ id Q)))
    (hc : eval (.Call func (e :: args) [] pos) c.env = (do callWith pos (← eval func c.env) [] (backTo pos (starEach (e :: args) c.env)) (backToKw pos (keywordEach [] c.env))) := by rfl)
    (he : starEach (e :: args) c.env = (false, eval e c.env) :: starEach args c.env := by rfl)
    (hplain : (backTo pos (starEach args c.env)).any (·.1) = false := by rfl) : EvT c σ μ (eval (.Call func (e :: args) [] pos) c.env) Q :=
  fun P φ s I => Call_ (h.at I fun v s₁ d μ₁ P₁ φ₁ l₁ f₁ r₁ I₁ ⟨id, hd, q⟩ => by
    subst hd; (first | obtain rfl := r₁.inv | obtain ⟨_, rfl⟩ := r₁.inv)
    exact callWith_builtin1 (q.at I₁ fun vs s₂ ds μ₂ P₂ φ₂ l₂ f₂ r₂ I₂ q₂ => q₂.at I₂ r₂ fun v s' d μ' P' φ' l f r I' q => ⟨d, μ', P', φ', (l₁.trans l₂).trans l, (f₁.trans f₂).trans f, r, I', q⟩) he hplain) hc
theorem ev_call_typ {func : Expr} {e : Expr} {args : List Expr} {pos : Pos} (h : EvT c σ μ (eval func c.env) (fun f μ₁ => ∃ T, f = .opq (.type T) ∧
      EvsT c σ μ₁ (spliced (backTo pos (starEach (e :: args) c.env))) (kTyp c σ T Q)))
    (hc : eval (.Call func (e :: args) [] pos) c.env = (do callWith pos (← eval func c.env) [] (backTo pos (starEach (e :: args) c.env)) (backToKw pos (keywordEach [] c.env))) := by rfl)
    (he : starEach (e :: args) c.env = (false, eval e c.env) :: starEach args c.env := by rfl)
    (hplain : (backTo pos (starEach args c.env)).any (·.1) = false := by rfl) : EvT c σ μ (eval (.Call func (e :: args) [] pos) c.env) Q :=
  fun P φ s I => Call_ (h.at I fun v s₁ d μ₁ P₁ φ₁ l₁ f₁ r₁ I₁ ⟨id, hd, q⟩ => by
    subst hd; (first | obtain rfl := r₁.inv | obtain ⟨_, rfl⟩ := r₁.inv)
    exact PyProof.Rows.callWith_type1 (q.at I₁ fun vs s₂ ds μ₂ P₂ φ₂ l₂ f₂ r₂ I₂ q₂ => q₂.at I₂ r₂ fun v s' d μ' P' φ' l f r I' q => ⟨d, μ', P', φ', (l₁.trans l₂).trans l, (f₁.trans f₂).trans f, r, I', q⟩) he hplain) hc

theorem frs_own (K : c.Ok mg mb) : ∀ b ∈ frs c.A, b = c.env.locals ∨ b ∈ c.up := fun b hb => by
  obtain ⟨outer, e, ho⟩ := K.fr
  have hb' : b ∈ (c.A.frames.getD []).filterMap (·.frame) := hb
  rw [e] at hb'
  obtain ⟨env, he, hf⟩ := List.mem_filterMap.mp hb'
  have hout : env ∈ outer → b = c.env.locals ∨ b ∈ c.up := fun he => by
    obtain ⟨_, L, hL, h2⟩ := ho env he
    rw [hf] at h2; cases h2; exact .inr hL
  by_cases hro : c.ro = true
  · simp only [Option.getD_some] at he; rw [if_pos hro] at he; exact hout he
  · simp only [Option.getD_some] at he
    rw [if_neg hro] at he
    rcases List.mem_cons.mp he with rfl | he
    · rw [K.fl (by simpa using hro)] at hf; cases hf; exact .inl rfl
    · exact hout he
noncomputable abbrev kR (Q : KV) (μ : List MO) : D → Prop := fun r => D.pure r = true ∧ Q r μ
noncomputable abbrev kCon (c : Cx) (mg mb : Str → Option Value) (n : Nat) (d : DefRec) (Q : KV) : List D → List MO → Prop := fun ds μ₂ => Ds.pure ds = true ∧ Con c.prog c.w mg mb n d ds (kR Q μ₂)
/-- a call of a def of the text -/
theorem ev_call_def {func : Expr} {e : Expr} {args : List Expr} {pos : Pos} {d : DefRec} {n : Nat} (K : c.Ok mg mb) (hn : n ≤ c.n)
    (h : EvT c σ μ (eval func c.env) (fun f μ₁ => ∃ a, f = .opq (.ref a) ∧ IsFn c.h₀ a d ∧
      EvsT c σ μ₁ (spliced (backTo pos (starEach (e :: args) c.env))) (kCon c mg mb n d Q)))
    (hc : eval (.Call func (e :: args) [] pos) c.env = (do callWith pos (← eval func c.env) [] (backTo pos (starEach (e :: args) c.env)) (backToKw pos (keywordEach [] c.env))) := by rfl)
    (he : starEach (e :: args) c.env = (false, eval e c.env) :: starEach args c.env := by rfl) : EvT c σ μ (eval (.Call func (e :: args) [] pos) c.env) Q :=
  fun P φ s I => Call_ (h.at I fun v s₁ d' μ₁ P₁ φ₁ l₁ f₁ r₁ I₁ ⟨a, hd, hF, q⟩ => by
    subst hd; (first | obtain rfl := r₁.inv | obtain ⟨_, rfl⟩ := r₁.inv)
    obtain ⟨o, pm, code, doc, ho, hdat, hcd⟩ := id hF
    have hup : ∀ L ∈ c.up, ∃ o, c.h₀.get? L = some o := fun L hL => let ⟨⟨o, _, _, e, _, _⟩, _⟩ := K.upOk L hL; ⟨o, e⟩
    have hna : a ∉ c.up := fun hm => by
      obtain ⟨⟨o', es, ep, e, d, _⟩, _⟩ := K.upOk a hm
      rw [ho] at e; cases e; rw [hdat] at d; cases d
    refine callWith_def hdat (q.at I₁ fun vs s₂ ds μ₂ P₂ φ₂ l₂ f₂ r₂ I₂ ⟨hpure, hcon⟩ => ⟨I₂.base.out ho hna, wpAny_call ?_⟩) he
    have hFr : FrOk c.A s₂.heap P₂ := by
      obtain ⟨outer, e, ho⟩ := K.fr
      have hout : ∀ env ∈ outer, env.scope.kind ≠ .module ∧ ∃ L, env.frame = some L ∧ (∃ o es ep, s₂.heap.get? L = some o ∧ o.data = .dict es ep ∧ StrKeys es) ∧ ∀ o, ¬ P₂ L o := fun env he => by
        obtain ⟨h1, L, hL, h2⟩ := ho env he
        obtain ⟨⟨o', es, ep, e1, d, kd⟩, hP⟩ := K.upOk L hL
        obtain ⟨o'', e2, d2⟩ := I₂.base.data e1
        refine ⟨h1, L, h2, ⟨o'', es, ep, e2, d2.trans d, kd⟩, fun o3 h3 => ?_⟩
        rcases I₂.src L o3 h3 with q | q
        · exact hP o3 q
        · rw [e1] at q; cases q
      refine ⟨_, e, fun env he => ?_⟩
      by_cases hro : c.ro = true
      · rw [if_pos hro] at he; exact hout env he
      · rw [if_neg hro] at he
        rcases List.mem_cons.mp he with rfl | he
        · obtain ⟨m, o', es, ep, e1, d, kd, _⟩ := I₂.ns
          exact ⟨by rw [K.kind]; decide, _, K.fl (by simpa using hro), ⟨o', es, ep, e1, d, kd⟩, I₂.apart _ (List.mem_cons_self ..)⟩
        · exact hout env he
    refine codeAny_mono (hcon c.A s₂ a vs P₂ (K.base.kp I₂.base K.tabs) (hF.kp I₂.base) I₂.gens ?_ ?_ K.handled hFr I₂.fz (r₂.pure hpure)) fun r s' ⟨v, e, P', h1, h2, h3, h4, h5, h6, h7, h8, h9, h10⟩ => ?_
    · have := K.depth; omega
    · have := K.units; omega
    · subst h1
      exact ⟨e, μ₂, P', φ₂, (l₁.trans l₂).trans h5, f₁.trans f₂, h8.pure h9, I₂.growK h3 h4 h2 (frs_own K) hup h5 h6 h7, h10⟩) hc

theorem ev_fn {x : Str} {pos : Pos} {i k : Nat} (K : c.Ok mg mb) (hk : c.env.kindOf x = some .globalImplicit) (hi : (recsOf PySem.Challenge.pw_in0050_01)[k]? = some (defAt i)) (hx : (defAt i).name = x)
    (h : ∀ a, IsFn c.h₀ a (defAt i) → Q (.opq (.ref a)) μ) : EvT c σ μ (eval (.Name x pos) c.env) Q := by
  obtain ⟨a, h1, h2⟩ := K.base.fn _ (List.mem_of_getElem? hi)
  exact ev_global K hk (hx ▸ h1) (h a h2)
theorem ev_blt {x : Str} {pos : Pos} {v : Value} (K : c.Ok mg mb) (hk : c.env.kindOf x = some .globalImplicit) (hx : x ∈ bltNames) (hv : bootBuiltins x = some v) (h : Q (.opq v) μ) : EvT c σ μ (eval (.Name x pos) c.env) Q :=
  ev_builtin K hk (K.base.blt x hx).1 ((K.base.blt x hx).2.trans hv) h
theorem kind_l {sc : Scope} {x : Str} (hsc : c.env.scope = sc) (h : sc.names.lookup x = some .local) : c.st x := .inl (by unfold Env.kindOf; rw [hsc]; exact h)
theorem kind_c {sc : Scope} {x : Str} (hsc : c.env.scope = sc) (h : sc.names.lookup x = some .cell) (hro : c.ro = false) : c.st x := .inr ⟨by unfold Env.kindOf; rw [hsc]; exact h, hro⟩
theorem kind_of {sc : Scope} {x : Str} {k : NameKind} (hsc : c.env.scope = sc) (h : sc.names.lookup x = some k) : c.env.kindOf x = some k := by
  unfold Env.kindOf; rw [hsc]; exact h

/-! ### built-ins -/
theorem op_len_lst {ds : List D} (hb : ds.length < 2 ^ 62) (h : Q (.int ds.length) μ) : OpT c σ μ [.lst ds] (fun vs => call (.builtin "len") vs) Q :=
  fun P φ s vs I rs => by
    (have hx := rs.inv; clear rs; obtain ⟨_, _, rfl, r, rs⟩ := hx)
    · (first | obtain rfl := rs.inv | obtain ⟨_, rfl⟩ := rs.inv); obtain ⟨a, o, vs, n, rfl, hP, hc, hdat, hrs⟩ := r.inv
      have hlen : vs.size = ds.length := by have := hrs.length; simpa using this
      exact len_list ⟨o, I.fz _ _ hP, hc, n, hdat⟩ (by omega) (by rw [hlen]; exact fin_tok I (.int _ _) h _)
theorem op_len_tup {ds : List D} (hb : ds.length < 2 ^ 62) (h : Q (.int ds.length) μ) : OpT c σ μ [.tup ds] (fun vs => call (.builtin "len") vs) Q :=
  fun P φ s vs I rs => by
    (have hx := rs.inv; clear rs; obtain ⟨_, _, rfl, r, rs⟩ := hx)
    · (first | obtain rfl := rs.inv | obtain ⟨_, rfl⟩ := rs.inv); obtain ⟨a, o, vs, n, rfl, hP, hc, hdat, hrs⟩ := r.inv
      have hlen : vs.size = ds.length := by have := hrs.length; simpa using this
      exact len_tuple ⟨o, I.fz _ _ hP, hc, n, hdat⟩ (by omega) (by rw [hlen]; exact fin_tok I (.int _ _) h _)
theorem op_len_ref {ds : List D} {k : Nat} (hk : μ[k]? = some (.lst ds)) (hb : ds.length < 2 ^ 62) (h : Q (.int ds.length) μ) : OpT c σ μ [.ref k] (fun vs => call (.builtin "len") vs) Q :=
  fun P φ s vs I rs => by
    (have hx := rs.inv; clear rs; obtain ⟨_, _, rfl, r, rs⟩ := hx)
    · (first | obtain rfl := rs.inv | obtain ⟨_, rfl⟩ := rs.inv); obtain ⟨_, rfl, hφ⟩ := r.inv
      obtain ⟨o, ho, hm⟩ := I.mu _ _ _ hφ hk
      obtain ⟨vs, n, hc, _, hdat, hrs⟩ := hm.inv
      have hlen : vs.size = ds.length := by have := hrs.length; simpa using this
      exact len_list ⟨_, ho, hc, n, hdat⟩ (by omega) (by rw [hlen]; exact fin_tok I (.int _ _) h _)
theorem op_len_str {x : Str} (hb : x.length < 2 ^ 62) (h : Q (.int x.length) μ) : OpT c σ μ [.str x] (fun vs => call (.builtin "len") vs) Q :=
  fun P φ s vs I rs => by
    (have hx := rs.inv; clear rs; obtain ⟨_, _, rfl, r, rs⟩ := hx)
    · (first | obtain rfl := rs.inv | obtain ⟨_, rfl⟩ := rs.inv); (first | obtain rfl := r.inv | obtain ⟨_, rfl⟩ := r.inv)
      exact PyProof.Rows.len_str (by omega) (fin_tok I (.int _ _) h _)

/-! ### truth -/
/-- an if's test that is a plain value -/
noncomputable abbrev kTru (c : Cx) (σ : List (Str × D)) (Q : KB) : KV := fun d μ₁ => OpB c σ μ₁ d truthy Q
theorem ts_value {e : Expr} {Q : Bool → List MO → Prop} (h : EvT c σ μ (eval e c.env) (kTru c σ Q))
    (he : isTrue e c.env (eval e c.env) = (do let v ← eval e c.env; standAt e.pos; holding [v] (truthy v)) := by rfl) : TsT c σ μ (isTrue e c.env (eval e c.env)) Q :=
  fun P φ s I => wpAny_isTrue_value (h.at I fun v s₁ d μ₁ P₁ φ₁ l₁ f₁ r₁ I₁ q₁ => wpAny_mono (q₁ P₁ φ₁ s₁ v I₁ r₁) (fun b s' ⟨μ', P', φ', l, f, I', q⟩ => ⟨μ', P', φ', l₁.trans l, f₁.trans f, I', q⟩) fun _ _ x => x) he

theorem tru_bool {b : Bool} {Q : Bool → List MO → Prop} (h : Q b μ) : OpB c σ μ (.bool b) truthy Q :=
  fun P φ s v I r => by (first | obtain rfl := r.inv | obtain ⟨_, rfl⟩ := r.inv); exact wpAny_truthy_bool ⟨μ, P, φ, Le.rfl, List.prefix_refl _, I, h⟩
theorem tru_str {x : Str} {Q : Bool → List MO → Prop} (hb : x.length < 2 ^ 62) (h : Q ((x.length : Int) != 0) μ) : OpB c σ μ (.str x) truthy Q :=
  fun P φ s v I r => by (first | obtain rfl := r.inv | obtain ⟨_, rfl⟩ := r.inv); exact PySem.P.truthy_str (by omega) ⟨μ, P, φ, Le.rfl, List.prefix_refl _, I.tok _, h⟩
theorem tru_lst {ds : List D} {Q : Bool → List MO → Prop} (hb : ds.length < 2 ^ 62) (h : Q (!ds.isEmpty) μ) : OpB c σ μ (.lst ds) truthy Q :=
  fun P φ s v I r => by
    obtain ⟨a, o, vs, n, rfl, hP, hc, hdat, hrs⟩ := r.inv
    have hlen : vs.size = ds.length := by have := hrs.length; simpa using this
    have he : vs.isEmpty = ds.isEmpty := by
      rw [Array.isEmpty, hlen]; cases ds <;> simp
    exact wpAny_truthy_list ⟨o, I.fz _ _ hP, hc, n, hdat⟩ (by omega) (by rw [he]; exact ⟨μ, P, φ, Le.rfl, List.prefix_refl _, I.tok _, h⟩)
theorem tru_ref {ds : List D} {k : Nat} {Q : Bool → List MO → Prop} (hk : μ[k]? = some (.lst ds)) (hb : ds.length < 2 ^ 62) (h : Q (!ds.isEmpty) μ) : OpB c σ μ (.ref k) truthy Q :=
  fun P φ s v I r => by
    obtain ⟨_, rfl, hφ⟩ := r.inv
    obtain ⟨o, ho, hm⟩ := I.mu _ _ _ hφ hk
    obtain ⟨vs, n, hc, _, hdat, hrs⟩ := hm.inv
    have hlen : vs.size = ds.length := by have := hrs.length; simpa using this
    have he : vs.isEmpty = ds.isEmpty := by
      rw [Array.isEmpty, hlen]; cases ds <;> simp
    exact wpAny_truthy_list ⟨_, ho, hc, n, hdat⟩ (by omega) (by rw [he]; exact ⟨μ, P, φ, Le.rfl, List.prefix_refl _, I.tok _, h⟩)

/-! ### and, or -/
theorem all_and_cons {x : Expr} {rest : List Expr} {Q : Bool → List MO → Prop}
    (h : TsT c σ μ (isTrue x c.env (eval x c.env)) (kAnd c σ rest Q)) : TsT c σ μ (allTrue .And (x :: rest) c.env) Q :=
  fun P φ s I => wpAny_allTrue_And_cons (h.at I fun b s' μ' P' φ' l f I' q => by
    cases b with
    | true =>
      simp only [if_true]
      replace q := ite_T q
      exact q.at I' fun b s₂ μ₂ P₂ φ₂ l₂ f₂ I₂ q₂ => ⟨μ₂, P₂, φ₂, l.trans l₂, f.trans f₂, I₂, q₂⟩
    | false =>
      simp only [Bool.false_eq_true, if_false]
      replace q := ite_F q
      exact ⟨μ', P', φ', l, f, I', q⟩)
theorem all_or_cons {x : Expr} {rest : List Expr} {Q : Bool → List MO → Prop}
    (h : TsT c σ μ (isTrue x c.env (eval x c.env)) (kOr c σ rest Q)) : TsT c σ μ (allTrue .Or (x :: rest) c.env) Q :=
  fun P φ s I => wpAny_allTrue_Or_cons (h.at I fun b s' μ' P' φ' l f I' q => by
    cases b with
    | true =>
      simp only [if_true]
      replace q := ite_T q
      exact ⟨μ', P', φ', l, f, I', q⟩
    | false =>
      simp only [Bool.false_eq_true, if_false]
      replace q := ite_F q
      exact q.at I' fun b s₂ μ₂ P₂ φ₂ l₂ f₂ I₂ q₂ => ⟨μ₂, P₂, φ₂, l.trans l₂, f.trans f₂, I₂, q₂⟩)

/-! ### more statements -/
theorem tr_aug {x : Str} {pos' pos : Pos} {op : Operator} {value : Expr} {d : D} {Q : Fl → List (Str × D) → List MO → Prop} (K : c.OkW mg mb) (hx : (x, d) ∈ σ)
    (hk : c.st x)
    (h : EvT c σ μ (eval value c.env) (kAug c σ x d op Q)) : TrT c σ μ (exec (.AugAssign (.Name x pos') op value pos) c.env) Q :=
  fun P φ s I => wpAny_AugAssign_Name (load_ok K I hx (fun v₀ r₀ _ => h.at I fun v s₁ e μ₁ P₁ φ₁ l₁ f₁ r₁ I₁ q₁ =>
    q₁.at (vs := [v₀, v]) I₁ (.cons (r₀.mono l₁ f₁) (.cons r₁ .nil)) fun v' s₂ r μ₂ P₂ φ₂ l₂ f₂ r₂ I₂ ⟨σ', u, q⟩ =>
      store_ok K I₂ hk u r₂ fun s' I' => ⟨.next, σ', μ₂, P₂, φ₂, l₁.trans l₂, .next, I', q⟩))
theorem tr_brk {pos : Pos} {Q : Fl → List (Str × D) → List MO → Prop} (h : Q .brk σ μ) : TrT c σ μ (exec (.Break pos) c.env) Q :=
  fun P φ s I => wpAny_Break ⟨.brk, σ, μ, P, φ, Le.rfl, .brk, I, h⟩
theorem tr_assert {test : Expr} {pos : Pos} {Q : Fl → List (Str × D) → List MO → Prop}
    (h : TsT c σ μ (isTrue test c.env (eval test c.env)) (kAssert σ Q)) : TrT c σ μ (exec (.Assert test none pos) c.env) Q :=
  fun P φ s I => wpAny_Assert_holds (h.at I fun b s' μ' P' φ' l f I' ⟨hb, q⟩ => ⟨hb, .next, σ, μ', P', φ', l, .next, I', q⟩)
end
end -- QCall2

section -- QMac
open Lean in
def qId (s : String) : Ident :=
  let n := (if s.startsWith "List." || s.startsWith "Or." then s else "Q50." ++ s).toName
  ⟨Syntax.ident .none s.toRawSubstring n [.decl n []]⟩
open Lean in
/-- what closes an argument behind the step; none: it is written in place -/
def qEnd (t : String) : MacroM (Option (TSyntax `tactic)) := match t with
  | "r" => return some (← `(tactic| exact rfl))
  | "q" => return some (← `(tactic| kernel_rfl!))
  | "Q" => return some (← `(tactic| kernel_rfl))
  | "u" => return some (← `(tactic| with_unfolding_all rfl))
  | "d" => return some (← `(tactic| decide +kernel))
  | "n" => return some (← `(tactic| omega))
  | t => if t.startsWith "." then do
      let s := Syntax.mkStrLit (t.drop 1).toString
      return some (← `(tactic| ks_step $s))
    else return none
open Lean in
def qArg (t : String) : MacroM Term := match t with
  | "h" => `(?_)
  | "_" => `(_)
  | "=" => `(rfl)
  | "a" => `(by with_reducible assumption)
  | "i" => `(by with_unfolding_all rfl)
  | t => if t.startsWith "*" then do
      let s := Syntax.mkStrLit (t.drop 1).toString
      `(by ks_step $s)
    else pure (qId t)
open Lean in
def qThen (t : TSyntax `tactic) : List (Ident × TSyntax `tactic) → MacroM (TSyntax `tactic)
  | [] => pure t
  | (k, e) :: r => do qThen (← `(tactic| ($t:tactic; case $k:ident => $e:tactic))) r
open Lean in
def qArgs : List String → Nat → MacroM (List Term × List (Ident × TSyntax `tactic))
  | [], _ => return ([], [])
  | t :: r, n => do
    let (a, e) ← qArgs r (n + 1)
    match ← qEnd t with
    | some x =>
      let k := mkIdent (← Macro.addMacroScope (.mkSimple ("k" ++ toString n)))
      return ((← `(?$k)) :: a, (k, x) :: e)
    | none => return ((← qArg t) :: a, e)
open Lean in
def qAlt (s : String) : MacroM (TSyntax `tactic) := do
  match s.splitOn " " with
  | ["@rfl"] => `(tactic| exact rfl)
  | ["@dec"] => `(tactic| decide)
  | ["@asm"] => `(tactic| with_reducible assumption)
  | ["@s", r] => do
    let s := Syntax.mkStrLit r
    `(tactic| ks_step $s)
  | ["@g", f, n, r] => do
    let s := Syntax.mkStrLit r
    let a ← (List.range n.toNat!).mapM fun _ => `(_)
    let t := Syntax.mkApp (qId f) a.toArray
    `(tactic| ((with_reducible show $t); ks_step $s))
  | ["@w"] => `(tactic| with_reducible refine ⟨_, rfl, ?_⟩)
  | ["@v"] => `(tactic| with_reducible refine ⟨⟨_, rfl⟩, ?_⟩)
  | ["@u"] => `(tactic| with_reducible refine ⟨_, by ks_step "upd", ?_⟩)
  | ["@l"] => `(tactic| refine ⟨Nat.le_of_ble_eq_true rfl, ?_⟩)
  | ["@h"] => `(tactic| ((with_reducible apply Upd.head); ks_step "fresh"))
  | ["@t"] => `(tactic| ((with_reducible apply Upd.tail); (focus decide +kernel); ks_step "upd"))
  | ["@us"] => do
    let u := qId "Upds.cons"
    `(tactic| ((with_reducible apply $u); (focus ks_step "upd"); ks_step "upds"))
  | "!" :: f :: as => do
    let (a, e) ← qArgs as 0
    let t := Syntax.mkApp (qId f) a.toArray
    qThen (← `(tactic| refine $t)) e
  | f :: as => do
    let (a, e) ← qArgs as 0
    let t := Syntax.mkApp (qId f) a.toArray
    qThen (← `(tactic| with_reducible refine $t)) e
  | [] => `(tactic| fail)
open Lean in
def qOr (l : List (TSyntax `tactic)) : MacroM (TSyntax `tactic) := do
  let a ← l.toArray.mapM fun t => `(Lean.Parser.Tactic.tacticSeq| $t:tactic)
  `(tactic| first $[| $a]* | fail)
def qRow (s : String) : String := match s with
  | "rest" => "after_next h|after_ret h|after_brk h|loop_next h|loop_brk h|loop_ret h"
  | "tr" => "tr_cons h|tr_if h|tr_ret h|tr_assign a .kind h r|tr_aug *okw *has .kind h"
  | "trO" => "tr_exprA i *okw h i i i|tr_exprE i *okw h|@s tr"
  | "trP" => "tr_assert h|tr_brk h|@s trO"
  | "ts" => "ts_compare h u|ts_not h|ts_and h|all_and_cons h|all_or_cons h|all_and_nil h|all_or_nil h|ts_value h r"
  | "ev" => "ev_name *okw *has h|ev_int h|ev_str h|ev_none h|ev_bool h|ev_binop h|ev_compare h u|ev_unary h|ev_ifexp h|ev_sub h|ev_tuple h|ev_bcall blt_len a mem_len .kind .stars h|ev_bcall blt_chr a mem_chr .kind .stars h|ev_bcall blt_sorted a mem_sorted .kind .stars h|ev_bcall blt_iter a mem_iter .kind .stars h|ev_bcall blt_next a mem_next .kind .stars h|ev_tcall blt_list a mem_list .kind .stars h"
  | "evs" => "evs_nil h|evs_c r h"
  | "evO" => "ev_boolop h|bo_one h|bo_and h|bo_or h|ev_slice h|@s ev"
  | "evP" => "ev_joined h|jp_nil h h|jp_cons h|ev_field h|@s evO"
  | "opO" => "op_add h|op_sub h|op_iadd h|op_neg h|op_not h|op_lt h|op_le h|op_gt h|op_ge h|op_eq h|op_ne h|op_eqs h|op_nes h|op_eqb h|op_neb h|op_ins h|op_isN = h|op_isnotN = h|sub_tup3_0 h|sub_tup3_1 h|sub_tup3_2 h"
  | "opP" => "op_is_opq h|op_isnot_opq h|op_is_str h|op_isnot_str h|op_nins h|op_iadds h h|@s opO"
  | "restO" => "tru_bool h|@w|@v|@u|@l|part_none h|part_some h|@s rest"
  | "restP" => "and_tt h|and_none h|@s restO"
  | "go" => "@g TrT 5 tr|@g EvT 5 ev|@g EvsT 5 evs|@g TsT 5 ts|@s rest"
  | "op" => "@g TrT 5 trO|@g EvT 5 evO|@g OpT 6 opO|@g EvsT 5 evs|@g TsT 5 ts|@s restO"
  | "op2" => "@g TrT 5 trP|@g EvT 5 evP|@g OpT 6 opP|@g EvsT 5 evs|@g TsT 5 ts|@s restP"
  | "okw" => "@asm|Cx.Ok.toOkW a"
  | "kind1" => "! kind_of a q"
  | "kindc" => "! Or.inl .kind1|! Or.inr .kind1"
  | "subc" => "! subc_nil|! subc_cons *has h .kindc q .subc"
  | "has" => "List.mem_cons_self|List.mem_cons_of_mem _ .has"
  | "fresh" => "Fresh.nil|Fresh.cons d .fresh"
  | "upd" => "Upd.nil|@h|@t"
  | "upds" => "Upds.nil|@us"
  | "sub" => "sub_nil|sub_cons *has .sub"
  | "kind" => "! kind_of a Q|! kind_l a q|! kind_c a q a"
  | "kinds" => "! kinds_nil|! kinds_cons .kind .kinds"
  | "stars" => "@rfl|@dec"
  | s => if s.startsWith "c" then "ev_fcall nm" ++ (s.drop 1).toString ++ " rec" ++ (s.drop 1).toString ++ " a n .kind r h" else ""
open Lean in
def qStep (s : String) : MacroM (TSyntax `tactic) := do
  let r := qRow s
  if r.isEmpty then Macro.throwUnsupported
  qOr (← (r.splitOn "|").mapM qAlt)
end -- QMac

section -- QTac
section
variable {c : Cx} {σ σ' : List (Str × D)} {μ : List MO} {P : Facts} {φ : List Addr} {s : Shared} {mg mb : Str → Option Value} {Q : D → List MO → Prop}
theorem tr_nilW {Q : Fl → List (Str × D) → List MO → Prop} (σ' : List (Str × D)) (hs : ∀ p ∈ σ', p ∈ σ) (h : Q .next σ' μ) : TrT c σ μ (execs [] c.env) Q :=
  TrT.forget hs (tr_nil h)
theorem tr_nilT {Q : Fl → List (Str × D) → List MO → Prop} (k : Nat) (h : Q .next (σ.take k) μ) : TrT c σ μ (execs [] c.env) Q :=
  TrT.forget (fun p hp => List.mem_of_mem_take hp) (tr_nil h)
theorem len_s {vs : List Value} {n : Nat} (h : vs.length = n + 1) : ∃ a r, vs = a :: r ∧ r.length = n := by
  obtain ⟨a, r, rfl⟩ := List.exists_cons_of_length_eq_add_one h
  exact ⟨a, r, rfl, by simpa using h⟩
theorem len1 {vs : List Value} (h : vs.length = 1) : ∃ a, vs = [a] := List.length_eq_one_iff.mp h
theorem len2 {vs : List Value} (h : vs.length = 2) : ∃ a b, vs = [a, b] := by
  obtain ⟨a, r, rfl, q⟩ := len_s h
  obtain ⟨b, rfl⟩ := len1 q
  exact ⟨a, b, rfl⟩
theorem len3 {vs : List Value} (h : vs.length = 3) : ∃ a b c, vs = [a, b, c] := by
  obtain ⟨a, r, rfl, q⟩ := len_s h
  obtain ⟨b, c, rfl⟩ := len2 q
  exact ⟨a, b, c, rfl⟩
theorem len4 {vs : List Value} (h : vs.length = 4) : ∃ a b c d, vs = [a, b, c, d] := by
  obtain ⟨a, r, rfl, q⟩ := len_s h
  obtain ⟨b, c, d, rfl⟩ := len3 q
  exact ⟨a, b, c, d, rfl⟩
theorem sub_nil : ∀ p ∈ ([] : List (Str × D)), p ∈ σ := fun _ h => by cases h
theorem sub_cons {p : Str × D} {r : List (Str × D)} (h1 : p ∈ σ) (h2 : ∀ q ∈ r, q ∈ σ) : ∀ q ∈ p :: r, q ∈ σ := fun q h => by
  rcases List.mem_cons.mp h with rfl | h
  · exact h1
  · exact h2 q h

noncomputable def notStar : Expr → Bool
  | .Starred .. => false
  | _ => true
theorem star_of {e : Expr} {rest : List Expr} {env : Env} (h : notStar e = true) : starEach (e :: rest) env = (false, eval e env) :: starEach rest env := by
  cases e <;> first | rfl | (simp [notStar] at h)
theorem evs_c {e : Expr} {rest : List Expr} {pos : Pos} {Q : List D → List MO → Prop} (he : notStar e = true)
    (h : EvT c σ μ (eval e c.env) (kEvs c σ pos rest Q)) : EvsT c σ μ (spliced (backTo pos (starEach (e :: rest) c.env))) Q :=
  evs_cons h (star_of he)
theorem plain_nil {env : Env} {pos : Pos} : (backTo pos (starEach [] env)).any (·.1) = false := rfl
theorem plain_cons {e : Expr} {rest : List Expr} {env : Env} {pos : Pos} (he : notStar e = true) (h : (backTo pos (starEach rest env)).any (·.1) = false) : (backTo pos (starEach (e :: rest) env)).any (·.1) = false := by
  rw [star_of he]
  show (false || (backTo pos (starEach rest env)).any (·.1)) = false
  rw [h]; rfl
theorem plain_all {env : Env} {pos : Pos} : ∀ {es : List Expr}, es.all notStar = true → (backTo pos (starEach es env)).any (·.1) = false
  | [], _ => rfl
  | e :: r, h => by
    simp only [List.all_cons, Bool.and_eq_true] at h
    exact plain_cons h.1 (plain_all h.2)
theorem name_call {x : Str} {p pos : Pos} {args : List Expr} {env : Env} : eval (.Call (.Name x p) args [] pos) env = (do callWith pos (← eval (.Name x p) env) [] (backTo pos (starEach args env)) (backToKw pos (keywordEach [] env))) := by rfl

theorem mem_len : Str.ofString "len" ∈ bltNames := by decide +kernel
theorem mem_chr : Str.ofString "chr" ∈ bltNames := by decide +kernel
theorem mem_sorted : Str.ofString "sorted" ∈ bltNames := by decide +kernel
theorem mem_range : Str.ofString "range" ∈ bltNames := by decide +kernel
theorem mem_list : Str.ofString "list" ∈ bltNames := by decide +kernel
theorem mem_str : Str.ofString "str" ∈ bltNames := by decide +kernel
theorem mem_iter : Str.ofString "iter" ∈ bltNames := by decide +kernel
theorem mem_next : Str.ofString "next" ∈ bltNames := by decide +kernel
theorem mem_isinstance : Str.ofString "isinstance" ∈ bltNames := by decide +kernel
theorem blt_len : bootBuiltins (Str.ofString "len") = some (.builtin "len") := by kernel_rfl
theorem blt_chr : bootBuiltins (Str.ofString "chr") = some (.builtin "chr") := by kernel_rfl
theorem blt_sorted : bootBuiltins (Str.ofString "sorted") = some (.builtin "sorted") := by kernel_rfl
theorem blt_iter : bootBuiltins (Str.ofString "iter") = some (.builtin "iter") := by kernel_rfl
theorem blt_next : bootBuiltins (Str.ofString "next") = some (.builtin "next") := by kernel_rfl
theorem blt_isinstance : bootBuiltins (Str.ofString "isinstance") = some (.builtin "isinstance") := by kernel_rfl
theorem blt_list : bootBuiltins (Str.ofString "list") = some (.type "list") := by kernel_rfl
theorem blt_range : bootBuiltins (Str.ofString "range") = some (.type "range") := by kernel_rfl
theorem blt_str : bootBuiltins (Str.ofString "str") = some (.type "str") := by kernel_rfl

theorem ev_bcall {x : Str} {id : String} {p pos : Pos} {e : Expr} {args : List Expr} (hv : bootBuiltins x = some (.builtin id)) (K : c.Ok mg mb) (hx : x ∈ bltNames) (hk : c.env.kindOf x = some .globalImplicit) (hs : (e :: args).all notStar = true)
    (h : EvsT c σ μ (spliced (backTo pos (starEach (e :: args) c.env))) (kBlt c σ id Q)) :
    EvT c σ μ (eval (.Call (.Name x p) (e :: args) [] pos) c.env) Q := by
  simp only [List.all_cons, Bool.and_eq_true] at hs
  exact ev_call_blt (ev_blt K hk hx hv ⟨id, rfl, h⟩) name_call (star_of hs.1) (plain_all hs.2)
theorem ev_tcall {x : Str} {id : String} {p pos : Pos} {e : Expr} {args : List Expr} (hv : bootBuiltins x = some (.type id)) (K : c.Ok mg mb) (hx : x ∈ bltNames) (hk : c.env.kindOf x = some .globalImplicit) (hs : (e :: args).all notStar = true)
    (h : EvsT c σ μ (spliced (backTo pos (starEach (e :: args) c.env))) (kTyp c σ id Q)) :
    EvT c σ μ (eval (.Call (.Name x p) (e :: args) [] pos) c.env) Q := by
  simp only [List.all_cons, Bool.and_eq_true] at hs
  exact ev_call_typ (ev_blt K hk hx hv ⟨id, rfl, h⟩) name_call (star_of hs.1) (plain_all hs.2)
theorem ev_fcall {x : Str} {i k n : Nat} {p pos : Pos} {e : Expr} {args : List Expr} (hx : (defAt i).name = x) (hi : (recsOf PySem.Challenge.pw_in0050_01)[k]? = some (defAt i)) (K : c.Ok mg mb) (hn : n ≤ c.n) (hk : c.env.kindOf x = some .globalImplicit)
    (hs : notStar e = true)
    (h : EvsT c σ μ (spliced (backTo pos (starEach (e :: args) c.env))) (kCon c mg mb n (defAt i) Q)) :
    EvT c σ μ (eval (.Call (.Name x p) (e :: args) [] pos) c.env) Q :=
  ev_call_def K hn (ev_fn K hk hi hx (fun a ha => ⟨a, rfl, ha, h⟩)) name_call (star_of hs)

theorem recs_eq : recsOf PySem.Challenge.pw_in0050_01 = [7, 9, 10, 12, 14, 15, 16, 17, 18, 19, 20, 21, 22, 23, 24, 25, 26, 27, 28].map defAt := by kernel_rfl
theorem rec7 : (recsOf PySem.Challenge.pw_in0050_01)[0]? = some (defAt 7) := by rw [recs_eq]; rfl
theorem rec9 : (recsOf PySem.Challenge.pw_in0050_01)[1]? = some (defAt 9) := by rw [recs_eq]; rfl
theorem rec10 : (recsOf PySem.Challenge.pw_in0050_01)[2]? = some (defAt 10) := by rw [recs_eq]; rfl
theorem rec12 : (recsOf PySem.Challenge.pw_in0050_01)[3]? = some (defAt 12) := by rw [recs_eq]; rfl
theorem rec14 : (recsOf PySem.Challenge.pw_in0050_01)[4]? = some (defAt 14) := by rw [recs_eq]; rfl
theorem rec15 : (recsOf PySem.Challenge.pw_in0050_01)[5]? = some (defAt 15) := by rw [recs_eq]; rfl
theorem rec16 : (recsOf PySem.Challenge.pw_in0050_01)[6]? = some (defAt 16) := by rw [recs_eq]; rfl
theorem rec17 : (recsOf PySem.Challenge.pw_in0050_01)[7]? = some (defAt 17) := by rw [recs_eq]; rfl
theorem rec18 : (recsOf PySem.Challenge.pw_in0050_01)[8]? = some (defAt 18) := by rw [recs_eq]; rfl
theorem rec19 : (recsOf PySem.Challenge.pw_in0050_01)[9]? = some (defAt 19) := by rw [recs_eq]; rfl
theorem rec20 : (recsOf PySem.Challenge.pw_in0050_01)[10]? = some (defAt 20) := by rw [recs_eq]; rfl
theorem rec21 : (recsOf PySem.Challenge.pw_in0050_01)[11]? = some (defAt 21) := by rw [recs_eq]; rfl
theorem rec22 : (recsOf PySem.Challenge.pw_in0050_01)[12]? = some (defAt 22) := by rw [recs_eq]; rfl
theorem rec23 : (recsOf PySem.Challenge.pw_in0050_01)[13]? = some (defAt 23) := by rw [recs_eq]; rfl
theorem rec24 : (recsOf PySem.Challenge.pw_in0050_01)[14]? = some (defAt 24) := by rw [recs_eq]; rfl
theorem rec25 : (recsOf PySem.Challenge.pw_in0050_01)[15]? = some (defAt 25) := by rw [recs_eq]; rfl
theorem rec26 : (recsOf PySem.Challenge.pw_in0050_01)[16]? = some (defAt 26) := by rw [recs_eq]; rfl
theorem rec27 : (recsOf PySem.Challenge.pw_in0050_01)[17]? = some (defAt 27) := by rw [recs_eq]; rfl

theorem kinds_nil {c : Cx} : ∀ x ∈ ([] : List Str), c.st x := fun _ h => by cases h
theorem kinds_cons {c : Cx} {x : Str} {xs : List Str} (h : c.st x) (hs : ∀ y ∈ xs, c.st y) :
    ∀ y ∈ x :: xs, c.st y := fun y hy => by
  rcases List.mem_cons.mp hy with rfl | hy
  · exact h
  · exact hs y hy
theorem nm7 : (defAt 7).name = Str.ofString "escape" := by kernel_rfl
theorem nm9 : (defAt 9).name = Str.ofString "_translate" := by kernel_rfl
theorem nm10 : (defAt 10).name = Str.ofString "_join_translated_parts" := by kernel_rfl
theorem nm12 : (defAt 12).name = Str.ofString "sorted_list_difference" := by kernel_rfl
theorem nm14 : (defAt 14).name = Str.ofString "_law_item" := by kernel_rfl
theorem nm15 : (defAt 15).name = Str.ofString "_law_read" := by kernel_rfl
theorem nm16 : (defAt 16).name = Str.ofString "_law_fits" := by kernel_rfl
theorem nm17 : (defAt 17).name = Str.ofString "_law_takes" := by kernel_rfl
theorem nm18 : (defAt 18).name = Str.ofString "_law_sign" := by kernel_rfl
theorem nm19 : (defAt 19).name = Str.ofString "_law_drawn" := by kernel_rfl
theorem nm20 : (defAt 20).name = Str.ofString "_law_built" := by kernel_rfl
theorem nm21 : (defAt 21).name = Str.ofString "_law_stretch" := by kernel_rfl
theorem nm22 : (defAt 22).name = Str.ofString "_law_means" := by kernel_rfl
theorem nm23 : (defAt 23).name = Str.ofString "_law_told" := by kernel_rfl
theorem nm24 : (defAt 24).name = Str.ofString "_law_both" := by kernel_rfl
theorem nm25 : (defAt 25).name = Str.ofString "_law_then" := by kernel_rfl
theorem nm26 : (defAt 26).name = Str.ofString "_law_found" := by kernel_rfl
theorem nm27 : (defAt 27).name = Str.ofString "_law_right" := by kernel_rfl
theorem nm28 : (defAt 28).name = Str.ofString "law" := by kernel_rfl
theorem pure_bools {α : Type} (f : α → D) (hf : ∀ a, D.pure (f a) = true) : ∀ l : List α, Ds.pure (l.map f) = true
  | [] => rfl
  | a :: r => by simp only [List.map_cons, Ds.pure, hf, pure_bools f hf r, Bool.and_self]
theorem after_next {rest : Sem Flow} {Q : Fl → List (Str × D) → List MO → Prop} (h : TrT c σ μ rest Q) : afterSt c rest Q .next σ μ := h
theorem after_ret {rest : Sem Flow} {Q : Fl → List (Str × D) → List MO → Prop} {d : D} (h : Q (.ret d) σ μ) : afterSt c rest Q (.ret d) σ μ := h
theorem after_brk {rest : Sem Flow} {Q : Fl → List (Str × D) → List MO → Prop} (h : Q .brk σ μ) : afterSt c rest Q .brk σ μ := h

noncomputable def S (l : List Nat) : Str := ⟨l.toArray⟩
@[simp] theorem S_length (l : List Nat) : (S l).length = l.length := by simp [S, Str.length]
@[simp] theorem S_cps (l : List Nat) : (S l).cps = l.toArray := rfl
theorem S_of (x : Str) : x = S x.cps.toList := by cases x; rfl
theorem S_append (a b : List Nat) : S a ++ S b = S (a ++ b) := by
  show (⟨_⟩ : Str) = _
  simp [S]
theorem S_beq (a b : List Nat) : (S a == S b) = (a == b) := by
  by_cases h : a = b
  · subst h; simp
  · have : S a ≠ S b := fun e => h (by simpa [S] using e)
    rw [beq_eq_false_iff_ne.mpr h, beq_eq_false_iff_ne.mpr this]

/-- one sign in a text -/
theorem in_sign (l : Str) (ch : Nat) : (!(Builtin.Str.occurrences l ⟨#[ch]⟩ 0 l.length 1).isEmpty) = l.cps.toList.contains ch := by
  rw [StrLaws.found_one]
  by_cases h : ch ∈ l.cps.toList
  · rw [decide_eq_true (by simpa using h), List.contains_iff_mem.mpr h]
  · rw [decide_eq_false (by simpa using h)]
    exact (Bool.eq_false_iff.mpr fun e => h (List.contains_iff_mem.mp e)).symm
end
end -- QTac

section -- QMore
section
variable {c : Cx} {σ σ' : List (Str × D)} {μ : List MO} {P : Facts} {φ : List Addr} {s : Shared} {mg mb : Str → Option Value} {Q : D → List MO → Prop}

/-! ### slices -/
noncomputable abbrev kPart (Q : Option Int → List MO → Prop) : KV := fun d μ' => ∃ i, d = .int i ∧ Q (some i) μ'
noncomputable def PartT (c : Cx) (σ : List (Str × D)) (μ : List MO) (e : Option Expr) (Q : Option Int → List MO → Prop) : Prop := match e with
  | none => Q none μ
  | some e => EvT c σ μ (eval e c.env) (kPart Q)
theorem part_none {Q : Option Int → List MO → Prop} (h : Q none μ) : PartT c σ μ none Q := h
theorem part_some {e : Expr} {Q : Option Int → List MO → Prop} (h : EvT c σ μ (eval e c.env) (kPart Q)) : PartT c σ μ (some e) Q := h

inductive IsP (v : Value) : Option Int → Prop
  | none : v = .none → IsP v none
  | int (i : Int) (t : Tok) : v = .int i t → IsP v (some i)

theorem PartT.at {e : Option Expr} {Q : Option Int → List MO → Prop} {X : Value → Shared → Prop} {E : Value → Shared → Prop} (h : PartT c σ μ e Q) (I : Inv c σ μ P φ s)
    (k : ∀ v s' i μ' P' φ', Le P P' → φ <+: φ' → IsP v i → Inv c σ μ' P' φ' s' → Q i μ' → X v s') : wpAny (model c.prog c.w) c.A (evalPart e c.env) X E s := by
  cases e with
  | none => exact wpAny_pure (k _ _ none μ P φ Le.rfl (List.prefix_refl _) (.none rfl) I h)
  | some e =>
    refine (show EvT c σ μ (eval e c.env) _ from h).at I fun v s' d μ' P' φ' l f r I' ⟨i, hd, q⟩ => ?_
    subst hd
    (first | obtain rfl := r.inv | obtain ⟨_, rfl⟩ := r.inv)
    exact k _ _ _ μ' P' φ' l f (.int i _ rfl) I' q

/-- what o[lo:hi] makes -/
noncomputable def SlT (c : Cx) (σ : List (Str × D)) (μ : List MO) (o : D) (lo hi : Option Int) (Q : D → List MO → Prop) : Prop :=
  ∀ P φ s vo vl vu, Inv c σ μ P φ s → R P φ vo o → IsP vl lo → IsP vu hi → ∀ sl, s.heap.IsSliceOf sl vl vu .none →
    (∃ T id, s.TypeIs vo T ∧ typeLookup (.type T) "__getitem__" = pure (some (.builtin id))) ∧
    wpAny (model c.prog c.w) c.A (getItem vo (.ref sl)) (PV c σ P φ Q) noE s

noncomputable abbrev kSl3 (c : Cx) (σ : List (Str × D)) (o : D) (lo : Option Int) (Q : KV) : Option Int → List MO → Prop := fun hi μ₃ => SlT c σ μ₃ o lo hi Q
noncomputable abbrev kSl2 (c : Cx) (σ : List (Str × D)) (upper : Option Expr) (o : D) (Q : KV) : Option Int → List MO → Prop := fun lo μ₂ => PartT c σ μ₂ upper (kSl3 c σ o lo Q)
noncomputable abbrev kSl (c : Cx) (σ : List (Str × D)) (lower upper : Option Expr) (Q : KV) : KV := fun o μ₁ => PartT c σ μ₁ lower (kSl2 c σ upper o Q)
theorem ev_slice {value : Expr} {lower upper : Option Expr} {p pos : Pos}
    (h : EvT c σ μ (eval value c.env) (kSl c σ lower upper Q)) :
    EvT c σ μ (eval (.Subscript value (.Slice lower upper none p) pos) c.env) Q :=
  fun P φ s I => Subscript_ (h.at I fun v₁ s₁ d₁ μ₁ P₁ φ₁ l₁ f₁ r₁ I₁ q₁ => wpAny_Slice (q₁.at I₁ fun vl s₂ lo μ₂ P₂ φ₂ l₂ f₂ p₂ I₂ q₂ => q₂.at I₂ fun vu s₃ hi μ₃ P₃ φ₃ l₃ f₃ p₃ I₃ q₃ => by
    rw [evalPart_none]
    refine wpAny_pure ?_
    have hk : ∀ b o', s₃.heap.get? b = some o' → (s₃.heap.push { cls := .type "slice", data := .fields #[vl, vu, .none] }).get? b = some o' := fun _ _ e => Heap.get?_push_of_some _ e
    have I₄ := I₃.grow (t := s₃.toks) hk (fun _ _ h => h) (fun a o h => hk _ _ (I₃.fz _ _ h)) (fun _ _ h => .inl h)
    obtain ⟨⟨T, id, hT, hl⟩, hw⟩ := q₃ P₃ φ₃ _ v₁ vl vu I₄ ((r₁.mono l₂ f₂).mono l₃ f₃) p₂ p₃ s₃.heap.objs.size (Heap.IsSliceOf.new ..)
    refine tail_any hT hl ?_ (ops := [.ref s₃.heap.objs.size, v₁]) rfl
    exact wpAny_mono hw (fun v s' ⟨d, μ', P', φ', l, f, r, I', q⟩ => ⟨d, μ', P', φ', ((l₁.trans l₂).trans l₃).trans l, ((f₁.trans f₂).trans f₃).trans f, r, I', q⟩) fun _ _ x => x))

noncomputable abbrev loC (n : Nat) (lo : Option Int) : Nat := lo.elim 0 (clipAt n)
noncomputable abbrev hiC (n : Nat) (hi : Option Int) : Nat := hi.elim n (clipAt n)
theorem IsP.part {v : Value} {i : Option Int} (h : IsP v i) : IsPart v i := by
  cases h with
  | none e => subst e; exact .none
  | int i t e => subst e; exact .int i t
theorem Rs.cut {vs : Array Value} {ds : List D} (h : Rs P φ vs.toList ds) (lo hi : Option Int) :
    Rs P φ (slicePick vs lo hi none).toList ((ds.drop (loC ds.length lo)).take (hiC ds.length hi - loC ds.length lo)) := by
  have hlen : vs.size = ds.length := by have := h.length; simpa using this
  rw [slicePick_plain, hlen]
  exact (h.drop _).take _
theorem sl_lst {ds : List D} {lo hi : Option Int} (hb : ds.length ≤ 1000) (h : Q (.lst ((ds.drop (loC ds.length lo)).take (hiC ds.length hi - loC ds.length lo))) μ) : SlT c σ μ (.lst ds) lo hi Q :=
  fun P φ s vo vl vu I r p1 p2 sl hsl => by
    obtain ⟨a, o, vs, n, rfl, hP, hc, hdat, hrs⟩ := r.inv
    have hl : s.heap.IsList a vs := ⟨o, I.fz _ _ hP, hc, n, hdat⟩
    have hlen : vs.size = ds.length := by have := hrs.length; simpa using this
    refine ⟨⟨"list", _, hl.typeIs, slot_list_getitem.lookup⟩, ?_⟩
    refine wpAny_getItem_list_slice hl hsl p1.part p2.part .none (by simp) ?_ (by rw [hlen, sizeLine_eq]; omega)
    have J := I.push { cls := .type "list", data := .seq (slicePick vs lo hi none) } rfl s.toks
    exact ⟨_, μ, _, φ, fun _ _ h => .inl h, List.prefix_refl _, .lst (.inr ⟨rfl, rfl⟩) rfl rfl ((hrs.cut lo hi).mono (fun _ _ h => .inl h) (List.prefix_refl _)), J, h⟩

theorem picks (x : Str) (lo hi : Option Int) : (Builtin.Str.strSliceIndices lo hi 1 x.length).filterMap (x.cps[·]?) = (x.cps.toList.drop (loC x.length lo)).take (hiC x.length hi - loC x.length lo) := by
  have e : Builtin.Str.strSliceIndices lo hi 1 x.length = sliceRange (sliceBounds lo hi none x.length).1 (sliceBounds lo hi none x.length).2.1 (sliceBounds lo hi none x.length).2.2 := by
    cases lo <;> cases hi <;> rfl
  rw [e, sliceBounds_plain]
  show (sliceRange _ _ 1).filterMap _ = _
  rw [sliceRange_one]
  exact pick_run x.cps _ _

noncomputable def cutS (x : Str) (lo hi : Option Int) : Str := ⟨((x.cps.toList.drop (loC x.length lo)).take (hiC x.length hi - loC x.length lo)).toArray⟩

theorem hiC_le (n : Nat) (hi : Option Int) : hiC n hi ≤ n := by
  cases hi with
  | none => exact Nat.le_refl _
  | some i => show clipAt n i ≤ n; unfold clipAt; omega
theorem full_cut {h l n : Nat} (e : h - l = n) (h2 : h ≤ n) : l = 0 ∧ h = n ∨ n = 0 := by
  have h3 : h = n := Nat.le_antisymm h2 (e ▸ Nat.sub_le h l)
  subst h3
  cases l with
  | zero => exact .inl ⟨rfl, rfl⟩
  | succ l => cases h with
    | zero => exact .inr rfl
    | succ h => exact absurd e (Nat.ne_of_lt (Nat.sub_lt (Nat.succ_pos _) (Nat.succ_pos _)))
theorem sl_str {x : Str} {lo hi : Option Int} (hb : x.length ≤ 100000) (h : Q (.str (cutS x lo hi)) μ) : SlT c σ μ (.str x) lo hi Q :=
  fun P φ s vo vl vu I r p1 p2 sl hsl => by
    obtain ⟨t, rfl⟩ := r.inv
    refine ⟨⟨"str", _, typeIs_str _ _ _, F.slot_str_getitem.lookup⟩, ?_⟩
    obtain ⟨l, el, hl⟩ : ∃ l : Option (Int × Tok), vl = partValue l ∧ l.map (·.1) = lo := by
      cases p1 with
      | none e => exact ⟨none, e, rfl⟩
      | int i t e => exact ⟨some (i, t), e, rfl⟩
    obtain ⟨u, eu, hu⟩ : ∃ l : Option (Int × Tok), vu = partValue l ∧ l.map (·.1) = hi := by
      cases p2 with
      | none e => exact ⟨none, e, rfl⟩
      | int i t e => exact ⟨some (i, t), e, rfl⟩
    subst el eu
    refine wpAny_getItem_str_slice (l := l) (u := u) (st := none) hsl rfl ?_
    unfold sliceMade
    have hp : (slicePicked x l u none).filterMap (x.cps[·]?) = (x.cps.toList.drop (loC x.length lo)).take (hiC x.length hi - loC x.length lo) := by
      rw [← picks, ← hl, ← hu]; rfl
    by_cases hw : ((Option.map (fun x => x.1) (none : Option (Int × Tok))).getD 1 == 1 && (slicePicked x l u none).length == x.length) = true
    · rw [if_pos hw]
      simp only [Bool.and_eq_true, beq_iff_eq] at hw
      have e : cutS x lo hi = x := by
        have e1 : (slicePicked x l u none).length = hiC x.length hi - loC x.length lo := by
          have : slicePicked x l u none = sliceRange (sliceBounds lo hi none x.length).1 (sliceBounds lo hi none x.length).2.1 (sliceBounds lo hi none x.length).2.2 := by
            unfold slicePicked; rw [hl, hu]; cases lo <;> cases hi <;> rfl
          rw [this, sliceBounds_plain]
          show (sliceRange _ _ 1).length = _
          rw [sliceRange_one]; simp
        have h2 := hiC_le x.length hi
        have e3 : loC x.length lo = 0 ∧ hiC x.length hi = x.length ∨ x.length = 0 := full_cut (e1.symm.trans hw.2) h2
        rcases e3 with ⟨e3, e4⟩ | e3
        · unfold cutS; rw [e3, e4]; cases x with
          | mk a => simp [Str.length, List.take_of_length_le]
        · have : x.cps = #[] := by simpa [Str.length] using e3
          cases x; simp at this; subst this; simp [cutS]
      exact (fin_same I (R.str _ t) (e ▸ h))
    · rw [if_neg hw, hp]
      refine ⟨?_, fin_tok I (.str _ _) h _⟩
      show (List.toArray _).size ≤ sizeLine
      rw [List.size_toArray]
      exact Nat.le_trans (List.length_take_le _ _) (Nat.le_trans (Nat.sub_le _ _) (Nat.le_trans (hiC_le _ _) (Nat.le_trans hb (by rw [sizeLine_eq]; decide))))

/-! ### expression statements, append -/
noncomputable abbrev kExpr (σ : List (Str × D)) (Q : KS) : KV := fun d μ' => d = .none ∧ Q .next σ μ'
theorem tr_expr {e : Expr} {pos : Pos} {Q : Fl → List (Str × D) → List MO → Prop} (K : c.OkW mg mb) (h : EvT c σ μ (eval e c.env) (kExpr σ Q))
    (hs : swapsWith e none pos.line c.env = pure false := by rfl) : TrT c σ μ (exec (.Expr e pos) c.env) Q :=
  fun P φ s I => wpAny_Expr (h.at I fun v s' d μ' P' φ' l f r I' ⟨hd, q⟩ => by
    subst hd; (first | obtain rfl := r.inv | obtain ⟨_, rfl⟩ := r.inv)
    exact ⟨.next, σ, μ', P', φ', l, .next, I', q⟩) (by unfold interactive; rw [K.kind]; rfl) hs

theorem append_ok {k : Nat} {ds : List D} {a : Addr} {v : Value} {d : D} (I : Inv c σ μ P φ s) (hφ : φ[k]? = some a) (hk : μ[k]? = some (.lst ds)) (hr : R P φ v d) (hb : ds.length ≤ 1000) (h : Q .none (μ.set k (.lst (ds ++ [d])))) :
    wpAny (model c.prog c.w) c.A (call (.builtin "list.append") [.ref a, v]) (PV c σ P φ Q) noE s := by
  obtain ⟨o, ho, hm⟩ := I.mu _ _ _ hφ hk
  obtain ⟨vs, n, hc, hdn, hdat, hrs⟩ := hm.inv
  have hlen : vs.size = ds.length := by have := hrs.length; simpa using this
  refine list_append_plainL ⟨o, n, ho, hc, hdn, hdat⟩ (fun h' hp hs => ?_) (by rw [hlen, sizeLine_eq]; omega)
  obtain ⟨o', n', ho', hc', hd', hdat'⟩ := hp
  have J := I.setMu (t := s.toks) hφ hs ho' (m := .lst (ds ++ [d])) (.lst hc' hd' hdat' (by simpa using hrs.snoc hr))
  exact ⟨.none, _, P, φ, Le.rfl, List.prefix_refl _, .none, J, h⟩

theorem getMethod_append {pl : Sem Bool} {a : Addr} {o : Obj} {X : Value × List Value → Shared → Prop} {E : Value → Shared → Prop} (ho : s.heap.get? a = some o) (hc : o.cls = .type "list") (hd : o.dict = none) (h : X (.builtin "list.append", [.ref a]) s) :
    wpAny (model c.prog c.w) c.A (getMethod (.ref a) "append" pl) X E s := Calls.getMethod_list_append ho hc hd h

noncomputable abbrev kApp2 (k : Nat) (Q : KV) : KV := fun a μ₂ => ∃ ds, μ₂[k]? = some (.lst ds) ∧ ds.length ≤ 1000 ∧ Q .none (μ₂.set k (.lst (ds ++ [a])))
noncomputable abbrev kApp (c : Cx) (σ : List (Str × D)) (e : Expr) (Q : KV) : KV := fun d μ₁ => ∃ k, d = .ref k ∧ (∃ ds, μ₁[k]? = some (.lst ds)) ∧ EvT c σ μ₁ (eval e c.env) (kApp2 k Q)
/-- o.append(e) -/
theorem ev_append {o e : Expr} {apos pos : Pos}
    (h : EvT c σ μ (eval o c.env) (kApp c σ e Q))
    (hbase : attributeBase o "append" c.env (eval o c.env) = eval o c.env) (hst : notStar e = true) (hline : (apos.endLine == pos.line) = true) :
    EvT c σ μ (eval (.Call (.Attribute o "append" apos) [e] [] pos) c.env) Q :=
  fun P φ s I => wpAny_Call_method hbase (by
      rw [show starEach [e] c.env = [(false, eval e c.env)] from star_of hst]; rfl) hline F.plainAttrs_list F.slot_list_append F.type_list_append
    (h.at I fun v s₁ d μ₁ P₁ φ₁ l₁ f₁ r₁ I₁ ⟨k, hd, ⟨ds, hk⟩, q₁⟩ => by
      subst hd
      obtain ⟨ad, rfl, hφ⟩ := r₁.inv
      obtain ⟨ob, ho, hm⟩ := I₁.mu _ _ _ hφ hk
      obtain ⟨vs, n, hc, hdn, hdat, hrs⟩ := hm.inv
      refine ⟨⟨ob, ho, hc⟩, fun a ha => by cases ha; exact ⟨ob, ho, hdn⟩, ?_⟩
      refine callWith_method1 (evs_c (Q := fun ds μ => ∃ a, ds = [a] ∧ ∃ ds, μ[k]? = some (.lst ds) ∧ ds.length ≤ 1000 ∧ Q .none (μ.set k (.lst (ds ++ [a])))) hst (q₁.mono fun a μ₂ h => evs_nil ⟨a, rfl, h⟩) |>.at I₁ fun vs s₂ as μ₂ P₂ φ₂ l₂ f₂ r₂ I₂ ⟨a, ha, ds, hk₂, hb, q₂⟩ => ?_) (star_of hst) plain_nil
      subst ha
      obtain ⟨_, _, rfl, r2, r3⟩ := r₂.inv
      (first | obtain rfl := r3.inv | obtain ⟨_, rfl⟩ := r3.inv)
      have hφ' : φ₂[k]? = some ad := by obtain ⟨t, rfl⟩ := f₂; rw [List.getElem?_append_left (List.getElem?_eq_some_iff.mp hφ).1]; exact hφ
      exact wpAny_mono (append_ok I₂ hφ' hk₂ r2 hb q₂) (fun v s' ⟨d, μ', P', φ', l, f, r, I', q⟩ => ⟨d, μ', P', φ', (l₁.trans l₂).trans l, (f₁.trans f₂).trans f, r, I', q⟩) fun _ _ x => x)

theorem tr_exprE {e : Expr} {pos : Pos} {Q : Fl → List (Str × D) → List MO → Prop} (hs : swapsWith e none pos.line c.env = pure false) (K : c.OkW mg mb) (h : EvT c σ μ (eval e c.env) (kExpr σ Q)) : TrT c σ μ (exec (.Expr e pos) c.env) Q := tr_expr K h hs
theorem tr_exprA {o e : Expr} {apos cpos pos : Pos} {Q : Fl → List (Str × D) → List MO → Prop} (hs : swapsWith (.Call (.Attribute o "append" apos) [e] [] cpos) none pos.line c.env = pure false) (K : c.OkW mg mb)
    (h : EvT c σ μ (eval o c.env) (kApp c σ e (kExpr σ Q))) (hbase : attributeBase o "append" c.env (eval o c.env) = eval o c.env) (hst : notStar e = true) (hline : (apos.endLine == cpos.line) = true) :
    TrT c σ μ (exec (.Expr (.Call (.Attribute o "append" apos) [e] [] cpos) pos) c.env) Q := tr_expr K (ev_append h hbase hst hline) hs
/-! ### tuples into names -/
noncomputable def swS (sc : Scope) (targets : List Expr) (value : Expr) : Sem (Option (List Str)) := swappedStores targets value { scope := sc, locals := 0, globals := 0, cells := [] }
theorem swS_eq (env : Env) (targets : List Expr) (value : Expr) : swappedStores targets value env = swS env.scope targets value := rfl

noncomputable abbrev kTupN (σ : List (Str × D)) (xs : List Str) (Q : KS) : KV := fun d μ' => ∃ ds σ', d = .tup ds ∧ Upds σ xs ds σ' ∧ Q .next σ' μ'
noncomputable abbrev kTupS (σ : List (Str × D)) (xs : List Str) (Q : KS) : KV := fun d μ' => ∃ ds σ', d = .tup ds ∧ ds.length = xs.length ∧ Upds σ xs.reverse ds.reverse σ' ∧ Q .next σ' μ'
noncomputable abbrev kPair (σ : List (Str × D)) (x y : Str) (Q : KS) : KV := fun d μ' => ∃ a b σ₁ σ₂, d = .tup [a, b] ∧ Upd σ y b σ₁ ∧ Upd σ₁ x a σ₂ ∧ Q .next σ₂ μ'
theorem tr_tupleN {elts : List Expr} {k : Nat} {tpos pos : Pos} {value : Expr} {xs : List Str} {Q : Fl → List (Str × D) → List MO → Prop} (K : c.Ok mg mb) {sc : Scope} (hsc : c.env.scope = sc)
    (he : elts.map nmOf = xs.map some) (hk : ∀ x ∈ xs, c.st x)
    (h : EvT c σ μ (eval value c.env) (kTupN σ xs Q))
    (hw : swS sc [.Tuple elts k tpos] value = pure none) (hs : swapsWithSole [.Tuple elts k tpos] value pos.line c.env = pure false := by rfl) : TrT c σ μ (exec (.Assign [.Tuple elts k tpos] value pos) c.env) Q :=
  fun P φ s I => PyProof.Rows.Assign_Tuple (h.at I fun v s' d μ' P' φ' l f r I' ⟨ds, σ', hd, hu, q⟩ => by
    subst hd
    exact wpAny_mono (asg_tuple (Q := fun σ₁ => σ₁ = σ') K he hk hu rfl μ' P' φ' s' v I' r) (fun _ s₂ ⟨σ₂, P₂, l₂, I₂, e₂⟩ => by subst e₂; exact ⟨.next, _, μ', P₂, φ', l.trans l₂, .next, I₂, q⟩) fun _ _ x => x.elim) hs (by rw [swS_eq, hsc]; exact hw)

theorem names_ok (K : c.Ok mg mb) : ∀ {xs : List Str} {σ σ' : List (Str × D)} {ds : List D} {μ : List MO} {P : Facts} {φ : List Addr} {s : Shared} {vs : List Value} {Q : Unit → Shared → Prop} {E : Value → Shared → Prop}, Upds σ xs ds σ' →
    (∀ x ∈ xs, c.st x) → Inv c σ μ P φ s → Rs P φ vs ds →
    (∀ s', Inv c σ' μ P φ s' → Q () s') → wpAny (model c.prog c.w) c.A (assignInOrder (xs.map fun n => bindName c.env n) vs) Q E s := by
  intro xs
  induction xs with
  | nil =>
    intro σ σ' ds μ P φ s vs Q E u hk I r h
    cases u; (first | obtain rfl := r.inv | obtain ⟨_, rfl⟩ := r.inv); exact wpAny_pure (h s I)
  | cons x xs ih =>
    intro σ σ' ds μ P φ s vs Q E u hk I r h
    cases u with
    | cons u1 u2 =>
      obtain ⟨_, _, rfl, r1, r2⟩ := r.inv
      show wpAny _ _ (do holding _ (bindName c.env x _); assignInOrder _ _) _ _ _
      refine wpAny_bind (wpAny_holding (wpAny_bindName (store_ok K.toOkW I (hk _ (List.mem_cons_self ..)) u1 r1 fun s' I' => ?_)))
      exact ih u2 (fun y hy => hk y (List.mem_cons_of_mem _ hy)) I' r2 h
theorem Rs.reverse {vs : List Value} {ds : List D} (h : Rs P φ vs ds) : Rs P φ vs.reverse ds.reverse := by
  induction vs generalizing ds with
  | nil => cases h; exact .nil
  | cons v vs ih =>
    cases h with
    | cons h1 h2 =>
      rw [List.reverse_cons, List.reverse_cons]
      exact (ih h2).snoc h1

theorem tr_tupleS {elts : List Expr} {k : Nat} {tpos pos : Pos} {value : Expr} {xs : List Str} {Q : Fl → List (Str × D) → List MO → Prop} (K : c.Ok mg mb) {sc : Scope} (hsc : c.env.scope = sc)
    (hk : ∀ x ∈ xs.reverse, c.st x)
    (h : EvT c σ μ (eval value c.env) (kTupS σ xs Q))
    (hw : swS sc [.Tuple elts k tpos] value = pure (some xs)) (hs : swapsWithSole [.Tuple elts k tpos] value pos.line c.env = pure false := by rfl) : TrT c σ μ (exec (.Assign [.Tuple elts k tpos] value pos) c.env) Q :=
  fun P φ s I => PyProof.Rows.Assign_Tuple_swapped (names := xs) (h.at I fun v s₁ d μ₁ P₁ φ₁ l₁ f₁ r₁ I₁ ⟨ds, σ', hd, hl, hu, q⟩ => by
    subst hd
    obtain ⟨a, o, vs, n, rfl, hP, hc, hdat, hrs⟩ := r₁.inv
    have hlen : vs.size = ds.length := by have := hrs.length; simpa using this
    rw [← hl, ← hlen]
    refine wpAny_unpackItems_tuple K.handled ⟨o, I₁.fz _ _ hP, hc, n, hdat⟩ fun h' hx => ?_
    have hk' : ∀ b o, s₁.heap.get? b = some o → h'.get? b = some o := fun b o e => hx b o (Nat.ne_of_lt (Heap.lt_size e)) e
    have I₂ := I₁.grow (t := s₁.toks) hk' (fun _ _ h => h) (fun a o h => hk' _ _ (I₁.fz _ _ h)) (fun _ _ h => .inl h)
    exact names_ok K hu hk I₂ hrs.reverse fun s' I' => ⟨.next, σ', μ₁, P₁, φ₁, l₁, .next, I', q⟩) hs (by rw [swS_eq, hsc]; exact hw)

/-- x, y = (a, b): the stores go from the last -/
theorem tr_pair {elts : List Expr} {k : Nat} {tpos pos : Pos} {value : Expr} {x y : Str} {Q : Fl → List (Str × D) → List MO → Prop} (K : c.Ok mg mb) {sc : Scope} (hsc : c.env.scope = sc)
    (hk : ∀ z ∈ [y, x], c.st z)
    (h : EvT c σ μ (eval value c.env) (kPair σ x y Q))
    (hw : swS sc [.Tuple elts k tpos] value = pure (some [x, y])) (hs : swapsWithSole [.Tuple elts k tpos] value pos.line c.env = pure false := by rfl) : TrT c σ μ (exec (.Assign [.Tuple elts k tpos] value pos) c.env) Q :=
  tr_tupleS (xs := [x, y]) K hsc hk (h.mono fun d μ' ⟨a, b, σ₁, σ₂, hd, u1, u2, q⟩ => ⟨_, σ₂, hd, rfl, .cons u1 (.cons u2 .nil), q⟩) hw hs
/-! ### lists -/
theorem op_addl {ds es : List D} (hl : ds.length + es.length ≤ 1000) (h : Q (.lst (ds ++ es)) μ) : OpT c σ μ [.lst ds, .lst es] (op2 (binaryOp .Add)) Q :=
  op2_of fun P φ s v w I r1 r2 => by
    obtain ⟨a, o, vs, n, rfl, hP, hc, hdat, hrs⟩ := r1.inv
    obtain ⟨a2, o2, ws, n2, rfl, hP2, hc2, hdat2, hrs2⟩ := r2.inv
    have hlen : vs.size = ds.length := by have := hrs.length; simpa using this
    have hlen2 : ws.size = es.length := by have := hrs2.length; simpa using this
    have ho := I.fz _ _ hP
    have ho2 := I.fz _ _ hP2
    obtain ⟨cls, dd, data, sl⟩ := o
    obtain ⟨cls2, dd2, data2, sl2⟩ := o2
    simp only at hc hdat hc2 hdat2
    subst hc hdat hc2 hdat2
    refine concat_meets ⟨_, ho, rfl⟩ ⟨_, ho2, rfl⟩ noFill_list_add seq_list_add PySem.F.slot_list_add PySem.F.entry_list_add (PySem.F.args_list_add_2 _ _) (list_addW a a2 vs ws n n2 dd dd2 sl sl2 (by rw [hlen, hlen2, sizeLine_eq]; omega)) ⟨ho, ho2, ?_⟩
    have J := I.push { cls := .type "list", data := .seq (vs ++ ws) } rfl s.toks
    exact ⟨_, μ, _, φ, fun _ _ h => .inl h, List.prefix_refl _, .lst (.inr ⟨rfl, rfl⟩) rfl rfl (by simpa using (hrs.append hrs2).mono (fun _ _ h => .inl h) (List.prefix_refl _)), J, h⟩

theorem ints_of {vs : List Value} {ns : List Int} (h : Rs P φ vs (ns.map .int)) : IntsAre vs ns := by
  induction ns generalizing vs with
  | nil => cases h; exact .nil
  | cons n ns ih => cases h with
    | cons h1 h2 => cases h1; exact .cons n _ (ih h2)
theorem of_ints {vs : List Value} {ns : List Int} (h : IntsAre vs ns) : Rs P φ vs (ns.map .int) := by
  induction h with
  | nil => exact .nil
  | cons n t _ ih => exact .cons (.int n t) ih
theorem op_sorted {ns : List Int} (hl : ns.length < 64) (h : ∀ ns' : List Int, ns'.Perm ns → ns'.Pairwise (· ≤ ·) → Q (.lst (ns'.map .int)) μ) : OpT c σ μ [.lst (ns.map .int)] (fun vs => call (.builtin "sorted") vs) Q :=
  fun P φ s vs I rs => by
    (have hx := rs.inv; clear rs; obtain ⟨_, _, rfl, r, rs⟩ := hx)
    (first | obtain rfl := rs.inv | obtain ⟨_, rfl⟩ := rs.inv)
    obtain ⟨a, o, vs, n, rfl, hP, hc, hdat, hrs⟩ := r.inv
    have hi := ints_of hrs
    have hvl : vs.toList.length = ns.length := by have := hrs.length; simpa using this
    refine sorted_ints (vs := vs.toList) ⟨o, I.fz _ _ hP, hc, n, by simpa using hdat⟩ hi (by omega) fun out ns' h1 h2 h3 => ?_
    obtain ⟨e, he⟩ := sortedAll_at s.heap vs.toList out
    have hk : ∀ b o, s.heap.get? b = some o → (sortedAll s.heap vs.toList out).get? b = some o := fun _ _ => sortedAll_old
    have J := I.grow (t := s.toks) (P' := fun b o => P b o ∨ (b = s.heap.objs.size + 1 ∧ o = seqObj "list" out e)) hk (fun _ _ h => .inl h)
      (fun a o h => by rcases h with h | ⟨rfl, rfl⟩; exact hk _ _ (I.fz _ _ h); exact he)
      (fun a o h => by
        rcases h with h | ⟨rfl, rfl⟩
        · exact .inl h
        · right
          cases q : s.heap.get? (s.heap.objs.size + 1) with
          | none => rfl
          | some o' => exact absurd (Heap.lt_size q) (Nat.not_lt.mpr (Nat.le_succ _)))
    exact ⟨_, μ, _, φ, fun _ _ h => .inl h, List.prefix_refl _, .lst (.inr ⟨rfl, rfl⟩) rfl rfl (of_ints h1), J, h ns' h2 h3⟩

theorem op_iadds {x y : Str} (hl : x.length + y.length ≤ sizeLine) (h : Q (.str (x ++ y)) μ) : OpT c σ μ [.str x, .str y] (op2 (inplaceOp .Add)) Q :=
  op2_of fun P φ s v w I r1 r2 => by (first | obtain rfl := r1.inv | obtain ⟨_, rfl⟩ := r1.inv); (first | obtain rfl := r2.inv | obtain ⟨_, rfl⟩ := r2.inv); exact SBL.iadd (fun t' tk _ => fin_tok I (.str _ t') h tk) hl
theorem op_chr {i : Int} (h0 : 0 ≤ i) (h1 : i ≤ 1114111) (h : Q (.str ⟨#[i.toNat]⟩) μ) : OpT c σ μ [.int i] (fun vs => call (.builtin "chr") vs) Q :=
  fun P φ s vs I rs => by
    (have hx := rs.inv; clear rs; obtain ⟨_, _, rfl, r, rs⟩ := hx)
    · (first | obtain rfl := rs.inv | obtain ⟨_, rfl⟩ := rs.inv); (first | obtain rfl := r.inv | obtain ⟨_, rfl⟩ := r.inv); exact chr_of_range h0 h1 (fin_tok I (.str _ _) h _)
theorem fmod_nat (a b : Nat) : (a : Int).fmod b = ((a % b : Nat) : Int) := by
  rw [Int.fmod_eq_emod_of_nonneg _ (by omega)]; rfl
theorem fdiv_nat (a b : Nat) : (a : Int).fdiv b = ((a / b : Nat) : Int) := by
  rw [Int.fdiv_eq_ediv_of_nonneg _ (by omega)]; rfl
/-! ### unary, and, or -/
theorem op_neg {i : Int} (h : Q (.int (-i)) μ) : OpT c σ μ [.int i] (op1 (unaryOp .USub)) Q :=
  op1_of fun P φ s v I r => by (first | obtain rfl := r.inv | obtain ⟨_, rfl⟩ := r.inv); exact PyProof.Rows.neg_int (fin_tok I (.int _ _) h _)
noncomputable abbrev kNotV (Q : KV) : KB := fun b μ' => Q (.bool (!b)) μ'
theorem op_not {d : D} (h : OpB c σ μ d truthy (kNotV Q)) : OpT c σ μ [d] (op1 (unaryOp .Not)) Q :=
  op1_of fun P φ s v I r => not_value (wpAny_mono (h P φ s v I r) (fun b s' ⟨μ', P', φ', l, f, I', q⟩ => ⟨_, μ', P', φ', l, f, .bool _, I', q⟩) fun _ _ x => x)
theorem ev_boolop {op : BoolOp} {es : List Expr} {pos : Pos} (h : EvT c σ μ (boolOp pos op (evalEach es c.env)) Q) : EvT c σ μ (eval (.BoolOp op es pos) c.env) Q := h
theorem bo_one {op : BoolOp} {e : Expr} {pos : Pos} (h : EvT c σ μ (eval e c.env) Q) : EvT c σ μ (boolOp pos op (evalEach [e] c.env)) Q := h
noncomputable abbrev kBoA2 (c : Cx) (σ : List (Str × D)) (pos : Pos) (es : List Expr) (d : D) (Q : KV) : KB := fun b μ₂ => if b = true then EvT c σ μ₂ (boolOp pos .And (evalEach es c.env)) Q else Q d μ₂
noncomputable abbrev kBoA (c : Cx) (σ : List (Str × D)) (pos : Pos) (es : List Expr) (Q : KV) : KV := fun d μ₁ => OpB c σ μ₁ d truthy (kBoA2 c σ pos es d Q)
noncomputable abbrev kBoO2 (c : Cx) (σ : List (Str × D)) (pos : Pos) (es : List Expr) (d : D) (Q : KV) : KB := fun b μ₂ => if b = true then Q d μ₂ else EvT c σ μ₂ (boolOp pos .Or (evalEach es c.env)) Q
noncomputable abbrev kBoO (c : Cx) (σ : List (Str × D)) (pos : Pos) (es : List Expr) (Q : KV) : KV := fun d μ₁ => OpB c σ μ₁ d truthy (kBoO2 c σ pos es d Q)
theorem bo_and {e e' : Expr} {es : List Expr} {pos : Pos} (h : EvT c σ μ (eval e c.env) (kBoA c σ pos (e' :: es) Q)) :
    EvT c σ μ (boolOp pos .And (evalEach (e :: e' :: es) c.env)) Q := fun P φ s I => by
  show wpAny _ _ (do let v ← eval e c.env; standAt pos; let t ← holding [v] (truthy v); match BoolOp.And, t with | .And, false | .Or, true => pure v | _, _ => boolOp pos .And (evalEach (e' :: es) c.env)) _ _ s
  refine wpAny_bind (h.at I fun v s₁ d μ₁ P₁ φ₁ l₁ f₁ r₁ I₁ q₁ => wpAny_bind (wpAny_standAt (wpAny_bind (wpAny_holding (wpAny_mono (q₁ P₁ φ₁ s₁ v I₁ r₁) (fun b s₂ ⟨μ₂, P₂, φ₂, l₂, f₂, I₂, q₂⟩ => ?_) fun _ _ x => x)))))
  cases b with
  | true =>
    replace q₂ := ite_T q₂
    exact q₂.at I₂ fun v s' d μ' P' φ' l f r I' q => ⟨d, μ', P', φ', (l₁.trans l₂).trans l, (f₁.trans f₂).trans f, r, I', q⟩
  | false =>
    replace q₂ := ite_F q₂
    exact wpAny_pure ⟨d, μ₂, P₂, φ₂, l₁.trans l₂, f₁.trans f₂, r₁.mono l₂ f₂, I₂, q₂⟩
theorem bo_or {e e' : Expr} {es : List Expr} {pos : Pos} (h : EvT c σ μ (eval e c.env) (kBoO c σ pos (e' :: es) Q)) :
    EvT c σ μ (boolOp pos .Or (evalEach (e :: e' :: es) c.env)) Q := fun P φ s I => by
  show wpAny _ _ (do let v ← eval e c.env; standAt pos; let t ← holding [v] (truthy v); match BoolOp.Or, t with | .And, false | .Or, true => pure v | _, _ => boolOp pos .Or (evalEach (e' :: es) c.env)) _ _ s
  refine wpAny_bind (h.at I fun v s₁ d μ₁ P₁ φ₁ l₁ f₁ r₁ I₁ q₁ => wpAny_bind (wpAny_standAt (wpAny_bind (wpAny_holding (wpAny_mono (q₁ P₁ φ₁ s₁ v I₁ r₁) (fun b s₂ ⟨μ₂, P₂, φ₂, l₂, f₂, I₂, q₂⟩ => ?_) fun _ _ x => x)))))
  cases b with
  | true =>
    replace q₂ := ite_T q₂
    exact wpAny_pure ⟨d, μ₂, P₂, φ₂, l₁.trans l₂, f₁.trans f₂, r₁.mono l₂ f₂, I₂, q₂⟩
  | false =>
    replace q₂ := ite_F q₂
    exact q₂.at I₂ fun v s' d μ' P' φ' l f r I' q => ⟨d, μ', P', φ', (l₁.trans l₂).trans l, (f₁.trans f₂).trans f, r, I', q⟩
end
end -- QMore

section -- QR2
section
variable {c : Cx} {σ σ' : List (Str × D)} {μ : List MO} {P : Facts} {φ : List Addr} {s : Shared} {mg mb : Str → Option Value} {Q : D → List MO → Prop}
theorem op_neb {i j : Bool} (h : Q (.bool (i != j)) μ) : OpT c σ μ [.bool i, .bool j] (op2 (compareOp .NotEq)) Q :=
  op2_of fun P φ s v w I r1 r2 => by cases r1; cases r2; exact PyProof.Rows.ne_bool (fin_same I (.bool _) h)
theorem TsT.mono {t : Sem Bool} {Q Q' : Bool → List MO → Prop} (h : TsT c σ μ t Q) (k : ∀ b μ', Q b μ' → Q' b μ') : TsT c σ μ t Q' :=
  fun P φ s I => wpAny_mono (h P φ s I) (fun b s' ⟨μ', P', φ', l, f, I', q⟩ => ⟨μ', P', φ', l, f, I', k _ _ q⟩) fun _ _ x => x
theorem sub_tup3_0 {value : Expr} {p : Pos} {k : Nat} {x y z : D} (h : Q x μ) : OpT c σ μ [.tup [x, y, z], .int 0] (subT c value (.Constant (.int 0) k p)) Q :=
  sub_tup (d := x) ⟨by decide, by simp⟩ (show 3 < 2 ^ 62 by decide) rfl h
theorem sub_tup3_1 {value : Expr} {p : Pos} {k : Nat} {x y z : D} (h : Q y μ) : OpT c σ μ [.tup [x, y, z], .int 1] (subT c value (.Constant (.int 1) k p)) Q :=
  sub_tup (d := y) ⟨by decide, by simp⟩ (show 3 < 2 ^ 62 by decide) rfl h
theorem sub_tup3_2 {value : Expr} {p : Pos} {k : Nat} {x y z : D} (h : Q z μ) : OpT c σ μ [.tup [x, y, z], .int 2] (subT c value (.Constant (.int 2) k p)) Q :=
  sub_tup (d := z) ⟨by decide, by simp⟩ (show 3 < 2 ^ 62 by decide) rfl h

end
end -- QR2

section -- QComp
section
variable {c : Cx} {σ σ' : List (Str × D)} {μ : List MO} {P : Facts} {φ : List Addr} {s : Shared} {mg mb : Str → Option Value} {Q : D → List MO → Prop}

/-! ### what a for or a comprehension goes through -/
structure Src (c : Cx) (target : Expr) (P : Facts) (h : Heap) (I : Addr) (ds : List D) : Prop where
  ex : ∃ (fp : List Addr) (Pv : Nat → Value → Prop) (St : Nat → Heap → Prop), PySem.Walks c.prog c.w c.A I fp [I] ds.length Pv St ∧
    (∀ i h, St i h → ∃ o, h.get? I = some o ∧ Inert o) ∧
    (∀ i (s : Shared) v (Q : Unit → Shared → Prop) (E : Value → Shared → Prop), St i s.heap → Q () s → wpAny (model c.prog c.w) c.A (letOwnedTupleGo target (.ref I) v) Q E s) ∧
    (∀ b ∈ fp, b = I ∨ ∃ o, P b o) ∧ (∀ i v d, Pv i v → ds[i]? = some d → R P [] v d) ∧ St 0 h

inductive PI (c : Cx) (σ : List (Str × D)) (P : Facts) (φ : List Addr) (target : Expr) (Q : List D → List MO → Prop) (it : Value) (s₂ : Shared) : Prop
  | mk (I : Addr) (ds : List D) (μ' : List MO) (P' : Facts) (φ' : List Addr) (hi : it = .ref I) (l : Le P P') (f : φ <+: φ') (J : Inv c σ μ' P' φ' s₂) (S : Src c target P' s₂.heap I ds) (h1 : I ∉ own c φ') (h2 : ∀ o, ¬ P' I o) (h3 : c.h₀.get? I = none) (q : Q ds μ') : PI c σ P φ target Q it s₂
noncomputable def ItT (c : Cx) (σ : List (Str × D)) (μ : List MO) (target : Expr) (t : Sem Value) (Q : List D → List MO → Prop) : Prop :=
  ∀ P φ s, Inv c σ μ P φ s → wpAny (model c.prog c.w) c.A t (fun v s₁ => wpAny (model c.prog c.w) c.A (pyIter v) (fun it s₂ => PI c σ P φ target Q it s₂) (fun _ _ => False) s₁) (fun _ _ => False) s

theorem ds_pure_get : ∀ (l : List D) (i : Nat) (d : D), Ds.pure l = true → l[i]? = some d → D.pure d = true := by
  intro l
  induction l with
  | nil => intro i d _ e; simp at e
  | cons x r ih =>
    intro i d hp e
    simp only [Ds.pure, Bool.and_eq_true] at hp
    cases i with
    | zero => simp at e; subst e; exact hp.1
    | succ i => simp at e; exact ih i d hp.2 e

noncomputable abbrev kIL (Q : List D → List MO → Prop) : KV := fun d μ' => ∃ ds, d = .lst ds ∧ Ds.pure ds = true ∧ Q ds μ'
theorem it_lst {target iter : Expr} {Q : List D → List MO → Prop} (K : c.Ok mg mb) (h : EvT c σ μ (eval iter c.env) (kIL Q))
    (ht : (∃ x p, target = .Name x p) ∨ ∃ es k p, target = .Tuple es k p := by first | exact .inl ⟨_, _, rfl⟩ | exact .inr ⟨_, _, _, rfl⟩) : ItT c σ μ target (eval iter c.env) Q :=
  fun P φ s I => h.at I fun v s₁ d μ₁ P₁ φ₁ l₁ f₁ r₁ I₁ ⟨ds, hd, hp, q⟩ => by
    subst hd
    obtain ⟨ax, o, vs, n, rfl, hP, hc, hdat, hrs⟩ := r₁.inv
    have hl : s₁.heap.IsList ax vs := ⟨o, I₁.fz _ _ hP, hc, n, hdat⟩
    obtain ⟨n1, n2, n3⟩ := fresh_none I₁
    have hax : ax ≠ s₁.heap.objs.size := Nat.ne_of_lt (Heap.lt_size (I₁.fz _ _ hP))
    refine wpAny_pyIter_list hl ?_
    have hk : ∀ b o', s₁.heap.get? b = some o' → (s₁.heap.push { cls := .type "list_iterator", data := .fields #[.ref ax, .int 0 0] }).get? b = some o' := fun _ _ e => Heap.get?_push_of_some _ e
    have I₂ := I₁.grow (t := s₁.toks) hk (fun _ _ h => h) (fun a o h => hk _ _ (I₁.fz _ _ h)) (fun _ _ h => .inl h)
    have hlen : vs.size = ds.length := by have := hrs.length; simpa using this
    have W := PySem.Walks.list (prog := c.prog) (w := c.w) K.handled s₁.heap.objs.size ax hax vs
    rw [hlen] at W
    refine ⟨s₁.heap.objs.size, ds, μ₁, P₁, φ₁, rfl, l₁, f₁, I₂, ⟨⟨_, _, _, W, fun i h st => inert_listiter st.1, fun i s v Q E st hq => go_ok ht st.1 hq, fun b hb => ?_, fun i v d hv hd => ?_,
      ⟨⟨_, Heap.get?_push_size _ rfl, rfl, rfl⟩, hl.push _⟩⟩⟩, n1, n2, n3, q⟩
    · simp at hb
      rcases hb with rfl | rfl
      · exact .inl rfl
      · exact .inr ⟨o, hP⟩
    · obtain ⟨v', hv', r⟩ := hrs.get hd
      have : v = v' := by
        have e : vs.toList[i]? = some v := by simpa using hv
        rw [hv'] at e; cases e; rfl
      subst this
      exact r.pure (ds_pure_get _ _ _ hp hd)

theorem inert_rangeiter {h : Heap} {I : Addr} {x left step : Int} (q : IsRangeIter h I x left step) : ∃ o, h.get? I = some o ∧ Inert o :=
  ⟨_, q, ⟨fun _ _ e => (by cases e), fun _ e => (by cases e)⟩⟩

theorem it_range_of {x : Str} {px : Pos} {Q : List D → List MO → Prop} (K : c.Ok mg mb) {s₁ : Shared} {μ₁ : List MO} {P₁ : Facts} {φ₁ : List Addr} {l₁ : Le P P₁} {f₁ : φ <+: φ₁} (I₁ : Inv c σ μ₁ P₁ φ₁ s₁) {a b : Int} {n : Nat} {t u v : Tok} {r : Addr}
    (hr : IsRange s₁.heap r a b 1 t u v) (hb : b = a + n) (ha : 0 ≤ a) (ha' : a ≤ 1000) (hn : n ≤ 1000) (q : Q ((List.range n).map fun i : Nat => D.int (a + (i : Int))) μ₁) :
    wpAny (model c.prog c.w) c.A (pyIter (.ref r)) (fun it s₂ => PI c σ P φ (.Name x px) Q it s₂) (fun _ _ => False) s₁ := by
  obtain ⟨n1, n2, n3⟩ := fresh_none I₁
  refine wpAny_pyIter_range hr (small_one (by omega) (by omega) (by omega) (by omega)) ?_
  have hsz : Builtin.Range.rangeSize a b 1 = (n : Int) := by rw [rangeSize_one]; split <;> omega
  have hk : ∀ b' o', s₁.heap.get? b' = some o' → (s₁.heap.push { cls := .type "range_iterator", data := .fields #[rawInt a, rawInt (Builtin.Range.rangeSize a b 1), rawInt 1] }).get? b' = some o' := fun _ _ e => Heap.get?_push_of_some _ e
  have I₂ := I₁.grow (t := s₁.toks) hk (fun _ _ h => h) (fun a o h => hk _ _ (I₁.fz _ _ h)) (fun _ _ h => .inl h)
  have W := PySem.Walks.range (prog := c.prog) (w := c.w) K.handled s₁.heap.objs.size a 1 n
  refine ⟨s₁.heap.objs.size, (List.range n).map fun i : Nat => D.int (a + (i : Int)), μ₁, P₁, φ₁, rfl, l₁, f₁, I₂, ⟨⟨[s₁.heap.objs.size], _, _, by rw [List.length_map, List.length_range]; exact W, fun i h st => inert_rangeiter st, fun i s v Q E st hq => wpAny_pure hq, fun b hb => .inl (by simpa using hb), fun i v d hv hd => ?_, ?_⟩⟩, n1, n2, n3, q⟩
  · obtain ⟨t, rfl⟩ := hv
    have : d = .int (a + i * 1) := by
      rw [List.getElem?_map] at hd
      cases hi : (List.range n)[i]? with
      | none => rw [hi] at hd; cases hd
      | some j =>
        rw [hi] at hd
        have hlt := (List.getElem?_eq_some_iff.mp hi)
        obtain ⟨h1, h2⟩ := hlt
        simp at h2
        subst h2
        simp at hd
        rw [← hd]; simp
    subst this
    exact .int _ _
  · show IsRangeIter (s₁.heap.push _) _ _ _ _
    have : (s₁.heap.push { cls := .type "range_iterator", data := .fields #[rawInt a, rawInt (Builtin.Range.rangeSize a b 1), rawInt 1] }).get? s₁.heap.objs.size = some { cls := .type "range_iterator", data := .fields #[rawInt a, rawInt (Builtin.Range.rangeSize a b 1), rawInt 1] } := Heap.get?_push_size _ rfl
    rw [hsz] at this ⊢
    simpa using this

noncomputable abbrev kRg (Q : List D → List MO → Prop) : KV := fun d μ' => ∃ n : Nat, d = .int n ∧ n ≤ 1000 ∧ Q ((List.range n).map fun i : Nat => D.int (i : Int)) μ'
noncomputable abbrev kRg3 (d : D) (Q : List D → List MO → Prop) : KV := fun d' μ' => ∃ a n : Nat, d = .int a ∧ d' = .int ((a + n : Nat) : Int) ∧ a ≤ 1000 ∧ n ≤ 1000 ∧ Q ((List.range n).map fun i : Nat => D.int ((a + i : Nat) : Int)) μ'
noncomputable abbrev kRg2 (c : Cx) (σ : List (Str × D)) (e' : Expr) (Q : List D → List MO → Prop) : KV := fun d μ₁ => EvT c σ μ₁ (eval e' c.env) (kRg3 d Q)
theorem it_range1 {x : Str} {px p pos : Pos} {e : Expr} {Q : List D → List MO → Prop} (K : c.Ok mg mb) (hk : c.env.kindOf (Str.ofString "range") = some .globalImplicit) (he : notStar e = true)
    (h : EvT c σ μ (eval e c.env) (kRg Q)) : ItT c σ μ (.Name x px) (eval (.Call (.Name (Str.ofString "range") p) [e] [] pos) c.env) Q :=
  fun P φ s I => Call_ ((ev_blt (Q := fun d μ' => d = .opq (.type "range") ∧ μ' = μ) K hk mem_range blt_range ⟨rfl, rfl⟩).at I fun v s₁ d μ₁ P₁ φ₁ l₁ f₁ r₁ I₁ ⟨hd, hμ⟩ => by
    subst hd hμ; (first | obtain rfl := r₁.inv | obtain ⟨_, rfl⟩ := r₁.inv)
    refine PyProof.Rows.callWith_type1 ((evs_c (Q := fun ds μ => ∃ n : Nat, ds = [.int n] ∧ n ≤ 1000 ∧ Q ((List.range n).map fun i : Nat => D.int (i : Int)) μ) he (h.mono fun d μ' ⟨n, hd, hn, q⟩ => evs_nil ⟨n, by rw [hd], hn, q⟩)).at I₁ fun vs s₂ ds μ₂ P₂ φ₂ l₂ f₂ r₂ I₂ ⟨n, hds, hn, q⟩ => ?_) (star_of he) plain_nil
    subst hds
    obtain ⟨_, _, rfl, r2, r3⟩ := r₂.inv
    (first | obtain rfl := r3.inv | obtain ⟨_, rfl⟩ := r3.inv); obtain ⟨t1, rfl⟩ := r2.inv
    refine call_range_1 ?_
    have hk' : ∀ b o', s₂.heap.get? b = some o' → (s₂.heap.push { cls := .type "range", data := .fields #[.int 0 s₂.toks, .int (n : Int) t1, .int 1 (s₂.toks + 1)] }).get? b = some o' := fun _ _ e => Heap.get?_push_of_some _ e
    have I₃ := I₂.grow (t := s₂.toks + 1 + 1) hk' (fun _ _ h => h) (fun a o h => hk' _ _ (I₂.fz _ _ h)) (fun _ _ h => .inl h)
    exact it_range_of (l₁ := l₁.trans l₂) (f₁ := f₁.trans f₂) K I₃ (IsRange.new _ _ _ _ _ _ _) (n := n) (by omega) (by omega) (by omega) hn (by simpa using q)) name_call

theorem it_range2 {x : Str} {px p pos : Pos} {e e' : Expr} {Q : List D → List MO → Prop} (K : c.Ok mg mb) (hk : c.env.kindOf (Str.ofString "range") = some .globalImplicit) (he : notStar e = true) (he' : notStar e' = true)
    (h : EvT c σ μ (eval e c.env) (kRg2 c σ e' Q)) :
    ItT c σ μ (.Name x px) (eval (.Call (.Name (Str.ofString "range") p) [e, e'] [] pos) c.env) Q :=
  fun P φ s I => Call_ ((ev_blt (Q := fun d μ' => d = .opq (.type "range") ∧ μ' = μ) K hk mem_range blt_range ⟨rfl, rfl⟩).at I fun v s₁ d μ₁ P₁ φ₁ l₁ f₁ r₁ I₁ ⟨hd, hμ⟩ => by
    subst hd hμ; (first | obtain rfl := r₁.inv | obtain ⟨_, rfl⟩ := r₁.inv)
    refine PyProof.Rows.callWith_type1 ((evs_c (Q := fun ds μ => ∃ a n : Nat, ds = [.int a, .int ((a + n : Nat) : Int)] ∧ a ≤ 1000 ∧ n ≤ 1000 ∧ Q ((List.range n).map fun i : Nat => D.int ((a + i : Nat) : Int)) μ) he
      (h.mono fun d μ' q => evs_c he' (q.mono fun d' μ'' ⟨a, n, hd, hd', ha, hn, q⟩ => evs_nil ⟨a, n, by rw [hd, hd'], ha, hn, q⟩))).at I₁ fun vs s₂ ds μ₂ P₂ φ₂ l₂ f₂ r₂ I₂ ⟨a, n, hds, ha, hn, q⟩ => ?_) (star_of he) (plain_cons he' plain_nil)
    subst hds
    obtain ⟨_, _, rfl, r2, r3⟩ := r₂.inv
    (have hx := r3.inv; clear r3; obtain ⟨_, _, rfl, r3, r4⟩ := hx)
    (first | obtain rfl := r4.inv | obtain ⟨_, rfl⟩ := r4.inv); obtain ⟨t1, rfl⟩ := r2.inv
    obtain ⟨t2, rfl⟩ := r3.inv
    refine call_range_2 ?_
    have hk' : ∀ b o', s₂.heap.get? b = some o' → (s₂.heap.push { cls := .type "range", data := .fields #[.int (a : Int) t1, .int ((a + n : Nat) : Int) t2, .int 1 s₂.toks] }).get? b = some o' := fun _ _ e => Heap.get?_push_of_some _ e
    have I₃ := I₂.grow (t := s₂.toks + 1) hk' (fun _ _ h => h) (fun a o h => hk' _ _ (I₂.fz _ _ h)) (fun _ _ h => .inl h)
    exact it_range_of (l₁ := l₁.trans l₂) (f₁ := f₁.trans f₂) K I₃ (IsRange.new _ _ _ _ _ _ _) (n := n) (by push_cast; rfl) (by omega) (by omega) hn (by simpa using q)) name_call

noncomputable abbrev kFI (c : Cx) (σ : List (Str × D)) (target : Expr) (body : List Stmt) (Q : KS) : List D → List MO → Prop := fun ds μ' => ForT c target (execs body c.env) Q ds σ μ'
theorem tr_forI {target iter : Expr} {body : List Stmt} {pos : Pos} {Q : Fl → List (Str × D) → List MO → Prop} (K : c.Ok mg mb)
    (h : ItT c σ μ target (eval iter c.env) (kFI c σ target body Q))
    (hs : ∀ x, foldedSetIterable iter c.env x = pure x := by intro _; rfl) : TrT c σ μ (exec (.For target iter body [] pos) c.env) Q :=
  fun P φ s I => wpAny_For (wpAny_mono (h P φ s I) (fun v s₁ h₁ => wpAny_mono h₁ (fun it s₂ h₂ => by
    obtain ⟨I, ds, μ', P', φ', rfl, l, f, I₂, ⟨⟨fp, Pv, St, W, hst, hgo, hfp, hval, hs0⟩⟩, n1, n2, n3, q⟩ := h₂
    refine forLoop_walk K W hst hgo hfp hval n3 (fun f s' hf => ?_) I₂ hs0 n1 n2 q
    obtain ⟨fl, σ', μ', P', φ', l', r, I', q⟩ := hf
    exact ⟨fl, σ', μ', P', φ', l.trans l', r, I', q⟩) fun _ _ x => x.elim) fun _ _ x => x.elim) hs
end
end -- QComp

section -- QComp2
/-! ### the cells of a comprehension's frame -/
noncomputable def closeFrom (cells : List (Str × Addr)) : List (Str × NameKind) → List (Str × Addr) → List (Str × Addr)
  | [], cs => cs
  | (n, k) :: r, cs => if k == .free then closeFrom cells r ((n, (cells.lookup n).getD 0) :: cs) else closeFrom cells r cs

theorem closeFrom_sound {cells : List (Str × Addr)} : ∀ (names : List (Str × NameKind)) (cs : List (Str × Addr)), (∀ x ∈ names, x.2 = .free → ∃ ca, cells.lookup x.1 = some ca) → (∀ p ∈ cs, cells.lookup p.1 = some p.2) →
    ∀ p ∈ closeFrom cells names cs, cells.lookup p.1 = some p.2
  | [], cs, _, hc => hc
  | (n, k) :: r, cs, h, hc => by
    unfold closeFrom
    split
    · rename_i hk
      refine closeFrom_sound r _ (fun x hx => h x (List.mem_cons_of_mem _ hx)) fun p hp => ?_
      rcases List.mem_cons.mp hp with rfl | hp
      · obtain ⟨ca, e⟩ := h _ (List.mem_cons_self ..) (by simpa using hk)
        simp only at e ⊢
        rw [e]; rfl
      · exact hc p hp
    · exact closeFrom_sound r _ (fun x hx => h x (List.mem_cons_of_mem _ hx)) hc
theorem closeFrom_old {cells : List (Str × Addr)} : ∀ (names : List (Str × NameKind)) (cs : List (Str × Addr)), ∀ p ∈ cs, p ∈ closeFrom cells names cs
  | [], cs, p, h => h
  | (n, k) :: r, cs, p, h => by
    unfold closeFrom
    split
    · exact closeFrom_old r _ p (List.mem_cons_of_mem _ h)
    · exact closeFrom_old r _ p h
theorem closeFrom_mem {cells : List (Str × Addr)} : ∀ (names : List (Str × NameKind)) (cs : List (Str × Addr)) (x : Str), (x, NameKind.free) ∈ names → ∃ a, (x, a) ∈ closeFrom cells names cs
  | (n, k) :: r, cs, x, h => by
    unfold closeFrom
    rcases List.mem_cons.mp h with e | h
    · cases e
      rw [if_pos (by decide)]
      exact ⟨_, closeFrom_old r _ _ (List.mem_cons_self ..)⟩
    · split
      · exact closeFrom_mem r _ x h
      · exact closeFrom_mem r _ x h

theorem closure_loop {env : Env} : ∀ (names : List (Str × NameKind)) (cs : List (Str × Addr)), (∀ x ∈ names, x.2 = .free → ∃ ca, env.cells.lookup x.1 = some ca) →
    (forIn names cs (fun x r => match x with
      | (name, kind) => if (kind == NameKind.free) = true then do let y ← cellOf env name; pure (ForInStep.yield ((name, y) :: r)) else pure (ForInStep.yield r)) : Sem (List (Str × Addr))) = pure (closeFrom env.cells names cs)
  | [], cs, _ => rfl
  | (n, k) :: r, cs, h => by
    rw [List.forIn_cons]
    by_cases hk : (k == NameKind.free) = true
    · obtain ⟨ca, e⟩ := h _ (List.mem_cons_self ..) (by simpa using hk)
      simp only at e
      have : cellOf env n = pure ca := by unfold cellOf; rw [e]
      simp only [hk, if_true, this, pure_bind]
      rw [closure_loop r _ (fun x hx => h x (List.mem_cons_of_mem _ hx))]
      conv => rhs; unfold closeFrom
      rw [if_pos hk, e]; rfl
    · simp only [hk, if_false, pure_bind, Bool.false_eq_true]
      rw [closure_loop r _ (fun x hx => h x (List.mem_cons_of_mem _ hx))]
      conv => rhs; unfold closeFrom
      rw [if_neg hk]
theorem closureFor_eq {scope : Scope} {env : Env} (h : ∀ x ∈ scope.names, x.2 = .free → ∃ ca, env.cells.lookup x.1 = some ca) : closureFor scope env = pure (closeFrom env.cells scope.names []) := by
  unfold closureFor
  simp only [closure_loop _ _ h, pure_bind]

noncomputable def relabelS (scope sc : Scope) : Scope :=
  { scope with names := scope.names.map fun (n, k) => if (k == .free && sc.kind == .function && sc.names.lookup n == some .cell) then (n, .cell) else (n, k) }
theorem relabel_eq {scope sc : Scope} {env : Env} (h : env.scope = sc) : relabel scope env = relabelS scope sc := by
  subst h; rfl

theorem lookup_relabel_free {env : Env} : ∀ {names : List (Str × NameKind)} {x : Str}, names.lookup x = some .free →
    (names.map fun (n, k) => if (k == NameKind.free && env.scope.kind == .function && env.kindOf n == some .cell) then (n, NameKind.cell) else (n, k)).lookup x = some .free ∨
    (names.map fun (n, k) => if (k == NameKind.free && env.scope.kind == .function && env.kindOf n == some .cell) then (n, NameKind.cell) else (n, k)).lookup x = some .cell
  | [], _, h => by simp at h
  | (n, k) :: r, x, h => by
    have ih := @lookup_relabel_free env r x
    show List.lookup x ((if (k == NameKind.free && env.scope.kind == .function && env.kindOf n == some .cell) = true then (n, NameKind.cell) else (n, k)) :: _) = _ ∨ List.lookup x ((if (k == NameKind.free && env.scope.kind == .function && env.kindOf n == some .cell) = true then (n, NameKind.cell) else (n, k)) :: _) = _
    cases hx : x == n with
    | true =>
      simp only [List.lookup_cons, hx] at h
      cases h
      by_cases hc : (NameKind.free == NameKind.free && env.scope.kind == .function && env.kindOf n == some .cell) = true
      · right; rw [if_pos hc]; simp [List.lookup_cons, hx]
      · left; rw [if_neg hc]; simp [List.lookup_cons, hx]
    | false =>
      simp only [List.lookup_cons, hx] at h
      by_cases hc : (k == NameKind.free && env.scope.kind == .function && env.kindOf n == some .cell) = true
      · rw [if_pos hc]; simp only [List.lookup_cons, hx]; exact ih h
      · rw [if_neg hc]; simp only [List.lookup_cons, hx]; exact ih h

section
variable {c : Cx} {σ σ' : List (Str × D)} {μ : List MO} {P : Facts} {φ : List Addr} {s : Shared} {mg mb : Str → Option Value} {Q : D → List MO → Prop}

/-- the frame of a comprehension -/
noncomputable def cxComp (c : Cx) (scope : Scope) (C : Addr) (h₀ : Heap) (P₀ : Facts) : Cx where
  prog := c.prog
  w := c.w
  A := c.A
  env := compEnvC scope (closeFrom c.env.cells scope.names []) C c.env
  h₀ := h₀
  os := c.os
  wc := []
  n := c.n
  P₀ := P₀
  ro := true
  up := frs c.A

/-- the tests of a comprehension -/
noncomputable def IfsT (c : Cx) (σ : List (Str × D)) (μ : List MO) : List Expr → (Bool → Prop) → Prop
  | [], Q => Q true
  | [t], Q => TsT c σ μ (isTrue t c.env (eval t c.env)) (fun b μ' => μ' = μ ∧ Q b)
  | _, _ => False

theorem IfsT.at {ifs : List Expr} {Q : Bool → Prop} {X : Bool → Shared → Prop} {E : Value → Shared → Prop} (h : IfsT c σ μ ifs Q) (I : Inv c σ μ P φ s)
    (k : ∀ b s' P' φ', Le P P' → φ <+: φ' → Inv c σ μ P' φ' s' → Q b → X b s') :
    wpAny (model c.prog c.w) c.A (forIn ifs true fun t r => if r = true then do let ok ← isTrue t c.env (eval t c.env); pure (ForInStep.yield ok) else pure (ForInStep.yield r)) X E s := by
  match ifs, h with
  | [], h => exact wpAny_pure (k _ _ _ _ Le.rfl (List.prefix_refl _) I h)
  | [t], h =>
    rw [List.forIn_cons]
    simp only [if_true]
    refine wpAny_bind (wpAny_bind ((show TsT c σ μ _ _ from h).at I fun b s' μ' P' φ' l f I' ⟨e, q⟩ => ?_))
    subst e
    exact wpAny_pure (wpAny_pure (k _ _ _ _ l f I' q))

/-- what one turn of a comprehension does with its item -/
noncomputable def EltT (c : Cx) (σ₀ : List (Str × D)) (x : Str) (px : Pos) (ifs : List Expr) (elt : Expr) (acc : List D) (d : D) (r : Option D) : Prop :=
  ∃ σ₁, Upd σ₀ x d σ₁ ∧ (∀ p ∈ σ₀, p ∈ σ₁) ∧ IfsT c σ₁ [.lst acc] ifs (fun b => if b = true then EvT c σ₁ [.lst acc] (eval elt c.env) (fun e μ' => μ' = [.lst acc] ∧ r = some e) else r = none)

theorem compLoop_walk {c : Cx} {P : Facts} {s : Shared} {σ₀ : List (Str × D)} (K : c.Ok mg mb) {I Dd : Addr} {fp : List Addr} {Pv : Nat → Value → Prop} {St : Nat → Heap → Prop} {x : Str} {px : Pos} {elt iter : Expr} {ifs : List Expr} {scope : Scope} {pos : Pos}
    {α : Type} {l : List α} {g : α → D} {f : α → Option D} {R' : Result → Shared → Prop}
    (W : PySem.Walks c.prog c.w c.A I fp [I] l.length Pv St) (hst : ∀ i h, St i h → ∃ o, h.get? I = some o ∧ Inert o)
    (hfp : ∀ b ∈ fp, b = I ∨ ∃ o, P b o) (hval : ∀ i v d, Pv i v → (l.map g)[i]? = some d → R P [] v d)
    (h0 : c.h₀.get? I = none) (hx : c.env.kindOf x = some .local) (hl : l.length ≤ 1000)
    (hR : ∀ s' acc P', Le P P' → Inv c σ₀ [.lst acc] P' [Dd] s' → acc = l.filterMap f → (∀ o, ¬ P' I o) → R' (.ok .next) s')
    (J : Inv c σ₀ [.lst []] P [Dd] s) (hs0 : St 0 s.heap) (hI : I ∉ own c [Dd]) (hPI : ∀ o, ¬ P I o)
    (helt : ∀ a ∈ l, ∀ acc, EltT c σ₀ x px ifs elt acc (g a) (f a)) (hF0 : ∀ φ' : List Addr, [Dd] <+: φ' → φ'.length = 1 → φ' = [Dd]) :
    codeAny (model c.prog c.w) c.A (.compLoop (.ListComp elt [⟨.Name x px, iter, ifs, 0⟩] scope pos) 0 (.ref I) (.ref Dd) c.env) R' s := by
  refine codeAny_compLoop_tests (fun n s' => ∃ i P', Le P P' ∧ Inv c σ₀ [.lst ((l.take i).filterMap f)] P' [Dd] s' ∧ St i s'.heap ∧ (∀ o, ¬ P' I o) ∧ i ≤ l.length ∧ n = l.length - i) ?_ l.length ⟨0, P, Le.rfl, by simpa using J, hs0, hPI, Nat.zero_le _, by simp⟩
  rintro n s' ⟨i, P', lP, J', hs', hPI', hi, rfl⟩
  by_cases hlt : i < l.length
  · refine W.item i s' _ _ hlt hs' fun v h₁ tk hv hs₁ hxx => ?_
    dsimp only
    have hg : (l.map g)[i]? = some (g l[i]) := by simp [hlt]
    have hrv : R P' [Dd] v (g l[i]) := (hval i v _ hv hg).mono lP (List.nil_prefix ..)
    obtain ⟨o₁, ho₁, hin₁⟩ := hst _ _ hs₁
    have J₁ := (J'.other (h' := h₁) (a := I) (fun b o hb e => hxx b o (by simpa using hb) e) hI hPI' h0 tk).learn (o := o₁) ho₁ hI h0
    obtain ⟨σ₁, hu, hsub, hifs⟩ := helt l[i] (List.getElem_mem hlt) ((l.take i).filterMap f)
    refine wpAny_assign_Name (store_ok K.toOkW J₁ (.inl hx) hu (hrv.mono (fun _ _ h => .inl h) (List.prefix_refl _)) fun s₂ J₂ => ?_)
    refine hifs.at J₂ fun b s₃ P₃ φ₃ l₃ f₃ J₃ q₃ => ?_
    obtain rfl := hF0 φ₃ f₃ J₃.len
    have fin : ∀ s₄ P₄ acc, Le P₃ P₄ → Inv c σ₁ [.lst acc] P₄ [Dd] s₄ → acc = (l.take (i + 1)).filterMap f → ∃ m, m < l.length - i ∧ ∃ i P', Le P P' ∧ Inv c σ₀ [.lst ((l.take i).filterMap f)] P' [Dd] s₄ ∧ St i s₄.heap ∧ (∀ o, ¬ P' I o) ∧ i ≤ l.length ∧ m = l.length - i := by
      intro s₄ P₄ acc l₄ J₄ ha
      subst ha
      have hP₃ : P₄ I o₁ := l₄ _ _ (l₃ _ _ (.inr ⟨rfl, rfl⟩))
      have hg₃ : s₄.heap.get? I = some o₁ := J₄.fz _ _ hP₃
      have lP' : Le P P₄ := fun a o h => l₄ _ _ (l₃ _ _ (.inl (lP _ _ h)))
      have hin : ∀ o, P₄ I o → Inert o := fun o h => by
        have := J₄.fz _ _ h
        rw [hg₃] at this; cases this; exact hin₁
      have J₅ := (J₄.weaken hsub).retract hin h0
      refine ⟨_, by omega, i + 1, _, fun a o h => ⟨lP' _ _ h, fun e => hPI o (e ▸ h)⟩, J₅, W.frame _ _ _ hs₁ fun b hb o e => ?_, fun o h => h.2 rfl, hlt, rfl⟩
      rcases hfp b hb with rfl | ⟨o', ho'⟩
      · rw [ho₁] at e; cases e; exact hg₃
      · have e1 := J₁.fz _ _ (Or.inl (lP _ _ ho'))
        rw [e] at e1; cases e1
        exact J₄.fz _ _ (lP' _ _ ho')
    have htk : (l.take (i + 1)).filterMap f = (l.take i).filterMap f ++ (f l[i]).toList := by
      rw [List.take_add_one, List.filterMap_append, List.getElem?_eq_getElem hlt]
      cases hf : f l[i] <;> simp [hf]
    cases b with
    | false =>
      simp only [Bool.false_eq_true, if_false] at q₃ ⊢
      exact fin _ _ _ Le.rfl J₃ (by rw [htk, q₃]; simp)
    | true =>
      simp only [if_true] at q₃ ⊢
      refine q₃.at J₃ fun y s₄ e μ₄ P₄ φ₄ l₄ f₄ r₄ J₄ ⟨hμ, hf⟩ => ?_
      subst hμ
      obtain rfl := hF0 φ₄ f₄ J₄.len
      refine wpAny_mono (append_ok (k := 0) (Q := fun d μ' => μ' = [.lst ((l.take i).filterMap f ++ [e])]) J₄ rfl rfl r₄ ?_ (by simp)) (fun y' s₅ ⟨d, μ₅, P₅, φ₅, l₅, f₅, r₅, J₅, hμ₅⟩ => ?_) fun _ _ x => x.elim
      · have h1 : ((l.take i).filterMap f).length ≤ (l.take i).length := List.length_filterMap_le ..
        simp at h1; omega
      · subst hμ₅
        obtain rfl := hF0 φ₅ f₅ J₅.len
        exact fin _ _ _ (l₄.trans l₅) J₅ (by rw [htk, hf]; rfl)
  · have hie : i = l.length := by omega
    subst hie
    refine W.done s' _ _ hs' fun h₁ tk hxx => ?_
    dsimp only
    rw [List.take_length] at J'
    exact hR _ _ _ lP (J'.other (h' := h₁) (a := I) (fun b o hb e => hxx b o (by simpa using hb) e) hI hPI' h0 tk) rfl hPI'

theorem fresh_at (J : Inv c σ μ P φ s) {a : Addr} (hnone : s.heap.get? a = none) : a ∉ own c φ ∧ (∀ o, ¬ P a o) ∧ c.h₀.get? a = none := by
  refine ⟨fun h => ?_, fun o h => ?_, J.base.gone hnone⟩
  · rcases List.mem_append.mp (show _ ∈ (c.env.locals :: c.wc) ++ φ from h) with h1 | h1
    · rcases List.mem_cons.mp h1 with h1 | h1
      · obtain ⟨m, o, es, ep, e, _⟩ := J.ns; rw [← h1, hnone] at e; cases e
      · obtain ⟨o, e⟩ := J.lt _ h1; rw [hnone] at e; cases e
    · obtain ⟨k, hk', e1⟩ := List.getElem_of_mem h1
      have hm : k < μ.length := J.len ▸ hk'
      obtain ⟨o, e, _⟩ := J.mu k φ[k] μ[k] (List.getElem?_eq_getElem hk') (List.getElem?_eq_getElem hm)
      rw [e1, hnone] at e; cases e
  · have := J.fz _ _ h; rw [hnone] at this; cases this

mutual
theorem R.sub {P P' : Facts} {φ : List Addr} (hs : ∀ a o, P a o → (∃ vs n, o.data = .seq vs n) → P' a o) : ∀ {v : Value} {d : D}, R P φ v d → R P' φ v d
  | _, _, .none => .none
  | _, _, .bool b => .bool b
  | _, _, .int i t => .int i t
  | _, _, .str x t => .str x t
  | _, _, .tup h1 h2 h3 h4 => .tup (hs _ _ h1 ⟨_, _, h3⟩) h2 h3 (Rs.sub hs h4)
  | _, _, .lst h1 h2 h3 h4 => .lst (hs _ _ h1 ⟨_, _, h3⟩) h2 h3 (Rs.sub hs h4)
  | _, _, .opq v => .opq v
  | _, _, .ref h => .ref h
theorem Rs.sub {P P' : Facts} {φ : List Addr} (hs : ∀ a o, P a o → (∃ vs n, o.data = .seq vs n) → P' a o) : ∀ {v : List Value} {d : List D}, Rs P φ v d → Rs P' φ v d
  | _, _, .nil => .nil
  | _, _, .cons h1 h2 => .cons (R.sub hs h1) (Rs.sub hs h2)
end
theorem pure_filterMap {α : Type} {f : α → Option D} : ∀ (l : List α), (∀ a ∈ l, ∀ e, f a = some e → D.pure e = true) → Ds.pure (l.filterMap f) = true
  | [], _ => rfl
  | a :: r, h => by
    have ih := pure_filterMap r fun b hb => h b (List.mem_cons_of_mem _ hb)
    cases hf : f a with
    | none => simpa [List.filterMap_cons, hf] using ih
    | some e =>
      rw [List.filterMap_cons, hf]
      simp only [Ds.pure, h a (List.mem_cons_self ..) e hf, ih, Bool.and_self]

noncomputable abbrev plainNames (sc : Scope) : Bool := sc.names.all fun p => !(p.1 == ("__debug__" : Str)) && !(p.1 == ("__classdict__" : Str))

theorem mem_relabel {env : Env} {names : List (Str × NameKind)} {x : Str} {k : NameKind} (h : (names.map fun (n, k) => if (k == NameKind.free && env.scope.kind == .function && env.kindOf n == some .cell) then (n, NameKind.cell) else (n, k)).lookup x = some k) : ∃ k', (x, k') ∈ names := by
  have := mem_of_lookup h
  obtain ⟨⟨n, k'⟩, hm, e⟩ := List.mem_map.mp this
  simp only at e
  split at e <;> cases e <;> exact ⟨_, hm⟩

/-- a heap from which one object is gone -/
noncomputable def without (h : Heap) (a : Addr) : Heap := { h with objs := h.objs.modify a fun o => { o with data := .freed } }
theorem without_self (h : Heap) (a : Addr) : (without h a).get? a = none := by
  unfold without Heap.get?
  simp only [Array.getElem?_modify, if_true]
  cases h.objs[a]? <;> rfl
theorem without_other (h : Heap) {a b : Addr} (hb : b ≠ a) : (without h a).get? b = h.get? b := by
  unfold without Heap.get?
  simp only [Array.getElem?_modify, if_neg (Ne.symm hb)]
theorem without_some {h : Heap} {a b : Addr} {o : Obj} (e : (without h a).get? b = some o) : b ≠ a ∧ h.get? b = some o := by
  have hb : b ≠ a := fun q => by rw [q, without_self] at e; cases e
  exact ⟨hb, without_other h hb ▸ e⟩

theorem comp_walk (K : c.Ok mg mb) {scope : Scope} {x : Str} {px : Pos} {elt iter : Expr} {ifs : List Expr} {pos : Pos} {α : Type} {l : List α} {g : α → D} {f : α → Option D} {σ₀ : List (Str × D)} {I : Addr} {RR : Value → Addr → Result → Shared → Prop} {E : Value → Shared → Prop}
    (hsub : ∀ p ∈ σ₀, p ∈ σ ∧ D.pure p.2 = true ∧ (c.env.kindOf p.1 = some .cell ∨ c.env.kindOf p.1 = some .free) ∧ scope.names.lookup p.1 = some .free)
    (hfree : ∀ y ∈ scope.names, y.2 = .free → ∃ d, (y.1, d) ∈ σ₀)
    (hcell : ∀ y ∈ scope.names, y.2 ≠ .cell) (hkind : scope.kind = .function) (hx : scope.names.lookup x = some .local) (hnm : plainNames scope = true)
    (J : Inv c σ μ P φ s) (S : Src c (.Name x px) P s.heap I (l.map g)) (hI : I ∉ own c φ) (hPI : ∀ o, ¬ P I o) (h0 : c.h₀.get? I = none) (hIo : ∃ o, s.heap.get? I = some o ∧ Inert o) (hl : l.length ≤ 1000)
    (hpure : ∀ a ∈ l, ∀ e, f a = some e → D.pure e = true)
    (helt : ∀ c' : Cx, c'.prog = c.prog → c'.w = c.w → c'.env.scope = relabel scope c.env → c'.n = c.n → c'.Ok mg mb → ∀ a ∈ l, ∀ acc, EltT c' σ₀ x px ifs elt acc (g a) (f a))
    (hRR : ∀ Dd C s' P' m, Le P P' → Inv c σ μ P' φ s' → R P' φ (.ref Dd) (.lst (l.filterMap f)) → s'.heap.Ns C m → C ∉ own c φ → (∀ o, ¬ P' C o) → c.h₀.get? C = none → RR (.ref Dd) C (.ok .next) s') :
    wpAny (model c.prog c.w) c.A (newList []) (fun acc s₃ => wpAny (model c.prog c.w) c.A (newFunctionEnv scope c.env.globals (closeFrom c.env.cells scope.names []) [] c.env.qual none .none (some c.env)) (fun cenv s₄ =>
      codeAny (model c.prog c.w) c.A (.compStart (.ListComp elt [⟨.Name x px, iter, ifs, 0⟩] scope pos) 0 (.ref I) acc { cenv with scope := relabel scope c.env }) (RR acc cenv.locals) s₄) E s₃) E s := by
  refine wpAny_newObj_type (wpAny_newFunctionEnv hcell (by intro y hy; simp at hy) (fun h₁ hns₁ hsb₁ => ?_) hkind)
  dsimp only at hns₁ hsb₁ ⊢
  generalize hH2 : s.heap.push { cls := .type "list", dict := none, data := .seq ([] : List Value).toArray } = H2 at hns₁ hsb₁ ⊢
  have hC : H2.objs.size = s.heap.objs.size + 1 := by rw [← hH2, Heap.size_push]
  have hDC : s.heap.objs.size ≠ H2.objs.size := by rw [hC]; exact Nat.ne_of_lt (Nat.lt_succ_self _)
  have below : ∀ b, b < s.heap.objs.size → b ≠ H2.objs.size ∧ b ≠ s.heap.objs.size := fun b hb => ⟨by rw [hC]; exact Nat.ne_of_lt (Nat.lt_succ_of_lt hb), Nat.ne_of_lt hb⟩
  have old : ∀ b o, s.heap.get? b = some o → h₁.get? b = some o := fun b o e => hsb₁.extBut b o (below b (Heap.lt_size e)).1 (Heap.get?_push_of_some _ (hH2 ▸ Heap.get?_push_of_some _ e))
  have fresh : ∀ a, s.heap.objs.size ≤ a → s.heap.get? a = none := fun a ha => by
    cases e : s.heap.get? a with
    | none => rfl
    | some o' => exact absurd (Heap.lt_size e) (Nat.not_lt.mpr ha)
  have hDn := fresh _ (Nat.le_refl _)
  have hCn : s.heap.get? H2.objs.size = none := fresh _ (by rw [hC]; exact Nat.le_succ _)
  have hacc : h₁.get? s.heap.objs.size = some { cls := .type "list", dict := none, data := .seq #[] } := hsb₁.extBut _ _ hDC (Heap.get?_push_of_some _ (hH2 ▸ Heap.get?_push_size _ rfl))
  have hcl : ∀ y ∈ scope.names, y.2 = .free → ∃ ca, c.env.cells.lookup y.1 = some ca := fun y hy hk => by
    obtain ⟨d, hd⟩ := hfree y hy hk
    obtain ⟨h1, _, h3, _⟩ := hsub _ hd
    obtain ⟨v, H, r⟩ := J.vars _ _ h1
    rcases H with ⟨q, _⟩ | ⟨_, ca, e, _⟩ | ⟨_, ca, o, e, _⟩
    · rcases h3 with h3 | h3 <;> · rw [h3] at q; cases q
    · exact ⟨ca, e⟩
    · exact ⟨ca, e⟩
  let Pc : Facts := fun a o => P a o ∨ (s.heap.get? a = some o ∧ ∃ v, o.data = .cell v)
  have hwb : Kp c.up c.h₀ (without s.heap I) := J.base.ext (a := I) (fun b o hb e => (without_other _ hb).trans e) h0
  have K' : (cxComp c scope H2.objs.size (without s.heap I) Pc).Ok mg mb :=
    { kind := hkind, glob := K.glob, blt := K.blt, base := K.base.kp hwb K.tabs, depth := K.depth, units := K.units, handled := K.handled
      nm := fun y k hy => by
        obtain ⟨k', hm⟩ := mem_relabel (env := c.env) hy
        have := List.all_eq_true.mp hnm _ hm
        simpa [Bool.and_eq_true] using this
      wcs := fun y z ca h1 h2 => by
        have e1 := closeFrom_sound scope.names [] hcl (fun p hp => by cases hp) _ (mem_of_lookup (show (closeFrom c.env.cells scope.names []).lookup y = some ca from h1))
        have e2 := closeFrom_sound scope.names [] hcl (fun p hp => by cases hp) _ (mem_of_lookup (show (closeFrom c.env.cells scope.names []).lookup z = some ca from h2))
        exact K.wcs y z ca e1 e2
      fr := by
        obtain ⟨outer, e, ho⟩ := K.fr
        refine ⟨if c.ro = true then outer else c.env :: outer, (if_pos (c := (cxComp c scope H2.objs.size (without s.heap I) Pc).ro = true) rfl).symm ▸ e, fun env he => ?_⟩
        have hm : ∀ L, env.frame = some L → L ∈ frs c.A := fun L hf => by
          show L ∈ (c.A.frames.getD []).filterMap (·.frame)
          rw [e]; exact List.mem_filterMap.mpr ⟨env, he, hf⟩
        by_cases hro : c.ro = true
        · rw [if_pos hro] at he
          obtain ⟨h1, L, _, h2⟩ := ho env he
          exact ⟨h1, L, hm L h2, h2⟩
        · rw [if_neg hro] at he
          rcases List.mem_cons.mp he with rfl | he'
          · exact ⟨by rw [K.kind]; decide, _, hm _ (K.fl (by simpa using hro)), K.fl (by simpa using hro)⟩
          · obtain ⟨h1, L, _, h2⟩ := ho env he'
            exact ⟨h1, L, hm L h2, h2⟩
      fl := fun h => (by cases h)
      upOk := fun L hL => by
        have hLs : (∃ o es ep, s.heap.get? L = some o ∧ o.data = .dict es ep ∧ StrKeys es) ∧ L ≠ I ∧ ∀ o, ¬ P L o := by
          rcases frs_own K L hL with rfl | hL
          · obtain ⟨m, o, es, ep, e, d, kd, _⟩ := J.ns
            exact ⟨⟨o, es, ep, e, d, kd⟩, fun q => hI (q ▸ List.mem_cons_self ..), J.apart _ (List.mem_cons_self ..)⟩
          · obtain ⟨⟨o, es, ep, e, d, kd⟩, hP⟩ := K.upOk L hL
            obtain ⟨o', e', d'⟩ := J.base.data e
            refine ⟨⟨o', es, ep, e', d'.trans d, kd⟩, fun q => (by rw [q, h0] at e; cases e), fun o h => ?_⟩
            rcases J.src L o h with q | q
            · exact hP o q
            · rw [e] at q; cases q
        obtain ⟨⟨o, es, ep, e, d, kd⟩, hne, hP⟩ := hLs
        refine ⟨⟨o, es, ep, (without_other _ hne).trans e, d, kd⟩, fun o' h => ?_⟩
        rcases h with h | ⟨h, v, hv⟩
        · exact hP o' h
        · rw [e] at h; cases h; rw [d] at hv; cases hv }
  have hown : ∀ a ∈ own (cxComp c scope H2.objs.size (without s.heap I) Pc) [s.heap.objs.size], s.heap.get? a = none := fun a ha => by
    have : a ∈ [H2.objs.size, s.heap.objs.size] := ha
    simp at this
    rcases this with rfl | rfl
    · exact hCn
    · exact hDn
  have hown' : ∀ a ∈ own (cxComp c scope H2.objs.size (without s.heap I) Pc) [s.heap.objs.size], (without s.heap I).get? a = none := fun a ha => by
    cases q : (without s.heap I).get? a with
    | none => rfl
    | some o => have := (without_some q).2; rw [hown a ha] at this; cases this
  have J' : Inv (cxComp c scope H2.objs.size (without s.heap I) Pc) σ₀ [.lst []] Pc [s.heap.objs.size] { s with heap := h₁, toks := s.toks + ([] : List (Str × Value)).length } := by
    refine ⟨fun a o h => h.elim (fun h => old _ _ (J.fz _ _ h)) fun h => old _ _ h.1, Kp.of (fun b o e => old b o (without_some e).2), fun _ _ h => .inl h, J.gens, J.os, ⟨_, hns₁⟩, fun hr => (by cases hr), fun y d hy => ?_, rfl, fun k a m h1 h2 => ?_, ?_, fun a ha o hP => ?_, hown', fun a ha => (by cases ha)⟩
    · obtain ⟨h1, h2, h3, h4⟩ := hsub _ hy
      obtain ⟨v, H, r⟩ := J.vars _ _ h1
      refine ⟨v, .inr (.inr ⟨lookup_relabel_free (env := c.env) h4, ?_⟩), (r.pure h2).mono (fun _ _ h => .inl h) (List.prefix_refl _)⟩
      have hm := mem_of_lookup h4
      have fin : ∀ ca, c.env.cells.lookup y = some ca → (closeFrom c.env.cells scope.names []).lookup y = some ca := fun ca e => by
        obtain ⟨a, ha⟩ := closeFrom_mem (cells := c.env.cells) scope.names [] y hm
        cases hlk : (closeFrom c.env.cells scope.names []).lookup y with
        | none =>
          have := (List.lookup_eq_none_iff.mp hlk) _ ha
          simp at this
        | some b =>
          have := closeFrom_sound scope.names [] hcl (fun p hp => by cases hp) _ (mem_of_lookup hlk)
          rw [e] at this; exact this.symm
      rcases H with ⟨q, _⟩ | ⟨_, ca, e, _, o, ho, hd⟩ | ⟨_, ca, o, e, hP, hd⟩
      · rcases h3 with h3 | h3 <;> · rw [h3] at q; cases q
      · exact ⟨ca, o, fin ca e, .inr ⟨ho, _, hd⟩, hd⟩
      · exact ⟨ca, o, fin ca e, .inl hP, hd⟩
    · cases k with
      | zero => cases h1; cases h2; exact ⟨_, hacc, .lst rfl rfl rfl .nil⟩
      | succ k => simp at h1
    · show [H2.objs.size, s.heap.objs.size].Nodup
      simp; exact fun e => hDC e.symm
    · have hn := hown a ha
      rcases hP with hP | hP
      · have := J.fz _ _ hP; rw [hn] at this; cases this
      · rw [hn] at hP; cases hP.1
  obtain ⟨⟨fp, Pv, St, W, hst, hgo, hfp, hval, hs0⟩⟩ := S
  rw [List.length_map] at W
  have hs1 : St 0 h₁ := W.frame _ _ _ hs0 fun b _ o e => old b o e
  obtain ⟨oI, hoI, _⟩ := hIo
  have hIlt : I < s.heap.objs.size := Heap.lt_size hoI
  have hI' : I ∉ own (cxComp c scope H2.objs.size (without s.heap I) Pc) [s.heap.objs.size] := fun h => by
    have := hown I h; rw [hoI] at this; cases this
  have main : ∀ s₃ : Shared, s₃ = { s with heap := h₁, toks := s.toks + ([] : List (Str × Value)).length } →
      codeAny (model c.prog c.w) c.A (.compLoop (.ListComp elt [⟨.Name x px, iter, ifs, 0⟩] scope pos) 0 (.ref I) (.ref s.heap.objs.size) (cxComp c scope H2.objs.size (without s.heap I) Pc).env) (RR (.ref s.heap.objs.size) H2.objs.size) s₃ := by
    rintro s₃ rfl
    refine compLoop_walk (P := Pc) (σ₀ := σ₀) (g := g) (f := f) K' W hst (fun b hb => (hfp b hb).imp id fun ⟨o, h⟩ => ⟨o, .inl h⟩) (fun i v d h1 h2 => (hval i v d h1 h2).mono (fun _ _ h => .inl h) (List.prefix_refl _))
      (without_self _ _) (lookup_relabel_local (env := c.env) hx) hl (fun s' acc P'' lP Jn hacc' hPI'' => ?_) J' hs1 hI' (fun o h => ?_) (helt _ rfl rfl rfl rfl K') (fun φ' hp hl => ?_)
    · obtain ⟨m, hm⟩ := Jn.ns
      have hCown : H2.objs.size ∈ own (cxComp c scope H2.objs.size (without s.heap I) Pc) [s.heap.objs.size] := List.mem_cons_self ..
      have hDown : s.heap.objs.size ∈ own (cxComp c scope H2.objs.size (without s.heap I) Pc) [s.heap.objs.size] := List.mem_append_right _ (List.mem_cons_self ..)
      obtain ⟨f1, f2, f3⟩ := fresh_at J hCn
      obtain ⟨oD, hoD, hmD⟩ := Jn.mu 0 _ _ rfl rfl
      have J0 := J.other (h' := without s.heap I) (a := I) (fun b o hb e => by rw [without_other _ hb]; exact e) hI hPI h0 s.toks
      have hnone : ∀ {a}, s.heap.get? a = none → (without s.heap I).get? a = none := fun {a} h => by
        cases q : (without s.heap I).get? a with
        | none => rfl
        | some o => have := (without_some q).2; rw [h] at this; cases this
      let P3 : Facts := fun a o => (P a o ∨ (P'' a o ∧ (without s.heap I).get? a = none)) ∨ (a = s.heap.objs.size ∧ o = oD)
      have J3 : Inv c σ μ P3 φ s' := J0.growK (l := frs c.A) Jn.gens (Jn.os.trans J0.os.symm) Jn.base (frs_own K) (fun L hL => let ⟨⟨o, _, _, e, _, _⟩, _⟩ := K.upOk L hL; ⟨o, e⟩) (fun a o h => .inl (.inl h))
        (fun a o h => by
          rcases h with (h | h) | ⟨rfl, rfl⟩
          · exact Jn.fz _ _ (lP _ _ (.inl h))
          · exact Jn.fz _ _ h.1
          · exact hoD)
        (fun a o h => by
          rcases h with (h | h) | ⟨rfl, rfl⟩
          · exact .inl h
          · exact .inr h.2
          · exact .inr (hnone hDn))
      have hsub' : ∀ a o, P'' a o → (∃ vs n, o.data = .seq vs n) → P3 a o := fun a o h ⟨vs, n, hd⟩ => by
        rcases Jn.src a o h with (h1 | ⟨_, v, h1⟩) | h1
        · exact .inl (.inl h1)
        · rw [hd] at h1; cases h1
        · exact .inl (.inr ⟨h, h1⟩)
      refine hRR _ _ s' P3 m (fun a o h => .inl (.inl h)) J3 ?_ hm f1 (fun o h => ?_) f3
      · cases hmD with
        | lst hc _ hd hrs =>
          rw [hacc'] at hrs
          exact .lst (.inr ⟨rfl, rfl⟩) hc hd ((hrs.pure (pure_filterMap l hpure)).sub hsub')
      · rcases h with (h | h) | ⟨h, _⟩
        · exact f2 o h
        · exact Jn.apart _ hCown _ h.1
        · exact hDC h.symm
    · rcases h with h | ⟨h, v, hv⟩
      · exact hPI o h
      · rw [hoI] at h; cases h
        obtain ⟨o2, h2, h3⟩ := hst _ _ hs0
        rw [hoI] at h2; cases h2
        exact h3.cell _ hv
    · obtain ⟨t, rfl⟩ := hp
      have : t = [] := List.length_eq_zero_iff.mp (by simpa using hl)
      simp [this]
  exact codeAny_compStart_list (main _ rfl) (W.self 0 _ _ _ hs1 (main _ rfl))

noncomputable def swS1 (sc : Scope) (value : Expr) (t : Option Expr) (line : Nat) : Sem Bool := swapsWith value t line { scope := sc, locals := 0, globals := 0, cells := [] }
theorem swS1_eq (env : Env) (value : Expr) (t : Option Expr) (line : Nat) : swapsWith value t line env = swS1 env.scope value t line := rfl
theorem free_of {scope : Scope} {σ₀ : List (Str × D)} {xs : List Str} (hxs : σ₀.map (·.1) = xs) (h : (scope.names.all fun y => !(y.2 == .free) || xs.contains y.1) = true) : ∀ y ∈ scope.names, y.2 = .free → ∃ d, (y.1, d) ∈ σ₀ := fun y hy hk => by
  have := List.all_eq_true.mp h y hy
  rw [hk] at this
  have hm : y.1 ∈ xs := by simpa using this
  rw [← hxs] at hm
  obtain ⟨p, hp, e⟩ := List.mem_map.mp hm
  exact ⟨p.2, by rw [← e]; exact hp⟩
theorem subc_nil {scope : Scope} : ∀ p ∈ ([] : List (Str × D)), p ∈ σ ∧ D.pure p.2 = true ∧ (c.env.kindOf p.1 = some .cell ∨ c.env.kindOf p.1 = some .free) ∧ scope.names.lookup p.1 = some .free := fun _ h => by cases h
theorem subc_cons {scope : Scope} {x : Str} {d : D} {r : List (Str × D)} (h1 : (x, d) ∈ σ) (h2 : D.pure d = true) (h3 : c.env.kindOf x = some .cell ∨ c.env.kindOf x = some .free) (h4 : scope.names.lookup x = some .free)
    (h : ∀ p ∈ r, p ∈ σ ∧ D.pure p.2 = true ∧ (c.env.kindOf p.1 = some .cell ∨ c.env.kindOf p.1 = some .free) ∧ scope.names.lookup p.1 = some .free) :
    ∀ p ∈ (x, d) :: r, p ∈ σ ∧ D.pure p.2 = true ∧ (c.env.kindOf p.1 = some .cell ∨ c.env.kindOf p.1 = some .free) ∧ scope.names.lookup p.1 = some .free := fun p hp => by
  rcases List.mem_cons.mp hp with rfl | hp
  · exact ⟨h1, h2, h3, h4⟩
  · exact h p hp

/-- [elt for x in iter (if t)] -/
theorem ev_comp (K : c.Ok mg mb) {sc scope : Scope} {x : Str} {px : Pos} {elt iter : Expr} {ifs : List Expr} {pos : Pos} (hsc : c.env.scope = sc) (σ₀ : List (Str × D))
    (hsub : ∀ p ∈ σ₀, p ∈ σ ∧ D.pure p.2 = true ∧ (c.env.kindOf p.1 = some .cell ∨ c.env.kindOf p.1 = some .free) ∧ scope.names.lookup p.1 = some .free)
    (xs : List Str) (hxs : σ₀.map (·.1) = xs) (hfr : (scope.names.all fun y => !(y.2 == .free) || xs.contains y.1) = true)
    (hcell : ∀ y ∈ scope.names, y.2 ≠ .cell) (hkind : scope.kind = .function) (hnames : ∀ y ∈ scope.names, y.2 = .local → scope.names.lookup y.1 = some .local) (hx : scope.names.lookup x = some .local) (hnm : plainNames scope = true)
    (h : ItT c σ μ (.Name x px) (eval iter c.env) (fun ds μ₁ => ∃ (α : Type) (l : List α) (g : α → D) (f : α → Option D), ds = l.map g ∧ l.length ≤ 1000 ∧ (∀ a ∈ l, ∀ e, f a = some e → D.pure e = true) ∧
      (∀ c' : Cx, c'.prog = c.prog → c'.w = c.w → c'.env.scope = relabelS scope sc → c'.n = c.n → c'.Ok mg mb → ∀ a ∈ l, ∀ acc, EltT c' σ₀ x px ifs elt acc (g a) (f a)) ∧ Q (.lst (l.filterMap f)) μ₁))
    (hs : ∀ x, foldedSetIterable iter c.env x = pure x := by intro _; rfl) :
    EvT c σ μ (eval (.ListComp elt [⟨.Name x px, iter, ifs, 0⟩] scope pos) c.env) Q :=
  fun P φ s I => by
    have hfree := free_of hxs hfr
    have hcl : ∀ y ∈ scope.names, y.2 = .free → ∃ ca, c.env.cells.lookup y.1 = some ca := fun y hy hk => by
      obtain ⟨d, hd⟩ := hfree y hy hk
      obtain ⟨h1, _, h3, _⟩ := hsub _ hd
      obtain ⟨v, H, r⟩ := I.vars _ _ h1
      rcases H with ⟨q, _⟩ | ⟨_, ca, e, _⟩ | ⟨_, ca, o, e, _⟩
      · rcases h3 with h3 | h3 <;> · rw [h3] at q; cases q
      · exact ⟨ca, e⟩
      · exact ⟨ca, e⟩
    rw [eval_ListComp]
    refine wpAny_comprehension_free (use := none) rfl hs (closureFor_eq hcl) hkind hnames (wpAny_mono (h P φ s I) (fun xv s₁ h₁ => wpAny_mono h₁ (fun it s₂ h₂ => ?_) fun _ _ e => e.elim) fun _ _ e => e.elim)
    obtain ⟨It, ds, μ₁, P₁, φ₁, rfl, l₁, f₁, I₂, S, n1, n2, n3, α, l, g, f, rfl, hl, hp, helt, q⟩ := h₂
    have hIo : ∃ o, s₂.heap.get? It = some o ∧ Inert o := by obtain ⟨⟨_, _, _, _, hst, _, _, _, hs0⟩⟩ := S; exact hst _ _ hs0
    refine comp_walk (RR := fun acc C => compPost (model c.prog c.w) c.A (fun _ _ => False) none _ acc C) K
      (fun p hp => let ⟨a, b⟩ := hsub p hp; ⟨a, b⟩) hfree hcell hkind hx hnm I₂ S n1 n2 n3 hIo hl hp (fun c' h1 h2 h3 h4 K' => helt c' h1 h2 (h3.trans (relabel_eq hsc)) h4 K') (fun Dd C s' P' m l₂ J r hm a1 a2 a3 => ?_)
    exact ⟨m, hm, fun h' hs' => ⟨_, μ₁, P', φ₁, l₁.trans l₂, f₁, r, J.other (h' := h') hs'.extBut a1 a2 a3 s'.toks, q⟩⟩

theorem inert_ns {h : Heap} {C : Addr} {m : Str → Option Value} (hm : h.Ns C m) : ∃ o, h.get? C = some o ∧ Inert o := by
  obtain ⟨o, es, ep, e1, e2, _⟩ := hm
  exact ⟨o, e1, ⟨fun _ _ e => (by rw [e2] at e; cases e), fun _ e => (by rw [e2] at e; cases e)⟩⟩

/-- y = [elt for x in iter (if t)] on one line -/
theorem tr_comp (K : c.Ok mg mb) {sc scope : Scope} {x y : Str} {px py : Pos} {elt iter : Expr} {ifs : List Expr} {pos spos : Pos} {Q : Fl → List (Str × D) → List MO → Prop} (hsc : c.env.scope = sc) (hy : c.st y) (σ₀ : List (Str × D))
    (hsub : ∀ p ∈ σ₀, p ∈ σ ∧ D.pure p.2 = true ∧ (c.env.kindOf p.1 = some .cell ∨ c.env.kindOf p.1 = some .free) ∧ scope.names.lookup p.1 = some .free)
    (xs : List Str) (hxs : σ₀.map (·.1) = xs) (hfr : (scope.names.all fun y => !(y.2 == .free) || xs.contains y.1) = true)
    (hcell : ∀ y ∈ scope.names, y.2 ≠ .cell) (hkind : scope.kind = .function) (hnames : ∀ y ∈ scope.names, y.2 = .local → scope.names.lookup y.1 = some .local) (hx : scope.names.lookup x = some .local) (hnm : plainNames scope = true)
    (h : ItT c σ μ (.Name x px) (eval iter c.env) (fun ds μ₁ => ∃ (α : Type) (l : List α) (g : α → D) (f : α → Option D), ds = l.map g ∧ l.length ≤ 1000 ∧ (∀ a ∈ l, ∀ e, f a = some e → D.pure e = true) ∧
      (∀ c' : Cx, c'.prog = c.prog → c'.w = c.w → c'.env.scope = relabelS scope sc → c'.n = c.n → c'.Ok mg mb → ∀ a ∈ l, ∀ acc, EltT c' σ₀ x px ifs elt acc (g a) (f a)) ∧ ∃ σ', Upd σ y (.lst (l.filterMap f)) σ' ∧ Q .next σ' μ₁))
    (hsw : swS1 sc (.ListComp elt [⟨.Name x px, iter, ifs, 0⟩] scope pos) (some (.Name y py)) spos.line = pure true)
    (hs : ∀ x, foldedSetIterable iter c.env x = pure x := by intro _; rfl) :
    TrT c σ μ (exec (.Assign [.Name y py] (.ListComp elt [⟨.Name x px, iter, ifs, 0⟩] scope pos) spos) c.env) Q :=
  fun P φ s I => by
    have hfree := free_of hxs hfr
    have hcl : ∀ y ∈ scope.names, y.2 = .free → ∃ ca, c.env.cells.lookup y.1 = some ca := fun y hy hk => by
      obtain ⟨d, hd⟩ := hfree y hy hk
      obtain ⟨h1, _, h3, _⟩ := hsub _ hd
      obtain ⟨v, H, r⟩ := I.vars _ _ h1
      rcases H with ⟨q, _⟩ | ⟨_, ca, e, _⟩ | ⟨_, ca, o, e, _⟩
      · rcases h3 with h3 | h3 <;> · rw [h3] at q; cases q
      · exact ⟨ca, e⟩
      · exact ⟨ca, e⟩
    rw [exec_Assign_Name_used _ _ _ _ ((swS1_eq _ _ _ _).trans (hsc ▸ hsw))]
    refine wpAny_bind (wpAny_standAt (wpAny_bind ?_))
    show wpAny _ c.A (do let _ ← comprehension (.ListComp elt [⟨.Name x px, iter, ifs, 0⟩] scope pos) scope c.env _ (newList []) false (eval iter c.env) (some (assign (.Name y py) c.env))) _ _ s
    refine wpAny_bind (wpAny_mono (wpAny_comprehension_free (use := some (assign (.Name y py) c.env)) (Q := fun _ s' => PF c P Q .next s') (E := fun _ _ => False) rfl hs (closureFor_eq hcl) hkind hnames
      (wpAny_mono (h P φ s I) (fun xv s₁ h₁ => wpAny_mono h₁ (fun it s₂ h₂ => ?_) fun _ _ e => e.elim) fun _ _ e => e.elim)) (fun _ s' hq => wpAny_pure (wpAny_pure hq)) fun _ _ e => e.elim)
    obtain ⟨It, ds, μ₁, P₁, φ₁, rfl, l₁, f₁, I₂, S, n1, n2, n3, α, l, g, f, rfl, hl, hp, helt, σ', hu, q⟩ := h₂
    have hIo : ∃ o, s₂.heap.get? It = some o ∧ Inert o := by obtain ⟨⟨_, _, _, _, hst, _, _, _, hs0⟩⟩ := S; exact hst _ _ hs0
    refine comp_walk (RR := fun acc C => compPost (model c.prog c.w) c.A (fun _ _ => False) (some (assign (.Name y py) c.env)) _ acc C) K
      (fun p hp => let ⟨a, b⟩ := hsub p hp; ⟨a, b⟩) hfree hcell hkind hx hnm I₂ S n1 n2 n3 hIo hl hp (fun c' h1 h2 h3 h4 K' => helt c' h1 h2 (h3.trans (relabel_eq hsc)) h4 K') (fun Dd C s' P' m l₂ J r hm a1 a2 a3 => ?_)
    obtain ⟨oC, hoC, hin⟩ := inert_ns hm
    have J1 := J.learn hoC a1 a3
    show wpAny _ c.A (assign (.Name y py) c.env (.ref Dd)) _ _ _
    refine wpAny_assign_Name (store_ok K.toOkW J1 hy hu (r.mono (fun _ _ h => .inl h) (List.prefix_refl _)) fun s₃ J3 => ?_)
    have hC3 : s₃.heap.get? C = some oC := J3.fz _ _ (.inr ⟨rfl, rfl⟩)
    refine ⟨m, hm.at' fun o e => (by rw [hoC] at e; cases e; exact hC3), fun h' hs' => ?_⟩
    have J4 := J3.retract (a := C) (fun o h => by have := J3.fz _ _ h; rw [hC3] at this; cases this; exact hin) a3
    have J5 := J4.other (h' := h') hs'.extBut a1 (fun o h => h.2 rfl) a3 s₃.toks
    exact ⟨.next, σ', μ₁, _, φ₁, fun a o h => ⟨.inl (l₂ _ _ (l₁ _ _ h)), fun e => a2 o (e ▸ l₂ _ _ (l₁ _ _ h))⟩, .next, J5, q⟩
end
end -- QComp2

section -- QOps2
open PySem.SeqAt

/-- data that may be compared, n deep -/
noncomputable def D.eqk : Nat → D → Bool
  | _, .none | _, .bool _ | _, .int _ | _, .str _ | _, .opq _ => true
  | n + 1, .lst l => l.all (D.eqk n)
  | _, _ => false

theorem eqk_lst {n : Nat} {l : List D} (h : D.eqk n (.lst l) = true) : ∃ m, n = m + 1 ∧ ∀ d ∈ l, D.eqk m d = true := by
  cases n with
  | zero => simp [D.eqk] at h
  | succ m => exact ⟨m, rfl, fun d hd => by rw [D.eqk] at h; exact List.all_eq_true.mp h d hd⟩

section
variable {c : Cx} {σ σ' : List (Str × D)} {μ : List MO} {P : Facts} {φ : List Addr} {s : Shared} {mg mb : Str → Option Value} {Q : D → List MO → Prop}

theorem all_true (n : Nat) : ((List.range n).all fun _ => true) = true := by rw [List.all_eq_true]; intro _ _; rfl
theorem Rs.get2 {vs : Array Value} {ds : List D} (h : Rs P φ vs.toList ds) {j : Nat} (hj : j < vs.size) : ∃ d, d ∈ ds ∧ ds[j]? = some d ∧ R P φ vs[j] d := by
  have hl := h.length
  have hj' : j < ds.length := by rw [← hl]; simpa using hj
  obtain ⟨v, hv, r⟩ := h.get (List.getElem?_eq_getElem hj')
  have : v = vs[j] := by
    rw [List.getElem?_eq_getElem (by simpa using hj)] at hv
    simpa using hv.symm
  subst this
  exact ⟨_, List.getElem_mem hj', List.getElem?_eq_getElem hj', r⟩

/-- equal data compare equal -/
theorem eq_same (hf : ∀ a o, P a o → s.heap.get? a = some o) : ∀ (n : Nat) (d : D), D.eqk n d = true → ∀ (A : Around) (v w : Value), A.units + n < cLine → R P φ v d → R P φ w d → EqAt A s v w true := by
  intro n
  induction n with
  | zero =>
    intro d h A v w hu r1 r2
    cases r1 with
    | none => (first | obtain rfl := r2.inv | obtain ⟨_, rfl⟩ := r2.inv); exact EqAt.same _
    | bool b => (first | obtain rfl := r2.inv | obtain ⟨_, rfl⟩ := r2.inv); exact EqAt.same _
    | int i t => obtain ⟨u, rfl⟩ := r2.inv; have := (MeetsSeq.EqGives.int i i t u).at A s; rwa [beq_self_eq_true] at this
    | str x t => obtain ⟨u, rfl⟩ := r2.inv; have := (eqGives_str x x t u).at A s; rwa [beq_self_eq_true] at this
    | opq v => (first | obtain rfl := r2.inv | obtain ⟨_, rfl⟩ := r2.inv); exact EqAt.same _
    | tup => simp [D.eqk] at h
    | lst => simp [D.eqk] at h
    | ref => simp [D.eqk] at h
  | succ n ih =>
    intro d h A v w hu r1 r2
    cases r1 with
    | none => (first | obtain rfl := r2.inv | obtain ⟨_, rfl⟩ := r2.inv); exact EqAt.same _
    | bool b => (first | obtain rfl := r2.inv | obtain ⟨_, rfl⟩ := r2.inv); exact EqAt.same _
    | int i t => obtain ⟨u, rfl⟩ := r2.inv; have := (MeetsSeq.EqGives.int i i t u).at A s; rwa [beq_self_eq_true] at this
    | str x t => obtain ⟨u, rfl⟩ := r2.inv; have := (eqGives_str x x t u).at A s; rwa [beq_self_eq_true] at this
    | opq v => (first | obtain rfl := r2.inv | obtain ⟨_, rfl⟩ := r2.inv); exact EqAt.same _
    | tup => simp [D.eqk] at h
    | ref => simp [D.eqk] at h
    | @lst a o vs k ds hP hc hdat hrs =>
      obtain ⟨b, o2, ws, k2, rfl, hP2, hc2, hdat2, hrs2⟩ := r2.inv
      by_cases hab : a = b
      · subst hab; exact EqAt.same _
      · rw [D.eqk] at h
        have hall := List.all_eq_true.mp h
        have hsz : vs.size = ws.size := by have h1 := hrs.length; have h2 := hrs2.length; simp at h1 h2; omega
        have key := RcAt.lists (A := A) (s := s) (e := fun _ => true) ⟨o, hf _ _ hP, hc, k, hdat⟩ ⟨o2, hf _ _ hP2, hc2, k2, hdat2⟩ hsz (by omega) fun j h1 h2 => by
          obtain ⟨d1, m1, e1, q1⟩ := hrs.get2 h1
          obtain ⟨d2, m2, e2, q2⟩ := hrs2.get2 h2
          rw [e1] at e2; cases e2
          exact ih d1 (hall d1 m1) A.in1 _ _ (by show A.units + 1 + n < cLine; omega) q1 q2
        rw [all_true] at key
        exact EqAt.of_refs hab key

theorem op_eq_self {l : List D} {n : Nat} (hn : D.eqk n (.lst l) = true) (hu : c.A.units + n < 9900) (h : Q (.bool true) μ) : OpT c σ μ [.lst l, .lst l] (op2 (compareOp .Eq)) Q :=
  op2_of fun P φ s v w I r1 r2 => by
    obtain ⟨m, rfl, hall⟩ := eqk_lst hn
    obtain ⟨a, o, vs, k, rfl, hP, hc, hdat, hrs⟩ := r1.inv
    obtain ⟨b, o2, ws, k2, rfl, hP2, hc2, hdat2, hrs2⟩ := r2.inv
    have hsz : vs.size = ws.size := by have h1 := hrs.length; have h2 := hrs2.length; simp at h1 h2; omega
    refine eq_listAt (e := fun _ => true) ⟨o, I.fz _ _ hP, hc, k, hdat⟩ ⟨o2, I.fz _ _ hP2, hc2, k2, hdat2⟩ hsz (by show c.A.units < 9900; omega) (fun j h1 h2 => ?_) (by rw [all_true]; exact fin_same I (.bool _) h)
    obtain ⟨d1, m1, e1, q1⟩ := hrs.get2 h1
    obtain ⟨d2, m2, e2, q2⟩ := hrs2.get2 h2
    rw [e1] at e2; cases e2
    exact eq_same I.fz m d1 (hall d1 m1) _ _ _ (by show c.A.units + 1 + m < 9900; omega) q1 q2
theorem op_ne_self {l : List D} {n : Nat} (hn : D.eqk n (.lst l) = true) (hu : c.A.units + n < 9900) (h : Q (.bool false) μ) : OpT c σ μ [.lst l, .lst l] (op2 (compareOp .NotEq)) Q :=
  op2_of fun P φ s v w I r1 r2 => by
    obtain ⟨m, rfl, hall⟩ := eqk_lst hn
    obtain ⟨a, o, vs, k, rfl, hP, hc, hdat, hrs⟩ := r1.inv
    obtain ⟨b, o2, ws, k2, rfl, hP2, hc2, hdat2, hrs2⟩ := r2.inv
    have hsz : vs.size = ws.size := by have h1 := hrs.length; have h2 := hrs2.length; simp at h1 h2; omega
    have key := RcNeAt.lists (A := c.A) (s := s) (e := fun _ => true) ⟨o, I.fz _ _ hP, hc, k, hdat⟩ ⟨o2, I.fz _ _ hP2, hc2, k2, hdat2⟩ hsz (by show c.A.units < 9900; omega) (fun j h1 h2 => by
      obtain ⟨d1, m1, e1, q1⟩ := hrs.get2 h1
      obtain ⟨d2, m2, e2, q2⟩ := hrs2.get2 h2
      rw [e1] at e2; cases e2
      exact eq_same I.fz m d1 (hall d1 m1) _ _ _ (by show c.A.units + 1 + m < 9900; omega) q1 q2)
    rw [all_true] at key
    exact key c.prog c.w _ _ (fin_same I (.bool _) h)

/-! ### in a tuple -/
noncomputable def isI (i : Int) : Value → Bool
  | .int k _ => k == i
  | _ => false
noncomputable def isS (x : Str) : Value → Bool
  | .str y _ => y == x
  | _ => false
theorem any_ints {i : Int} : ∀ {vs : List Value} {ns : List Int}, Rs P φ vs (ns.map .int) → vs.any (isI i) = ns.any (· == i)
  | _, [], .nil => rfl
  | _, n :: ns, .cons r rs => by
    (first | obtain rfl := r.inv | obtain ⟨_, rfl⟩ := r.inv)
    rw [List.any_cons, List.any_cons, any_ints rs]
    rfl
theorem any_strs {x : Str} : ∀ {vs : List Value} {ns : List Str}, Rs P φ vs (ns.map .str) → vs.any (isS x) = ns.any (· == x)
  | _, [], .nil => rfl
  | _, n :: ns, .cons r rs => by
    (first | obtain rfl := r.inv | obtain ⟨_, rfl⟩ := r.inv)
    rw [List.any_cons, List.any_cons, any_strs rs]
    rfl
theorem mem_ints {v : Value} : ∀ {vs : List Value} {ns : List Int}, Rs P φ vs (ns.map .int) → v ∈ vs → ∃ k t, v = .int k t
  | _, [], .nil, h => by cases h
  | _, n :: ns, .cons r rs, h => by
    (first | obtain rfl := r.inv | obtain ⟨_, rfl⟩ := r.inv)
    rcases List.mem_cons.mp h with rfl | h
    · exact ⟨_, _, rfl⟩
    · exact mem_ints rs h
theorem mem_strs {v : Value} : ∀ {vs : List Value} {ns : List Str}, Rs P φ vs (ns.map .str) → v ∈ vs → ∃ k t, v = .str k t
  | _, [], .nil, h => by cases h
  | _, n :: ns, .cons r rs, h => by
    (first | obtain rfl := r.inv | obtain ⟨_, rfl⟩ := r.inv)
    rcases List.mem_cons.mp h with rfl | h
    · exact ⟨_, _, rfl⟩
    · exact mem_strs rs h
theorem op_in_ints {i : Int} (ns : List Int) (h : Q (.bool (ns.any (· == i))) μ) : OpT c σ μ [.int i, .tup (ns.map .int)] (op2 (compareOp .In)) Q :=
  op2_of fun P φ s v w I r1 r2 => by
    obtain ⟨t, rfl⟩ := r1.inv
    obtain ⟨a, o, vs, k, rfl, hP, hc, hdat, hrs⟩ := r2.inv
    refine in_tupleAt (isI i) ⟨o, I.fz _ _ hP, hc, k, hdat⟩ (fun y hy => ?_) ?_
    · obtain ⟨k, t', rfl⟩ := mem_ints hrs (by simpa using hy)
      exact (MeetsSeq.EqGives.int k i t' t).at _ _
    · rw [← Array.any_toList, any_ints hrs]; exact fin_same I (.bool _) h
theorem op_in_strs {x : Str} (ns : List Str) (h : Q (.bool (ns.any (· == x))) μ) : OpT c σ μ [.str x, .tup (ns.map .str)] (op2 (compareOp .In)) Q :=
  op2_of fun P φ s v w I r1 r2 => by
    obtain ⟨t, rfl⟩ := r1.inv
    obtain ⟨a, o, vs, k, rfl, hP, hc, hdat, hrs⟩ := r2.inv
    refine in_tupleAt (isS x) ⟨o, I.fz _ _ hP, hc, k, hdat⟩ (fun y hy => ?_) ?_
    · obtain ⟨k, t', rfl⟩ := mem_strs hrs (by simpa using hy)
      exact (eqGives_str k x t' t).at _ _
    · rw [← Array.any_toList, any_strs hrs]; exact fin_same I (.bool _) h

/-! ### is -/
theorem op_is_opq {a : Addr} (h : Q (.bool true) μ) : OpT c σ μ [.opq (.ref a), .opq (.ref a)] (op2 (compareOp .Is)) Q :=
  op2_of fun P φ s v w I r1 r2 => by (first | obtain rfl := r1.inv | obtain ⟨_, rfl⟩ := r1.inv); (first | obtain rfl := r2.inv | obtain ⟨_, rfl⟩ := r2.inv); exact wpAny_is_ref_self (fin_same I (.bool _) h)
theorem op_isnot_opq {a : Addr} (h : Q (.bool false) μ) : OpT c σ μ [.opq (.ref a), .opq (.ref a)] (op2 (compareOp .IsNot)) Q :=
  op2_of fun P φ s v w I r1 r2 => by (first | obtain rfl := r1.inv | obtain ⟨_, rfl⟩ := r1.inv); (first | obtain rfl := r2.inv | obtain ⟨_, rfl⟩ := r2.inv); exact wpAny_isNot_ref_self (fin_same I (.bool _) h)
theorem op_is_str {a : Addr} {x : Str} (h : Q (.bool false) μ) : OpT c σ μ [.str x, .opq (.ref a)] (op2 (compareOp .Is)) Q :=
  op2_of fun P φ s v w I r1 r2 => by (first | obtain rfl := r1.inv | obtain ⟨_, rfl⟩ := r1.inv); (first | obtain rfl := r2.inv | obtain ⟨_, rfl⟩ := r2.inv); exact wpAny_is_other rfl (fun e => by cases e) (fin_same I (.bool _) h)
theorem op_isnot_str {a : Addr} {x : Str} (h : Q (.bool true) μ) : OpT c σ μ [.str x, .opq (.ref a)] (op2 (compareOp .IsNot)) Q :=
  op2_of fun P φ s v w I r1 r2 => by (first | obtain rfl := r1.inv | obtain ⟨_, rfl⟩ := r1.inv); (first | obtain rfl := r2.inv | obtain ⟨_, rfl⟩ := r2.inv); exact wpAny_isNot_other rfl (fun e => by cases e) (fin_same I (.bool _) h)

/-! ### texts -/
theorem op_nins {x y : Str} (h : Q (.bool (Builtin.Str.occurrences x y 0 x.length 1).isEmpty) μ) : OpT c σ μ [.str y, .str x] (op2 (compareOp .NotIn)) Q :=
  op2_of fun P φ s v w I r1 r2 => by
    (first | obtain rfl := r1.inv | obtain ⟨_, rfl⟩ := r1.inv); (first | obtain rfl := r2.inv | obtain ⟨_, rfl⟩ := r2.inv)
    exact notIn_str (by rw [Bool.not_not]; exact fin_same I (.bool _) h)
theorem op_gts {x y : Str} (h : Q (.bool (decide (y.cps.toList < x.cps.toList))) μ) : OpT c σ μ [.str x, .str y] (op2 (compareOp .Gt)) Q :=
  op2_of fun P φ s v w I r1 r2 => by
    (first | obtain rfl := r1.inv | obtain ⟨_, rfl⟩ := r1.inv); (first | obtain rfl := r2.inv | obtain ⟨_, rfl⟩ := r2.inv)
    exact _root_.PySem.P.gt_str (fin_same I (.bool _) h)
theorem op_isinst_str {x : Str} (h : Q (.bool true) μ) : OpT c σ μ [.str x, .opq (.type "str")] (fun vs => call (.builtin "isinstance") vs) Q :=
  fun P φ s vs I rs => by
    (have hx := rs.inv; clear rs; obtain ⟨_, _, rfl, r, rs⟩ := hx)
    (have hx := rs.inv; clear rs; obtain ⟨_, _, rfl, r2, rs⟩ := hx)
    (first | obtain rfl := rs.inv | obtain ⟨_, rfl⟩ := rs.inv); (first | obtain rfl := r.inv | obtain ⟨_, rfl⟩ := r.inv); (first | obtain rfl := r2.inv | obtain ⟨_, rfl⟩ := r2.inv)
    exact IsiPair.str_str (fin_same I (.bool _) h)

/-- e.name(..), e a text -/
noncomputable abbrev kMe2 (c : Cx) (σ : List (Str × D)) (x : Str) (id : String) (Q : KV) : List D → List MO → Prop := fun ds μ₂ => OpT c σ μ₂ (.str x :: ds) (fun vs => call (.builtin id) vs) Q
noncomputable abbrev kMe (c : Cx) (σ : List (Str × D)) (pos : Pos) (args : List Expr) (id : String) (Q : KV) : KV := fun d μ₁ => ∃ x, d = .str x ∧ EvsT c σ μ₁ (spliced (backTo pos (starEach args c.env))) (kMe2 c σ x id Q)
theorem ev_smeth {o e : Expr} {args : List Expr} {name : Str} {id : String} {apos pos : Pos} (slot : Slot "str" name id) (hty : typeOf (.builtin id) = pure (.type "method_descriptor"))
    (h : EvT c σ μ (eval o c.env) (kMe c σ pos (e :: args) id Q))
    (hbase : attributeBase o name c.env (eval o c.env) = eval o c.env) (hst : notStar e = true) (hpl : (backTo pos (starEach args c.env)).any (·.1) = false)
    (hfew : ((backTo pos (starEach (e :: args) c.env)).all (fun x => !x.1) && (backToKw pos (keywordEach [] c.env)).all (fun x => x.1.isSome)
      && decide ((e :: args).length + ([] : List Keyword).length + (if ([] : List Keyword).isEmpty then 0 else 1) < 30)) = true) (hline : (apos.endLine == pos.line) = true) :
    EvT c σ μ (eval (.Call (.Attribute o name apos) (e :: args) [] pos) c.env) Q :=
  fun P φ s I => wpAny_Call_method hbase hfew hline F.plainAttrs_str slot hty
    (h.at I fun v s₁ d μ₁ P₁ φ₁ l₁ f₁ r₁ I₁ ⟨x, hd, q₁⟩ => by
      subst hd
      obtain ⟨t, rfl⟩ := r₁.inv
      refine ⟨typeIs_str _ _ _, fun a ha => (by cases ha), ?_⟩
      refine callWith_method1 (q₁.at I₁ fun vs s₂ ds μ₂ P₂ φ₂ l₂ f₂ r₂ I₂ q₂ => ?_) (star_of hst) hpl
      exact q₂.at (vs := .str x t :: vs) I₂ (.cons (.str _ _) r₂) fun v s' d μ' P' φ' l f r I' q => ⟨d, μ', P', φ', (l₁.trans l₂).trans l, (f₁.trans f₂).trans f, r, I', q⟩)
end
end -- QOps2

section -- QStr
theorem sub_KeyError_Lookup : isSubtype (.type "KeyError") (.type "LookupError") = pure true := by rw [isSubtype_type]; kernel_rfl
noncomputable def mapAt (k : Int) : Option Value := findBy Value.isInt mapEs k
theorem map_of {prog : Program} {w : World} {h : Heap} {a : Addr} (ha : h.get? a = some mapObj) : h.MapOf (intKind prog w) a mapAt := by
  refine ⟨mapObj, mapEs, 24, ha, ⟨rfl, rfl, rfl⟩, rfl, fun e he => ?_, fun k => rfl⟩
  have hl : e ∈ mapKeys.zipIdx.map fun p : Nat × Nat => ({ hash := p.1, key := .int p.1 (338 + 6 * p.2), val := .str ⟨#[92, p.1]⟩ (342 + 6 * p.2) } : DictEntry) := by
    simpa [mapEs] using he
  obtain ⟨p, hp, rfl⟩ := List.mem_map.mp hl
  refine ⟨p.1, by simp [intKind, Value.isInt], ?_⟩
  have hb : p.1 ∈ mapKeys := by
    have := List.mem_zipIdx hp; simp at this; rw [this.2]; exact List.getElem_mem _
  have hall : ∀ k ∈ mapKeys, hashInt (k : Int) = (k : Int) := by decide +kernel
  exact (hall _ hb).symm
theorem map_hit : ∀ c ∈ mapKeys, ∃ t, mapAt (c : Int) = some (.str ⟨#[92, c]⟩ t) := by
  intro c hc
  have : ∀ c ∈ mapKeys, (match mapAt (c : Int) with | some (.str x _) => x == ⟨#[92, c]⟩ | _ => false) = true := by decide +kernel
  have h := this c hc
  revert h
  cases mapAt (c : Int) with
  | none => intro h; cases h
  | some v => cases v <;> intro h <;> first | cases h | (simp at h; subst h; exact ⟨_, rfl⟩)
theorem map_miss {c : Nat} (hc : c ∉ mapKeys) : mapAt (c : Int) = none := by
  unfold mapAt findBy
  rw [Option.map_eq_none_iff, Array.find?_eq_none]
  intro e he
  have hl : e ∈ mapKeys.zipIdx.map fun p : Nat × Nat => ({ hash := p.1, key := .int p.1 (338 + 6 * p.2), val := .str ⟨#[92, p.1]⟩ (342 + 6 * p.2) } : DictEntry) := by
    simpa [mapEs] using he
  obtain ⟨p, hp, rfl⟩ := List.mem_map.mp hl
  have hb : p.1 ∈ mapKeys := by
    have := List.mem_zipIdx hp; simp at this; rw [this.2]; exact List.getElem_mem _
  simp only [Value.isInt]
  intro q
  apply hc
  have : p.1 = c := by
    have : (p.1 : Int) = c := by simpa using q
    omega
  exact this ▸ hb

section
variable {prog : Program} {w : World} {A : Around} {E : Value → Shared → Prop} {h : Heap} {g : Array GenState} {d : Drawn} {t : Nat} {os : OsState} {a : Addr}

theorem lookup_hit {c : Nat} {Q : Builtin.Str.Mapped → Shared → Prop} (ha : h.get? a = some mapObj) (hc : c ∈ mapKeys) (hq : ∀ k, Q (.text ⟨#[92, c]⟩) ⟨h, g, d, k, os⟩) :
    wpAny (model prog w) A (Builtin.Str.tableLookup (.ref a) c) Q E ⟨h, g, d, t, os⟩ := by
  obtain ⟨u, hu⟩ := map_hit c hc
  unfold Builtin.Str.tableLookup
  refine wpAny_bind (wpAny_attempt (wpAny_bind (wpAny_mkInt' ?_)))
  refine wpAny_getItem_of (knd := intKind prog w) (k := (c : Int)) (intKind_is prog w _ _) (map_of ha) hu ?_
  show wpAny _ _ _ _ _ ⟨h, g, d, t + 1 + 1, os⟩
  exact wpAny_bind (wpAny_pure (wpAny_bind (wpAny_pure (wpAny_pure (hq _)))))

theorem lookup_miss {c : Nat} {Q : Builtin.Str.Mapped → Shared → Prop} (hs : (a == sysModules) = false) (hh : A.handled = none) (ha : h.get? a = some mapObj) (hc : c ∉ mapKeys)
    (hq : ∀ h' k, (∀ b o, h.get? b = some o → h'.get? b = some o) → Q .keep ⟨h', g, d, k, os⟩) :
    wpAny (model prog w) A (Builtin.Str.tableLookup (.ref a) c) Q E ⟨h, g, d, t, os⟩ := by
  unfold Builtin.Str.tableLookup
  refine wpAny_bind (wpAny_attempt (wpAny_bind (wpAny_mkInt' ?_)))
  refine wpAny_getItem_missing_of (knd := intKind prog w) (k := (c : Int)) (intKind_is prog w _ _) hs hh (map_of ha) (map_miss hc) fun h' e hx => ?_
  obtain ⟨ob, tt, h1, h2, h3⟩ := hx.there
  dsimp only
  refine wpAny_bind (wpAny_isInstance (T := "KeyError") (U := "LookupError") ⟨ob, h1, h2⟩ sub_KeyError_Lookup ?_)
  exact wpAny_ite_true rfl (wpAny_bind (wpAny_rule (wpAny_pure (hq h' _ hx.keeps))))

theorem for_one {β : Type} {x : Nat} {b : β} {f : Nat → β → Sem (ForInStep β)} : forIn (#[x] : Array Nat) b f = (do match ← f x b with | .done b => pure b | .yield b => pure b) := by
  rw [← Array.forIn_toList]
  simp only [List.forIn_cons, List.forIn_nil]
  rfl
theorem retStr_in {x : Str} {Q : PySem.Fin → Shared → Prop} (hx : x.length ≤ 100) (hq : Q (.done (.ret (.str x t))) ⟨h, g, d, t + 1, os⟩) : wpAny (model prog w) A (retStr x) Q E ⟨h, g, d, t, os⟩ := by
  unfold retStr
  exact wpAny_bind (wpAny_mkStr' (wpAny_pure hq) (by rw [sizeLine_eq]; omega))
theorem translate_in {c : Nat} {u : Tok} {Q : PySem.Fin → Shared → Prop} (hs : (a == sysModules) = false) (hh : A.handled = none) (ha : h.get? a = some mapObj)
    (hm : c ∈ mapKeys → ∀ u k, Q (.done (.ret (.str ⟨#[92, c]⟩ u))) ⟨h, g, d, k, os⟩) (hk : c ∉ mapKeys → ∀ h' u k, (∀ b o, h.get? b = some o → h'.get? b = some o) → Q (.done (.ret (.str ⟨#[c]⟩ u))) ⟨h', g, d, k, os⟩) :
    wpAny (model prog w) A (Builtin.«str.translate» ⟨[.str ⟨#[c]⟩ u, .ref a], []⟩) Q E ⟨h, g, d, t, os⟩ := by
  unfold Builtin.«str.translate»
  refine wpAny_bind (m := Builtin.Str.strOneArg "translate" _) (wpAny_pure ?_)
  dsimp only
  refine wpAny_ite_false rfl ?_
  rw [for_one]
  have hlt : ∀ k ∈ mapKeys, k < 128 := by decide +kernel
  by_cases hf : c < 128
  · have hfa : (#[c].all fun x => decide (x < 128)) = true := by simp [hf]
    rw [hfa]
    dsimp only
    refine wpAny_bind (wpAny_bind ?_)
    refine wpAny_ite_false rfl ?_
    refine wpAny_ite_true rfl ?_
    by_cases hc : c ∈ mapKeys
    · refine wpAny_bind (lookup_hit ha hc fun k => ?_)
      have e1 : ((⟨#[92, c]⟩ : Str).length == 1 && (⟨#[92, c]⟩ : Str).cps.all fun x => decide (x < 128)) = false := by simp [Str.length]
      dsimp only
      rw [e1]
      simp only [Bool.false_eq_true, if_false]
      refine wpAny_bind (wpAny_pure ?_)
      dsimp only
      refine wpAny_bind (wpAny_rule ?_)
      refine wpAny_bind (lookup_hit ha hc fun k => ?_)
      dsimp only
      refine wpAny_pure (wpAny_pure ?_)
      dsimp only
      refine wpAny_ite_false (show decide (Builtin.Str.tooLong 2 = true) = false by decide +kernel) ?_
      have e2 : (List.foldl (fun (acc : Array Nat) (p : Str) => acc ++ p.cps) #[] [(⟨#[92, c]⟩ : Str)].reverse) = #[92, c] := by simp
      rw [e2]
      exact retStr_in (by simp [Str.length]) (hm hc _ _)
    · refine wpAny_bind (lookup_miss hs hh ha hc fun h' k hk' => ?_)
      dsimp only
      refine wpAny_bind (wpAny_pure ?_)
      dsimp only
      refine wpAny_pure (wpAny_pure ?_)
      dsimp only
      refine wpAny_ite_false (show decide (Builtin.Str.tooLong 1 = true) = false by decide +kernel) ?_
      have e2 : (List.foldl (fun (acc : Array Nat) (p : Str) => acc ++ p.cps) #[] [(⟨#[c]⟩ : Str)].reverse) = #[c] := by simp
      rw [e2]
      exact retStr_in (by simp [Str.length]) (hk hc _ _ _ hk')
  · have hfa : (#[c].all fun x => decide (x < 128)) = false := by simp [hf]
    have hc : c ∉ mapKeys := fun q => hf (hlt _ q)
    rw [hfa]
    dsimp only
    refine wpAny_bind (wpAny_bind ?_)
    refine wpAny_ite_false rfl ?_
    refine wpAny_ite_false rfl ?_
    refine wpAny_ite_false rfl ?_
    refine wpAny_bind (lookup_miss hs hh ha hc fun h' k hk' => ?_)
    dsimp only
    refine wpAny_pure (wpAny_pure ?_)
    dsimp only
    refine wpAny_ite_false (show decide (Builtin.Str.tooLong 1 = true) = false by decide +kernel) ?_
    have e2 : (List.foldl (fun (acc : Array Nat) (p : Str) => acc ++ p.cps) #[] [(⟨#[c]⟩ : Str)].reverse) = #[c] := by simp
    rw [e2]
    exact retStr_in (by simp [Str.length]) (hk hc _ _ _ hk')
end
end -- QStr

section -- QOps3
section
variable {c : Cx} {σ σ' : List (Str × D)} {μ : List MO} {P : Facts} {φ : List Addr} {s : Shared} {mg mb : Str → Option Value} {Q : D → List MO → Prop}

/-! ### f-strings -/
theorem ev_joined {e e' : Expr} {rest : List Expr} {pos : Pos} (h : EvT c σ μ (joinParts Str.empty (evalEach (e :: e' :: rest) c.env)) Q) : EvT c σ μ (eval (.JoinedStr (e :: e' :: rest) pos) c.env) Q :=
  fun P φ s I => JoinedStr_many (h P φ s I)
theorem jp_nil {out : Str} (hl : out.length ≤ 100000) (h : Q (.str out) μ) : EvT c σ μ (joinParts out (evalEach [] c.env)) Q :=
  fun P φ s I => joinParts_nil ⟨.str out, μ, P, φ, Le.rfl, List.prefix_refl _, .str _ _, I.tok _, h⟩ (by rw [sizeLine_eq]; omega)
noncomputable abbrev kJp (c : Cx) (σ : List (Str × D)) (out : Str) (rest : List Expr) (Q : KV) : KV := fun d μ₁ => ∃ y, d = .str y ∧ (out ++ y).length ≤ 100000 ∧ EvT c σ μ₁ (joinParts (out ++ y) (evalEach rest c.env)) Q
noncomputable abbrev kFd (Q : KV) : KV := fun d μ₁ => ∃ y, d = .str y ∧ y.length ≤ 100000 ∧ Q (.str y) μ₁
theorem jp_cons {out : Str} {e : Expr} {rest : List Expr} (h : EvT c σ μ (eval e c.env) (kJp c σ out rest Q)) :
    EvT c σ μ (joinParts out (evalEach (e :: rest) c.env)) Q :=
  fun P φ s I => joinParts_cons (h.at I fun v s₁ d μ₁ P₁ φ₁ l₁ f₁ r₁ I₁ ⟨y, hd, hl, q₁⟩ => by
    subst hd; (first | obtain rfl := r₁.inv | obtain ⟨_, rfl⟩ := r₁.inv)
    exact ⟨by rw [sizeLine_eq]; omega, q₁.at I₁ fun v s' d μ' P' φ' l f r I' q => ⟨d, μ', P', φ', l₁.trans l, f₁.trans f, r, I', q⟩⟩)
theorem ev_field {e : Expr} {pos : Pos} (h : EvT c σ μ (eval e c.env) (kFd Q)) : EvT c σ μ (eval (.FormattedValue e (-1) none pos) c.env) Q :=
  fun P φ s I => FormattedValue_plain (h.at I fun v s₁ d μ₁ P₁ φ₁ l₁ f₁ r₁ I₁ ⟨y, hd, hl, q₁⟩ => by
    subst hd; (first | obtain rfl := r₁.inv | obtain ⟨_, rfl⟩ := r₁.inv)
    exact formatField_str (fun t' tk => ⟨.str y, μ₁, P₁, φ₁, l₁, f₁, .str _ _, I₁.tok _, q₁⟩) (by rw [sizeLine_eq]; omega))

/-! ### join -/
noncomputable def cat : List Str → Str
  | [] => Str.ofString ""
  | x :: r => x ++ cat r
theorem strs_of : ∀ {vs : List Value} {ys : List Str}, Rs P φ vs (ys.map .str) → StrsAre vs ys
  | _, [], .nil => .nil
  | _, y :: ys, .cons r rs => by (first | obtain rfl := r.inv | obtain ⟨_, rfl⟩ := r.inv); exact .cons _ _ (strs_of rs)
theorem op_join {x : Str} {k : Nat} {ys : List Str} (hk : μ[k]? = some (.lst (ys.map .str))) (hl : (ys.map (·.length)).sum + ys.length * x.length ≤ 16777216) (h : Q (.str (Txt.join x ys)) μ) :
    OpT c σ μ [.str x, .ref k] (fun vs => call (.builtin "str.join") vs) Q :=
  fun P φ s vs I rs => by
    (have hx := rs.inv; clear rs; obtain ⟨_, _, rfl, r, rs⟩ := hx)
    (have hx := rs.inv; clear rs; obtain ⟨_, _, rfl, r2, rs⟩ := hx)
    (first | obtain rfl := rs.inv | obtain ⟨_, rfl⟩ := rs.inv); (first | obtain rfl := r.inv | obtain ⟨_, rfl⟩ := r.inv)
    obtain ⟨_, rfl, hφ⟩ := r2.inv
    obtain ⟨o, ho, hm⟩ := I.mu _ _ _ hφ hk
    obtain ⟨vs, n, hc, _, hdat, hrs⟩ := hm.inv
    · exact join_list ⟨_, ho, hc, n, hdat⟩ (strs_of hrs) hl fun t' k => ⟨.str _, μ, P, φ, Le.rfl, List.prefix_refl _, .str _ _, I.tok _, h⟩
theorem op_join_l {x : Str} {ys : List Str} (hl : (ys.map (·.length)).sum + ys.length * x.length ≤ 16777216) (h : Q (.str (Txt.join x ys)) μ) :
    OpT c σ μ [.str x, .lst (ys.map .str)] (fun vs => call (.builtin "str.join") vs) Q :=
  fun P φ s vs I rs => by
    (have hx := rs.inv; clear rs; obtain ⟨_, _, rfl, r, rs⟩ := hx)
    (have hx := rs.inv; clear rs; obtain ⟨_, _, rfl, r2, rs⟩ := hx)
    (first | obtain rfl := rs.inv | obtain ⟨_, rfl⟩ := rs.inv); (first | obtain rfl := r.inv | obtain ⟨_, rfl⟩ := r.inv)
    obtain ⟨a, o, vs, n, rfl, hP, hc, hdat, hrs⟩ := r2.inv
    · exact join_list ⟨_, I.fz _ _ hP, hc, n, hdat⟩ (strs_of hrs) hl fun t' k => ⟨.str _, μ, P, φ, Le.rfl, List.prefix_refl _, .str _ _, I.tok _, h⟩

/-! ### replace of what does not occur, find -/
theorem op_replace_none {x y z : Str} (ho : (Builtin.Str.occurrences x y 0 x.length (x.length + 1)).isEmpty = true) (h : Q (.str x) μ) : OpT c σ μ [.str x, .str y, .str z] (fun vs => call (.builtin "str.replace") vs) Q :=
  fun P φ s vs I rs => by
    (have hx := rs.inv; clear rs; obtain ⟨_, _, rfl, r, rs⟩ := hx)
    (have hx := rs.inv; clear rs; obtain ⟨_, _, rfl, r2, rs⟩ := hx)
    (have hx := rs.inv; clear rs; obtain ⟨_, _, rfl, r3, rs⟩ := hx)
    (first | obtain rfl := rs.inv | obtain ⟨_, rfl⟩ := rs.inv); (first | obtain rfl := r.inv | obtain ⟨_, rfl⟩ := r.inv); (first | obtain rfl := r2.inv | obtain ⟨_, rfl⟩ := r2.inv); (first | obtain rfl := r3.inv | obtain ⟨_, rfl⟩ := r3.inv)
    refine call_gives F.slot_str_replace (typeIs_str _ _ _) F.entry_str_replace (F.args_str_replace_3 _ _ _) (gives_str_replace x y z _ _ _ fun hc => ?_) ?_
    · rw [ho] at hc; cases hc
    · rw [ho]; exact fin_same I (.str _ _) h
noncomputable def findIn (x y : Str) (lo hi : Nat) : Int := match Builtin.Str.occurrences x y lo (min hi x.length) 1 with | k :: _ => (k : Int) | [] => -1
theorem gives_find4 (x y : Str) (i j : Nat) (t u v w : Tok) : Gives (Builtin.«str.find» ⟨[.str x t, .str y u, .int i v, .int j w], []⟩) (.int (findIn x y i j)) := by
  have ei : (max 0 (if (i : Int) < 0 then (i : Int) + x.length else i)).toNat = i := by rw [if_neg (by omega)]; omega
  have ej : (max 0 (if (j : Int) < 0 then (j : Int) + x.length else j)).toNat = j := by rw [if_neg (by omega)]; omega
  show Gives (match Builtin.Str.occurrences x y (max 0 (if (i : Int) < 0 then (i : Int) + x.length else i)).toNat (min (max 0 (if (j : Int) < 0 then (j : Int) + x.length else j)).toNat x.length) 1 with | k :: _ => retInt k | [] => (do rule "str.find.not-found"; retInt (-1))) _
  rw [ei, ej]
  unfold findIn
  cases Builtin.Str.occurrences x y i (min j x.length) 1 with
  | nil => exact .rule (.of_eq rfl)
  | cons k _ => exact .of_eq rfl
theorem op_find {x y : Str} {i j : Nat} (h : Q (.int (findIn x y i j)) μ) : OpT c σ μ [.str x, .str y, .int i, .int j] (fun vs => call (.builtin "str.find") vs) Q :=
  fun P φ s vs I rs => by
    (have hx := rs.inv; clear rs; obtain ⟨_, _, rfl, r, rs⟩ := hx)
    (have hx := rs.inv; clear rs; obtain ⟨_, _, rfl, r2, rs⟩ := hx)
    (have hx := rs.inv; clear rs; obtain ⟨_, _, rfl, r3, rs⟩ := hx)
    (have hx := rs.inv; clear rs; obtain ⟨_, _, rfl, r4, rs⟩ := hx)
    (first | obtain rfl := rs.inv | obtain ⟨_, rfl⟩ := rs.inv); (first | obtain rfl := r.inv | obtain ⟨_, rfl⟩ := r.inv); (first | obtain rfl := r2.inv | obtain ⟨_, rfl⟩ := r2.inv); (first | obtain rfl := r3.inv | obtain ⟨_, rfl⟩ := r3.inv); (first | obtain rfl := r4.inv | obtain ⟨_, rfl⟩ := r4.inv)
    exact call_gives F.slot_str_find (typeIs_str _ _ _) F.entry_str_find (F.args_str_find_4 _ _ _ _) (gives_find4 x y i j _ _ _ _) (fin_tok I (.int _ _) h _)

/-! ### translate -/
theorem op_translate {a : Addr} {ch : Nat} (K : c.Ok mg mb) (ha : mg (Str.ofString "_special_chars_map") = some (.ref a)) (h : Q (.str (if ch ∈ mapKeys then S [92, ch] else S [ch])) μ) :
    OpT c σ μ [.str (S [ch]), .opq (.ref a)] (fun vs => call (.builtin "str.translate") vs) Q :=
  fun P φ s vs I rs => by
    obtain ⟨a', h1, h2, h3⟩ := K.base.map
    rw [ha] at h1; cases h1
    have hm := I.base.map K.tabs h3
    (have hx := rs.inv; clear rs; obtain ⟨_, _, rfl, r, rs⟩ := hx)
    (have hx := rs.inv; clear rs; obtain ⟨_, _, rfl, r2, rs⟩ := hx)
    (first | obtain rfl := rs.inv | obtain ⟨_, rfl⟩ := rs.inv); (first | obtain rfl := r.inv | obtain ⟨_, rfl⟩ := r.inv); (first | obtain rfl := r2.inv | obtain ⟨_, rfl⟩ := r2.inv)
    obtain ⟨hh, g, dr, tk, os⟩ := s
    refine wpAny_call_entry F.slot_str_translate (typeIs_str _ _ _) F.entry_str_translate ?_ (F.args_str_translate_2 _ _)
    refine translate_in h2 K.handled hm (fun hc u k => ?_) (fun hc h' u k hk => ?_)
    · rw [if_pos hc] at h
      exact ⟨_, rfl, .str _, μ, P, φ, Le.rfl, List.prefix_refl _, .str _ _, I.tok _, h⟩
    · rw [if_neg hc] at h
      exact ⟨_, rfl, .str _, μ, P, φ, Le.rfl, List.prefix_refl _, .str _ _, I.grow (t := k) hk (fun _ _ h => h) (fun a o h => hk _ _ (I.fz _ _ h)) (fun _ _ h => .inl h), h⟩

/-! ### list(e) -/
theorem op_list_copy {ds : List D} (hl : ds.length ≤ 1000) (h : Q (.lst ds) μ) : OpT c σ μ [.lst ds] (fun vs => call (.type "list") vs) Q :=
  fun P φ s vs I rs => by
    (have hx := rs.inv; clear rs; obtain ⟨_, _, rfl, r, rs⟩ := hx)
    (first | obtain rfl := rs.inv | obtain ⟨_, rfl⟩ := rs.inv)
    obtain ⟨a, o, vs, n, rfl, hP, hc, hdat, hrs⟩ := r.inv
    have hlen : vs.size = ds.length := by have := hrs.length; simpa using this
    refine call_list_seq a (.inl rfl) (I.fz _ _ hP) hc hdat (fun h' c' hk hS => ?_) (by rw [hlen, sizeLine_eq]; omega)
    obtain ⟨n1, n2, n3⟩ := fresh_none I
    have J := (I.grow (t := s.toks) hk (fun _ _ h => h) (fun a o h => hk _ _ (I.fz _ _ h)) (fun _ _ h => .inl h)).learn hS n1 n3
    exact ⟨.lst ds, μ, _, φ, fun _ _ h => .inl h, List.prefix_refl _, .lst (.inr ⟨rfl, rfl⟩) rfl rfl (hrs.mono (fun _ _ h => .inl h) (List.prefix_refl _)), J, h⟩
theorem rs_at : ∀ {vs : List Value} {ds : List D}, vs.length = ds.length → (∀ (i : Nat) (v : Value) (d : D), vs[i]? = some v → ds[i]? = some d → R P φ v d) → Rs P φ vs ds
  | [], [], _, _ => .nil
  | v :: vs, d :: ds, hl, h => .cons (h 0 v d rfl rfl) (rs_at (by simpa using hl) fun i v d h1 h2 => h (i + 1) v d (by simpa using h1) (by simpa using h2))
theorem op_list_str {x : Str} (K : c.Ok mg mb) (hl : x.length ≤ 1000) (h : Q (.lst (x.cps.toList.map fun ch => .str (S [ch]))) μ) : OpT c σ μ [.str x] (fun vs => call (.type "list") vs) Q :=
  fun P φ s vs I rs => by
    (have hx := rs.inv; clear rs; obtain ⟨_, _, rfl, r, rs⟩ := hx)
    (first | obtain rfl := rs.inv | obtain ⟨_, rfl⟩ := rs.inv); (first | obtain rfl := r.inv | obtain ⟨_, rfl⟩ := r.inv)
    refine call_list_str K.handled x _ (fun h' tk acc' c' hk hS hacc => ?_) (by rw [sizeLine_eq]; have : x.cps.size ≤ 1000 := hl; omega)
    obtain ⟨n1, n2, n3⟩ := fresh_none I
    have J := (I.grow (t := tk) hk (fun _ _ h => h) (fun a o h => hk _ _ (I.fz _ _ h)) (fun _ _ h => .inl h)).learn hS n1 n3
    have hrs : Rs P φ acc'.toList (x.cps.toList.map fun ch => D.str (S [ch])) := by
      refine rs_at (by have := hacc.1; simp [this]) fun i v d h1 h2 => ?_
      obtain ⟨ch, u, e1, e2⟩ := hacc.2 i v (by simpa using h1)
      rw [List.getElem?_map] at h2
      have : x.cps.toList[i]? = some ch := by simpa using e1
      rw [this] at h2
      cases h2
      subst e2
      exact .str _ _
    exact ⟨.lst _, μ, _, φ, fun _ _ h => .inl h, List.prefix_refl _, .lst (.inr ⟨rfl, rfl⟩) rfl rfl (hrs.mono (fun _ _ h => .inl h) (List.prefix_refl _)), J, h⟩
end
end -- QOps3

section -- QOps4
theorem and_tt {p : Prop} (h : p) : true = true ∧ p := ⟨rfl, h⟩
theorem and_none {p : Prop} (h : p) : D.none = D.none ∧ p := ⟨rfl, h⟩
theorem delitemW (l : Addr) (items : Array Value) (n : Nat) (i : Int) (u : Tok) (k : Nat) (sl : Array (Option Value)) (hfit : Builtin.List.listFitsIndex i = true) (hk : seqIndex? i items.size = some k) (hs1 : items.size ≤ sizeLine) :
    Meets (Builtin.«list.__delitem__» ⟨[.ref l, .int i u], []⟩)
      (fun _ R s => s.heap.get? l = some { cls := .type "list", dict := none, data := .seq items n, slots := sl } ∧ R (.ok (.ret .none)) { s with heap := s.heap.update l (Obj.mapSeq fun xs => xs.eraseIdxIfInBounds k) }) :=
  .of_wp fun prog w A R s h => by
    obtain ⟨hp, g, d, tk, os⟩ := s; obtain ⟨hl, h⟩ := h
    have hf : ¬ (!Builtin.List.listFitsIndex i) = true := by simp [hfit]
    have f1 := AutoSeq1.idx_int
    wp_walk using wpAny_loadPart' hl
    simp only [hk]
    have hz' : (items.eraseIdxIfInBounds k).size ≤ sizeLine + 1 := by
      unfold Array.eraseIdxIfInBounds
      split
      · rw [Array.size_eraseIdx]; omega
      · omega
    wp_walk using (wpAny_updateSeq hl rfl (hz := hs1) (_hz' := hz')), wpAny_loadPart' hl
    exact ⟨_, rfl, h⟩

theorem fits_nat {n : Nat} (h : n ≤ 1000) : Builtin.List.listFitsIndex (n : Int) = true := by
  have e : (1000 : Int) < 2 ^ 63 := by decide +kernel
  generalize hN : (2 : Int) ^ 63 = N at e
  exact fitsIndex_of (by omega) (by rw [hN]; omega)
theorem setitemW (l : Addr) (items : Array Value) (n : Nat) (i : Int) (j : Nat) (u : Tok) (v : Value) (sl : Array (Option Value)) (hi : i = (j : Int)) (hfit : Builtin.List.listFitsIndex i = true) (hj : j < items.size) :
    Meets (Builtin.«list.__setitem__» ⟨[.ref l, .int i u, v], []⟩)
      (fun _ R s => s.heap.get? l = some { cls := .type "list", dict := none, data := .seq items n, slots := sl } ∧ R (.ok (.ret .none)) { s with heap := s.heap.update l (Obj.mapSeq fun xs => xs.setIfInBounds j v) }) :=
  .of_wp fun prog w A R s ⟨hl, h⟩ => by
    have hx : items[j]? = some items[j] := Array.getElem?_eq_getElem hj
    show wpAny _ _ (Builtin.List.listSubscript? (.int i u) >>= _) _ _ s
    refine wpAny_bind (wpAny_listSubscript_int hfit ?_)
    clear hfit
    subst hi
    show wpAny _ _ ((seqItemAt l j >>= fun r => pure (r.map (j, ·))) >>= _) _ _ s
    refine wpAny_bind (wpAny_bind (wpAny_seqItemAt hl rfl (wpAny_pure ?_)))
    rw [hx]
    show wpAny _ _ (setSeqItemAt l j v >>= _) _ _ s
    refine wpAny_bind (wpAny_setSeqItemAt hl rfl ?_)
    exact wpAny_pure ⟨_, rfl, h⟩

section
variable {c : Cx} {σ σ' : List (Str × D)} {μ : List MO} {P : Facts} {φ : List Addr} {s : Shared} {mg mb : Str → Option Value} {Q : D → List MO → Prop}

theorem Rs.eraseIdx : ∀ {vs : List Value} {ds : List D} (k : Nat), Rs P φ vs ds → Rs P φ (vs.eraseIdx k) (ds.eraseIdx k)
  | _, _, _, .nil => by simp; exact .nil
  | _, _, 0, .cons _ h => by simpa using h
  | _, _, k + 1, .cons h1 h2 => by simp only [List.eraseIdx_cons_succ]; exact .cons h1 (h2.eraseIdx k)
theorem Rs.set : ∀ {vs : List Value} {ds : List D} (k : Nat) {v : Value} {d : D}, Rs P φ vs ds → R P φ v d → Rs P φ (vs.set k v) (ds.set k d)
  | _, _, _, _, _, .nil, _ => by simp; exact .nil
  | _, _, 0, _, _, .cons _ h, r => by simp only [List.set_cons_zero]; exact .cons r h
  | _, _, k + 1, _, _, .cons h1 h2, r => by simp only [List.set_cons_succ]; exact .cons h1 (h2.set k r)

theorem si_of {n len : Nat} (h : n < len) : seqIndex? (n : Int) len = some n := by
  simp [seqIndex?, h, show ¬ ((n : Int) < 0) by omega]
theorem del_ok {k n : Nat} {ds : List D} {ad : Addr} {t : Tok} {X : Unit → Shared → Prop} {E : Value → Shared → Prop} (I : Inv c σ μ P φ s) (hφ : φ[k]? = some ad) (hk : μ[k]? = some (.lst ds)) (hn : n < ds.length) (hb : ds.length ≤ 1000)
    (h : ∀ s', Inv c σ (μ.set k (.lst (ds.eraseIdx n))) P φ s' → X () s') : wpAny (model c.prog c.w) c.A (delItem (.ref ad) (.int (n : Int) t)) X E s := by
  obtain ⟨ob, ho, hm⟩ := I.mu _ _ _ hφ hk
  obtain ⟨vs, m, hc, hdn, hdat, hrs⟩ := hm.inv
  obtain ⟨cls, dd, data, sl⟩ := ob
  simp only at hc hdn hdat
  subst hc hdn hdat
  have hlen : vs.size = ds.length := by have := hrs.length; simpa using this
  have hT : s.TypeIs (.ref ad) "list" := ⟨_, ho, rfl⟩
  have hfit : Builtin.List.listFitsIndex (n : Int) = true := fits_nat (Nat.le_trans (Nat.le_of_lt hn) hb)
  have hsz : vs.size ≤ sizeLine := by rw [hlen, sizeLine_eq]; omega
  have hsi : seqIndex? (n : Int) vs.size = some n := si_of (hlen ▸ hn)
  generalize hi : (n : Int) = i at hfit hsi ⊢
  refine delItem_meets hT (by decide) F.slot_list_delitem F.entry_list_delitem (F.args_list_delitem_2 _ _) (delitemW ad vs m i t n sl hfit hsi hsz) ⟨ho, ?_⟩
  obtain ⟨n', hd'⟩ := Obj.data_mapSeq (o := { cls := .type "list", dict := none, data := .seq vs m, slots := sl }) rfl (fun xs => xs.eraseIdxIfInBounds n)
  have hget := Heap.get?_update_self (Obj.mapSeq fun xs => xs.eraseIdxIfInBounds n) ho rfl
  have hel : (vs.eraseIdxIfInBounds n).toList = vs.toList.eraseIdx n := by
    unfold Array.eraseIdxIfInBounds
    rw [dif_pos (by omega)]
    exact Array.toList_eraseIdx ..
  have J := I.setMu (t := s.toks) hφ (Heap.SameBut.update ..) hget (m := .lst (ds.eraseIdx n)) (.lst rfl rfl hd' (by rw [hel]; exact hrs.eraseIdx n))
  exact h _ J
theorem set_ok {k n : Nat} {ds : List D} {ad : Addr} {t : Tok} {v : Value} {d : D} {X : Unit → Shared → Prop} {E : Value → Shared → Prop} (I : Inv c σ μ P φ s) (hφ : φ[k]? = some ad) (hk : μ[k]? = some (.lst ds)) (hr : R P φ v d) (hn : n < ds.length) (hb : ds.length ≤ 1000)
    (h : ∀ s', Inv c σ (μ.set k (.lst (ds.set n d))) P φ s' → X () s') : wpAny (model c.prog c.w) c.A (setItem (.ref ad) (.int (n : Int) t) v) X E s := by
  obtain ⟨ob, ho, hm⟩ := I.mu _ _ _ hφ hk
  obtain ⟨vs, m, hc, hdn, hdat, hrs⟩ := hm.inv
  obtain ⟨cls, dd, data, sl⟩ := ob
  simp only at hc hdn hdat
  subst hc hdn hdat
  have hlen : vs.size = ds.length := by have := hrs.length; simpa using this
  have hT : s.TypeIs (.ref ad) "list" := ⟨_, ho, rfl⟩
  have hfit : Builtin.List.listFitsIndex (n : Int) = true := fits_nat (Nat.le_trans (Nat.le_of_lt hn) hb)
  have hj : n < vs.size := hlen ▸ hn
  generalize hi : (n : Int) = i at hfit ⊢
  unfold setItem
  refine wpAny_holding ?_
  refine wpAny_bind (wpAny_sequenceKey hT (by decide) ?_)
  refine wpAny_bind (wpAny_callSpecial?_slot (name := Str.ofString "__setitem__") hT F.slot_list_setitem (call_meets F.slot_list_setitem hT F.entry_list_setitem (F.args_list_setitem_3 _ _ _) (setitemW ad vs m i n t v sl hi.symm hfit hj) ⟨ho, ?_⟩))
  obtain ⟨n', hd'⟩ := Obj.data_mapSeq (o := { cls := .type "list", dict := none, data := .seq vs m, slots := sl }) rfl (fun xs => xs.setIfInBounds n v)
  have hget := Heap.get?_update_self (Obj.mapSeq fun xs => xs.setIfInBounds n v) ho rfl
  have J := I.setMu (t := s.toks) hφ (Heap.SameBut.update ..) hget (m := .lst (ds.set n d)) (.lst rfl rfl hd' (by rw [Array.toList_setIfInBounds]; exact hrs.set n hr))
  exact wpAny_pure (h _ J)

/-- del x[k] -/
noncomputable abbrev kDel2 (σ : List (Str × D)) (d : D) (Q : KS) : KV := fun e μ₂ => ∃ k ds n, d = .ref k ∧ e = .int (n : Nat) ∧ μ₂[k]? = some (.lst ds) ∧ n < ds.length ∧ ds.length ≤ 1000 ∧ Q .next σ (μ₂.set k (.lst (ds.eraseIdx n)))
noncomputable abbrev kDel (c : Cx) (σ : List (Str × D)) (i : Expr) (Q : KS) : KV := fun d μ₁ => EvT c σ μ₁ (eval i c.env) (kDel2 σ d Q)
noncomputable abbrev kSto3 (σ : List (Str × D)) (a d : D) (Q : KS) : KV := fun e μ₂ => ∃ k ds n, d = .ref k ∧ e = .int (n : Nat) ∧ μ₂[k]? = some (.lst ds) ∧ n < ds.length ∧ ds.length ≤ 1000 ∧ Q .next σ (μ₂.set k (.lst (ds.set n a)))
noncomputable abbrev kSto2 (c : Cx) (σ : List (Str × D)) (i : Expr) (a : D) (Q : KS) : KV := fun d μ₁ => EvT c σ μ₁ (eval i c.env) (kSto3 σ a d Q)
noncomputable abbrev kSto (c : Cx) (σ : List (Str × D)) (o i : Expr) (Q : KS) : KV := fun a μ₀ => EvT c σ μ₀ (eval o c.env) (kSto2 c σ i a Q)
theorem tr_del {o i : Expr} {dpos pos : Pos} {Q : Fl → List (Str × D) → List MO → Prop}
    (h : EvT c σ μ (eval o c.env) (kDel c σ i Q)) :
    TrT c σ μ (exec (.Delete [.Subscript o i dpos] pos) c.env) Q :=
  fun P φ s I => wpAny_Delete (wpAny_deleteEach_cons (wpAny_delete_Subscript (h.at I fun v₁ s₁ d₁ μ₁ P₁ φ₁ l₁ f₁ r₁ I₁ q₁ => q₁.at I₁ fun v₂ s₂ d₂ μ₂ P₂ φ₂ l₂ f₂ r₂ I₂ ⟨k, ds, n, hd, he, hk, hn, hb, q⟩ => by
    subst hd he
    have r₁' := r₁.mono l₂ f₂
    obtain ⟨ad, rfl, hφ⟩ := r₁'.inv
    cases r₂ with
    | int _ t => exact del_ok I₂ hφ hk hn hb fun s' J => wpAny_deleteEach_nil ⟨.next, σ, _, P₂, φ₂, l₁.trans l₂, .next, J, q⟩)))

/-- x[k] = e -/
theorem tr_store {o i value : Expr} {p pos : Pos} {Q : Fl → List (Str × D) → List MO → Prop}
    (h : EvT c σ μ (eval value c.env) (kSto c σ o i Q))
    (hs : swapsWith value (some (.Subscript o i p)) pos.line c.env = pure false) :
    TrT c σ μ (exec (.Assign [.Subscript o i p] value pos) c.env) Q :=
  fun P φ s I => wpAny_Assign_Subscript (h.at I fun v₀ s₀ d₀ μ₀ P₀ φ₀ l₀ f₀ r₀ I₀ q₀ => q₀.at I₀ fun v₁ s₁ d₁ μ₁ P₁ φ₁ l₁ f₁ r₁ I₁ q₁ => q₁.at I₁ fun v₂ s₂ d₂ μ₂ P₂ φ₂ l₂ f₂ r₂ I₂ ⟨k, ds, n, hd, he, hk, hn, hb, q⟩ => by
    subst hd he
    have r₁' := r₁.mono l₂ f₂
    obtain ⟨ad, rfl, hφ⟩ := r₁'.inv
    cases r₂ with
    | int _ t => exact set_ok I₂ hφ hk ((r₀.mono l₁ f₁).mono l₂ f₂) hn hb fun s' J => ⟨.next, σ, _, P₂, φ₂, (l₀.trans l₁).trans l₂, .next, J, q⟩) hs
end
end -- QOps4

section -- QExc
noncomputable def gone (h : Heap) : List Addr → Heap
  | [] => h
  | a :: r => without (gone h r) a
theorem gone_mem {h : Heap} {a : Addr} : ∀ {l : List Addr}, a ∈ l → (gone h l).get? a = none
  | b :: r, ha => by
    by_cases hb : a = b
    · subst hb; exact without_self _ _
    · show (without (gone h r) b).get? a = none
      rw [without_other _ hb]
      exact gone_mem ((List.mem_cons.mp ha).resolve_left hb)
theorem gone_other {h : Heap} {b : Addr} : ∀ {l : List Addr}, b ∉ l → (gone h l).get? b = h.get? b
  | [], _ => rfl
  | a :: r, hb => by
    show (without (gone h r) a).get? b = _
    have hne : b ≠ a := fun e => hb (by rw [e]; exact List.mem_cons_self ..)
    rw [without_other _ hne]
    exact gone_other fun hm => hb (List.mem_cons_of_mem _ hm)
theorem gone_some {h : Heap} {l : List Addr} {b : Addr} {o : Obj} (e : (gone h l).get? b = some o) : b ∉ l ∧ h.get? b = some o := by
  have hb : b ∉ l := fun hm => by rw [gone_mem hm] at e; cases e
  exact ⟨hb, gone_other hb ▸ e⟩

section
variable {c : Cx} {σ σ' : List (Str × D)} {μ : List MO} {P : Facts} {φ : List Addr} {s : Shared} {mg mb : Str → Option Value} {Q : D → List MO → Prop}

noncomputable def Apart (c : Cx) (φ : List Addr) (P : Facts) (a : Addr) : Prop := a ∉ own c φ ∧ (∀ o, ¬ P a o) ∧ c.h₀.get? a = none

theorem frs_ownW (K : c.OkW mg mb) : ∀ b ∈ frs c.A, b = c.env.locals ∨ b ∈ c.up := fun b hb => by
  obtain ⟨outer, e, ho⟩ := K.fr
  have hb' : b ∈ (c.A.frames.getD []).filterMap (·.frame) := hb
  rw [e] at hb'
  obtain ⟨env, he, hf⟩ := List.mem_filterMap.mp hb'
  have hout : env ∈ outer → b = c.env.locals ∨ b ∈ c.up := fun he => by
    obtain ⟨_, L, hL, h2⟩ := ho env he
    rw [hf] at h2; cases h2; exact .inr hL
  by_cases hro : c.ro = true
  · simp only [Option.getD_some] at he; rw [if_pos hro] at he; exact hout he
  · simp only [Option.getD_some] at he
    rw [if_neg hro] at he
    rcases List.mem_cons.mp he with rfl | he
    · rw [K.fl (by simpa using hro)] at hf; cases hf; exact .inl rfl
    · exact hout he

theorem frs_dict (K : c.OkW mg mb) (I : Inv c σ μ P φ s) : ∀ L ∈ frs c.A, ∃ o es ep, s.heap.get? L = some o ∧ o.data = .dict es ep := fun L hL => by
  rcases frs_ownW K L hL with rfl | hL
  · obtain ⟨m, o, es, ep, e, d, _⟩ := I.ns; exact ⟨o, es, ep, e, d⟩
  · obtain ⟨⟨o, es, ep, e, d, _⟩, _⟩ := K.upOk L hL
    obtain ⟨o', e', d'⟩ := I.base.data e
    exact ⟨o', es, ep, e', d'.trans d⟩

theorem Inv.gone : ∀ (rem : List Addr), Inv c σ μ P φ s → (∀ a ∈ rem, Apart c φ P a) → Inv c σ μ P φ { s with heap := Q50.gone s.heap rem }
  | [], I, _ => I
  | a :: r, I, h => by
    obtain ⟨h1, h2, h3⟩ := h a (List.mem_cons_self ..)
    exact (Inv.gone r I fun b hb => h b (List.mem_cons_of_mem _ hb)).other (h' := without (Q50.gone s.heap r) a) (a := a) (fun b o hb e => (without_other _ hb).trans e) h1 h2 h3 s.toks

theorem Inv.exc (K : c.OkW mg mb) (I : Inv c σ μ P φ s) {rem : List Addr} (hrem : ∀ a ∈ rem, Apart c φ P a) {h' : Heap} (hB : (Q50.gone s.heap (rem ++ frs c.A)).StaysIn h')
    (hsl : ∀ b o, s.heap.get? b = some o → (∀ vs, o.data ≠ .fields vs) → ∃ sl, h'.get? b = some { o with slots := sl }) : Inv c σ μ P φ { s with heap := h' } := by
  have J := I.gone rem hrem
  refine J.growK (s' := { s with heap := h' }) (l := frs c.A) J.gens rfl (fun b o e => ?_) (frs_ownW K) (fun L hL => let ⟨⟨o, _, _, e, _, _⟩, _⟩ := K.upOk L hL; ⟨o, e⟩) (fun _ _ h => h) (fun a o h => ?_) (fun _ _ h => .inl h)
  · obtain ⟨h1, h2⟩ := gone_some e
    have hex : b ∉ frs c.A → h'.get? b = some o := fun hb => hB b o ((gone_other (by simp only [List.mem_append]; exact fun q => q.elim h1 hb)).trans h2)
    refine ⟨hex, ?_⟩
    by_cases hb : b ∈ frs c.A
    · obtain ⟨o', es, ep, e', d⟩ := frs_dict K I b hb
      rw [h2] at e'; cases e'
      exact hsl b o h2 fun vs q => by rw [d] at q; cases q
    · exact ⟨o.slots, hex hb⟩
  · refine hB a o ((gone_other ?_).trans (I.fz a o h))
    simp only [List.mem_append]
    rintro (q | q)
    · exact (hrem a q).2.1 o h
    · rcases frs_ownW K a q with rfl | hL
      · exact I.apart _ (List.mem_cons_self ..) o h
      · obtain ⟨⟨o', _, _, e, _, _⟩, hP⟩ := K.upOk a hL
        rcases I.src a o h with q | q
        · exact hP o q
        · rw [e] at q; cases q

theorem apart_new (I : Inv c σ μ P φ s) {a : Addr} (h : s.heap.get? a = none) : Apart c φ P a := fresh_at I h

theorem fun_frames (K : c.OkW mg mb) (hro : c.ro = false) (I : Inv c σ μ P φ s) (rem : List Addr) : ∃ outer, c.A.frames = some (c.env :: outer) ∧ s.heap.FunFrames (Q50.gone s.heap (rem ++ frs c.A)) (c.env :: outer) := by
  obtain ⟨outer, e, ho⟩ := K.fr
  rw [if_neg (by rw [hro]; decide)] at e
  have hm : ∀ env ∈ c.env :: outer, ∀ L, env.frame = some L → L ∈ frs c.A := fun env he L hf => by
    show L ∈ (c.A.frames.getD []).filterMap (·.frame)
    rw [e]; exact List.mem_filterMap.mpr ⟨env, he, hf⟩
  refine ⟨outer, e, ?_⟩
  have one : ∀ env ∈ c.env :: outer, env.scope.kind ≠ .module ∧ ∃ L o, env.frame = some L ∧ (Q50.gone s.heap (rem ++ frs c.A)).get? L = none ∧ s.heap.get? L = some o ∧ ∀ vs, o.data ≠ .fields vs := fun env he => by
    have hk : env.scope.kind ≠ .module ∧ ∃ L, env.frame = some L := by
      rcases List.mem_cons.mp he with rfl | h
      · exact ⟨by rw [K.kind]; decide, _, K.fl hro⟩
      · obtain ⟨h1, L, _, h2⟩ := ho env h; exact ⟨h1, L, h2⟩
    obtain ⟨h1, L, h2⟩ := hk
    obtain ⟨o, es, ep, e1, d⟩ := frs_dict K I L (hm env he L h2)
    exact ⟨h1, L, o, h2, gone_mem (List.mem_append_right _ (hm env he L h2)), e1, fun vs q => by rw [d] at q; cases q⟩
  generalize c.env :: outer = l at one
  induction l with
  | nil => trivial
  | cons env r ih => exact ⟨(one env (List.mem_cons_self ..)).1, (one env (List.mem_cons_self ..)).2, ih fun x hx => one x (List.mem_cons_of_mem _ hx)⟩

/-- an IndexError that was raised and not yet noted; ctx: in whose hands -/
noncomputable def ExN (c : Cx) (φ : List Addr) (P : Facts) (h : Heap) (e : Addr) (ctx : Value) : Prop :=
  Apart c φ P e ∧ ∃ oe vs, h.get? e = some oe ∧ oe.cls = .type "IndexError" ∧ oe.data = .fields vs ∧ vs[2]? = some ctx ∧ vs[1]? = some .none
/-- an IndexError with a traceback -/
noncomputable def ExT (c : Cx) (φ : List Addr) (P : Facts) (h : Heap) (e : Addr) (ctx fl : Value) : Prop :=
  Apart c φ P e ∧ ∃ oe vs T oT ts, h.get? e = some oe ∧ oe.cls = .type "IndexError" ∧ oe.data = .fields vs ∧ vs[2]? = some ctx ∧ vs[1]? = some (.ref T) ∧ T ≠ e ∧ Apart c φ P T ∧ h.get? T = some oT ∧ oT.data = .fields ts ∧ ts[3]? = some fl

theorem note_N {M : Model} {A : Around} {E : Value → Shared → Prop} {X : Unit → Shared → Prop} {e : Addr} {ctx : Value} (K : c.OkW mg mb) (hro : c.ro = false) (hA : A.frames = c.A.frames) (I : Inv c σ μ P φ s) (hx : ExN c φ P s.heap e ctx)
    (k : ∀ h', Inv c σ μ P φ { s with heap := h' } → ExT c φ P h' e ctx (rawInt c.env.locals) → X () { s with heap := h' }) : wpAny M A (noteFrame (.ref e) c.env) X E s := by
  obtain ⟨ha, oe, vs, he, hc, hd, h0, h1⟩ := hx
  obtain ⟨outer, hfr, hff⟩ := fun_frames K hro I []
  have hsz : 1 < vs.size := (Array.getElem?_eq_some_iff.mp h1).1
  have hene : e ∉ frs c.A := fun hm => by
    obtain ⟨o', es, ep, e', d⟩ := frs_dict K I e hm
    rw [he] at e'; cases e'; rw [hd] at d; cases d
  have hfl : (c.env :: outer).filterMap (·.frame) = frs c.A := by
    show _ = (c.A.frames.getD []).filterMap (·.frame)
    rw [hfr]; rfl
  unfold noteFrame
  simp only [K.fl hro]
  refine wpAny_bind (wpAny_field he hd h1 ?_)
  rw [if_neg (by decide)]
  refine wpAny_bind (wpAny_frameOf_fun (hA.trans hfr) hff (K.fl hro) fun h₁ hs₁ => ?_)
  rw [hfl] at hs₁
  have J₁ : Inv c σ μ P φ { s with heap := h₁ } := I.growK (s' := { s with heap := h₁ }) (l := frs c.A) I.gens rfl (fun b o q => ⟨fun hb => (hs₁.2.1 b hb).trans q, hs₁.2.2 b o q⟩) (frs_ownW K) (fun L hL => let ⟨⟨o, _, _, e, _, _⟩, _⟩ := K.upOk L hL; ⟨o, e⟩) (fun _ _ h => h)
    (fun a o h => by
      refine (hs₁.2.1 a fun q => ?_).trans (I.fz a o h)
      rcases frs_ownW K a q with rfl | hL
      · exact I.apart _ (List.mem_cons_self ..) o h
      · obtain ⟨⟨o', _, _, e, _, _⟩, hP⟩ := K.upOk a hL
        rcases I.src a o h with q | q
        · exact hP o q
        · rw [e] at q; cases q) (fun _ _ h => .inl h)
  refine wpAny_bind (wpAny_entryPlaceOf fun pl hpl => ?_)
  unfold EntryCells.newEntry newFields
  refine wpAny_bind (wpAny_newObj_type ?_ (hpl.sizeOk5 _ _ _ _ _))
  have he₁ : h₁.get? e = some oe := (hs₁.2.1 e hene).trans he
  have hTn : h₁.get? h₁.objs.size = none := Heap.get?_none_of_le (Nat.le_refl _)
  have aT : Apart c φ P h₁.objs.size := apart_new J₁ hTn
  have hTe : h₁.objs.size ≠ e := fun q => by rw [← q, hTn] at he₁; cases he₁
  generalize hob : ({ cls := .type "traceback", dict := none, data := .fields ([Value.none, .ref c.env.locals, .none, rawInt c.env.locals, .none] ++ (if pl.isEmpty then List.replicate 6 Value.none else pl)).toArray } : Obj) = ob
  have hobd : ob.data = .fields ([Value.none, .ref c.env.locals, .none, rawInt c.env.locals, .none] ++ (if pl.isEmpty then List.replicate 6 Value.none else pl)).toArray := by rw [← hob]
  have hobf : ob.isFreed = false := Obj.isFreed_of_fields hobd
  have he₂ := Heap.get?_push_of_some (h := h₁) ob he₁
  have J₂ : Inv c σ μ P φ { s with heap := h₁.push ob } := J₁.grow (t := s.toks) (P' := P) (h' := h₁.push ob) (fun _ _ q => Heap.get?_push_of_some _ q) (fun _ _ h => h) (fun a o h => Heap.get?_push_of_some _ (J₁.fz a o h)) (fun _ _ h => .inl h)
  refine wpAny_setField he₂ hd hsz (k _ (J₂.other (Heap.SameBut.update ..).extBut ha.1 ha.2.1 ha.2.2 s.toks) ⟨ha, _, _, h₁.objs.size, ob, _, Heap.get?_update_self _ he₂ (Obj.isFreed_of_fields (Obj.data_mapFields hd _)), (Obj.cls_mapFields ..).trans hc, Obj.data_mapFields hd _, ?_, by simp [hsz], hTe, aT, ?_, hobd, ?_⟩)
  · rw [Array.getElem?_setIfInBounds_ne (by decide)]; exact h0
  · exact (Heap.get?_update_other _ _ (Ne.symm hTe)).trans (Heap.get?_push_size _ hobf)
  · first | (simp; done) | (rcases hpl with rfl | ⟨_, _, _, _, _, _, _, rfl⟩ <;> simp)

theorem note_T {M : Model} {A : Around} {E : Value → Shared → Prop} {X : Unit → Shared → Prop} {e : Addr} {ctx : Value} (K : c.OkW mg mb) (hro : c.ro = false) (hx : ExT c φ P s.heap e ctx (rawInt c.env.locals)) (k : X () s) : wpAny M A (noteFrame (.ref e) c.env) X E s := by
  obtain ⟨ha, oe, vs, T, oT, ts, e1, e2, e3, e4, e5, e6, e7, e8, e9, e10⟩ := hx
  unfold noteFrame
  simp only [K.fl hro]
  refine wpAny_bind (wpAny_field e1 e3 e5 ?_)
  rw [if_pos (show (Value.ref T != Value.none) = true from by simp)]
  refine wpAny_bind (wpAny_field e8 e9 e10 ?_)
  rw [if_pos (by simp)]
  exact wpAny_pure k

theorem flight {M : Model} {A : Around} {E : Value → Shared → Prop} {X : Unit → Shared → Prop} {e : Addr} {ctx fl : Value} (fr : Option Addr) (I : Inv c σ μ P φ s) (hx : ExT c φ P s.heap e ctx fl)
    (k : ∀ h', Inv c σ μ P φ { s with heap := h' } → ExT c φ P h' e ctx (fr.elim .none fun f => rawInt f) → X () { s with heap := h' }) : wpAny M A (setFlight (.ref e) fr) X E s := by
  obtain ⟨ha, oe, vs, T, oT, ts, e1, e2, e3, e4, e5, e6, e7, e8, e9, e10⟩ := hx
  have hsz : 3 < ts.size := (Array.getElem?_eq_some_iff.mp e10).1
  unfold setFlight
  refine wpAny_bind (wpAny_field e1 e3 e5 ?_)
  rw [if_pos (show (Value.ref T != Value.none) = true from by simp)]
  refine wpAny_setField e8 e9 hsz (k _ (I.other (Heap.SameBut.update ..).extBut e7.1 e7.2.1 e7.2.2 s.toks) ⟨ha, oe, vs, T, _, _, ?_, e2, e3, e4, e5, e6, e7, Heap.get?_update_self _ e8 (Obj.isFreed_of_fields (Obj.data_mapFields e9 _)), Obj.data_mapFields e9 _, by simp [hsz]⟩)
  exact (Heap.get?_update_other _ _ e6).trans e1

/-- an exception that comes to a frame's own piece of code -/
noncomputable abbrev Ex (c : Cx) (φ : List Addr) (P : Facts) (h : Heap) (e : Addr) (ctx : Value) : Prop := ExN c φ P h e ctx ∨ ExT c φ P h e ctx (rawInt c.env.locals)

theorem note_X {M : Model} {A : Around} {E : Value → Shared → Prop} {X : Unit → Shared → Prop} {e : Addr} {ctx : Value} (K : c.OkW mg mb) (hro : c.ro = false) (hA : A.frames = c.A.frames) (I : Inv c σ μ P φ s) (hx : Ex c φ P s.heap e ctx)
    (k : ∀ h', Inv c σ μ P φ { s with heap := h' } → ExT c φ P h' e ctx (rawInt c.env.locals) → X () { s with heap := h' }) : wpAny M A (noteFrame (.ref e) c.env) X E s := by
  rcases hx with hx | hx
  · exact note_N K hro hA I hx k
  · exact note_T K hro hx (k s.heap I hx)

theorem cameBack {M : Model} {A : Around} {E : Value → Shared → Prop} {e : Addr} {ctx fl : Value} (K : c.OkW mg mb) (hro : c.ro = false) (I : Inv c σ μ P φ s) (hx : ExT c φ P s.heap e ctx fl)
    (k : ∀ h', Inv c σ μ P φ { s with heap := h' } → ExT c φ P h' e ctx (rawInt c.env.locals) → E (.ref e) { s with heap := h' }) : cameBackBy M A c.env E (.ref e) s := by
  obtain ⟨ha, oe, vs, T, oT, ts, e1, e2, e3, e4, e5, e6, e7, e8, e9, e10⟩ := id hx
  unfold cameBackBy
  refine wpAny_bind (wpAny_field e1 e3 e5 ?_)
  rw [if_neg (show ¬ ((Value.ref T == Value.none) = true) from by simp)]
  rw [K.fl hro]
  first
    | exact wpAny_bind (wpAny_pure (flight (some c.env.locals) I hx k))
    | exact flight (some c.env.locals) I hx k

theorem pass_on {α : Type} {what : String} {M : Model} {A : Around} {E : Value → Shared → Prop} {X : α → Shared → Prop} {e : Addr} {ctx fl : Value} (K : c.OkW mg mb) (hro : c.ro = false) (I : Inv c σ μ P φ s) (hx : ExT c φ P s.heap e ctx fl)
    (k : ∀ h', Inv c σ μ P φ { s with heap := h' } → ExT c φ P h' e ctx (rawInt c.env.locals) → E (.ref e) { s with heap := h' }) : wpAny M A (PySem.passOn what (.ref e) c.env : Sem α) X E s := by
  obtain ⟨ha, oe, vs, T, oT, ts, e1, e2, e3, e4, e5, e6, e7, e8, e9, e10⟩ := id hx
  unfold PySem.passOn
  refine wpAny_bind (wpAny_field e1 e3 e5 ?_)
  rw [if_neg (show ¬ ((Value.ref T == Value.none) = true) from by simp)]
  rw [K.fl hro]
  first
    | exact wpAny_bind (wpAny_pure (wpAny_bind (flight (some c.env.locals) I hx fun h' J hx' => wpAny_throw (k h' J hx'))))
    | exact wpAny_bind (flight (some c.env.locals) I hx fun h' J hx' => wpAny_throw (k h' J hx'))
end
end -- QExc

section -- QExc2
section
variable {α : Type} {prog : Program} {w : World} {A : Around} {E : Value → Shared → Prop} {s : Shared}

theorem entry_unchain : entryFor table "proto.unchain" = some Builtin.«proto.unchain» := entryFor_of_fast (by kernel_rfl)

theorem raise_new_h {e h : Addr} {oe oh : Obj} {vs es : Array Value} {Q : α → Shared → Prop} (hh : A.handled = some (.ref h)) (ho : s.heap.get? h = some oh) (hd : oh.data = .fields vs) (h2 : vs[2]? = some .none)
    (he : s.heap.get? e = some oe) (hed : oe.data = .fields es) (hes : 2 < es.size) (hne : h ≠ e)
    (k : E (.ref e) { s with heap := s.heap.update e (Obj.mapFields (·.setIfInBounds 2 (.ref h))) }) : wpAny (model prog w) A (raiseNew (.ref e) : Sem α) Q E s := by
  unfold raiseNew
  refine wpAny_bind (wpAny_handled ?_)
  rw [hh]
  dsimp only
  rw [if_pos (show (Value.ref h != Value.ref e) = true from by simp [hne])]
  refine wpAny_bind (wpAny_holding (wpAny_runValue (codeAny_builtin entry_unchain ?_)))
  unfold Builtin.«proto.unchain»
  refine wpAny_bind (wpAny_field ho hd h2 ?_)
  rw [if_pos (by decide)]
  refine wpAny_pure ?_
  exact wpAny_bind (show wpAny _ _ (setField (.ref e) 2 (.ref h)) _ _ _ from wpAny_setField he hed hes (wpAny_throw k))

/-- a new IndexError that has a context -/
structure NewExcH (h₀ h' : Heap) (e : Addr) (cls : String) (ctx : Value) : Prop where
  keeps : ∀ b o, h₀.get? b = some o → h'.get? b = some o
  new : h₀.get? e = none
  there : ∃ ob t, h'.get? e = some ob ∧ ob.cls = .type cls ∧ ob.data = .fields #[t, .none, ctx, .none, .bool false, .none]

theorem raise_words_h {cls msg : String} {h : Addr} {oh : Obj} {vs : Array Value} {Q : α → Shared → Prop} (hp : PlainExc cls) (hh : A.handled = some (.ref h)) (ho : s.heap.get? h = some oh) (hd : oh.data = .fields vs) (h2 : vs[2]? = some .none)
    (k : ∀ h' tk e, NewExcH s.heap h' e cls (.ref h) → E (.ref e) { s with heap := h', toks := tk }) :
    wpAny (model prog w) A (raiseErrorWords cls msg : Sem α) Q E s := by
  unfold raiseErrorWords
  refine wpAny_bind (wpAny_mkText (wpAny_bind ?_))
  unfold newExc newTuple
  refine wpAny_bind (wpAny_newObj_type ?_)
  refine wpAny_bind (m := firstArgMember _ _) (wpAny_of_eq (a := Value.none) (by simp only [firstArgMember, hp.first]; rfl) ?_)
  rw [hp.own]
  refine wpAny_newObj_type ?_
  have k1 : ∀ (o1 o2 : Obj) b o, s.heap.get? b = some o → ((s.heap.push o1).push o2).get? b = some o := fun o1 o2 b o hb => Heap.get?_push_of_some _ (Heap.get?_push_of_some _ hb)
  have hlt := Heap.lt_size ho
  refine raise_new_h hh (k1 _ _ _ _ ho) hd h2 (Heap.get?_push_size _ rfl) rfl (by simp) (Nat.ne_of_lt (by rw [Heap.size_push]; exact Nat.lt_succ_of_lt hlt)) (k _ _ _ ⟨fun b o hb => ?_, Heap.get?_none_of_le (by simp), _, .ref s.heap.objs.size, Heap.get?_update_self _ (Heap.get?_push_size _ rfl) (Obj.isFreed_of_fields (Obj.data_mapFields rfl _)), Obj.cls_mapFields .., by rw [Obj.data_mapFields rfl]; simp⟩)
  rw [Heap.get?_update_other _ _ (Nat.ne_of_gt (by rw [Heap.size_push]; exact Nat.lt_succ_of_lt (Heap.lt_size hb)))]
  exact k1 _ _ _ _ hb
end
end -- QExc2

section -- QExc3
section
variable {prog : Program} {w : World} {A : Around} {E : Value → Shared → Prop} {s : Shared}

theorem getItem_out_h {l h : Addr} {oh : Obj} {vs : Array Value} {items : Array Value} {k : Int} {t : Tok} {Q : Value → Shared → Prop} (hh : A.handled = some (.ref h)) (hoh : s.heap.get? h = some oh) (hdh : oh.data = .fields vs) (h2 : vs[2]? = some .none) (hl : s.heap.IsList l items)
    (h0 : 0 ≤ k) (hout : (items.size : Int) ≤ k) (hhi : k < 2 ^ 63)
    (hE : ∀ h' tk e, NewExcH s.heap h' e "IndexError" (.ref h) → E (.ref e) { s with heap := h', toks := tk }) :
    wpAny (model prog w) A (getItem (.ref l) (.int k t)) Q E s := by
  obtain ⟨o, ho, hc, ne, hd⟩ := id hl
  unfold getItem
  try with_reducible refine wpAny_holding ?_
  first | refine wpAny_bind (wpAny_pure ?_) | skip
  refine wpAny_bind (wpAny_sequenceKey hl.typeIs (by decide) ?_)
  refine wpAny_bind (wpAny_callSpecial?_slot (name := Str.ofString "__getitem__") hl.typeIs slot_list_getitem
    (wpAny_call_entry slot_list_getitem hl.typeIs entry_list_getitem ?_ (args_list_getitem _ _)))
  show wpAny _ _ (Builtin.List.listSubscript? (.int k t) >>= _) _ _ s
  refine wpAny_bind (wpAny_listSubscript_int (fitsIndex_both (by omega) hhi) ?_)
  clear hhi
  cases k with
  | negSucc j => exact absurd h0 (by have := Int.negSucc_lt_zero j; omega)
  | ofNat j =>
  have hx : items[j]? = none := Array.getElem?_eq_none (by have : (items.size : Int) ≤ (j : Int) := hout; omega)
  change wpAny _ _ ((seqItemAt l j >>= fun r => pure (r.map (j, ·))) >>= _) _ _ s
  refine wpAny_bind (wpAny_bind (wpAny_seqItemAt ho hd (wpAny_pure ?_)))
  rw [hx]
  first
    | exact wpAny_bind (wpAny_rule (raise_words_h plainExc_IndexError hh hoh hdh h2 hE))
    | exact wpAny_bind (wpAny_rule (wpAny_bind (raise_words_h plainExc_IndexError hh hoh hdh h2 hE)))
    | exact wpAny_bind (wpAny_bind (wpAny_rule (raise_words_h plainExc_IndexError hh hoh hdh h2 hE)))
    | exact wpAny_rule (raise_words_h plainExc_IndexError hh hoh hdh h2 hE)
end

section
variable {c : Cx} {σ σ' : List (Str × D)} {μ : List MO} {P : Facts} {φ : List Addr} {s : Shared} {mg mb : Str → Option Value} {Q : D → List MO → Prop}

/-- what is in this frame's hands: nothing, or an exception without a context -/
noncomputable def Hands (c : Cx) : Prop := c.A.handled = none ∨ ∃ h oh vs, c.A.handled = some (.ref h) ∧ h ∉ c.up ∧ c.h₀.get? h = some oh ∧ oh.data = .fields vs ∧ vs[2]? = some .none

/-- after an exception of this frame -/
inductive ExPost (c : Cx) (P : Facts) (X : Value → List (Str × D) → List MO → Prop) (v : Value) (s' : Shared) : Prop
  | mk (e : Addr) (ctx : Value) (σ' : List (Str × D)) (μ' : List MO) (P' : Facts) (φ' : List Addr) (hv : v = .ref e) (l : Le P P') (I : Inv c σ' μ' P' φ' s') (hx : Ex c φ' P' s'.heap e ctx) (q : X ctx σ' μ') : ExPost c P X v s'

theorem ExPost.mono {X X' : Value → List (Str × D) → List MO → Prop} {P₁ : Facts} {v : Value} {s' : Shared} (h : ExPost c P X v s') (l : Le P₁ P) (k : ∀ ctx σ' μ', X ctx σ' μ' → X' ctx σ' μ') : ExPost c P₁ X' v s' :=
  let ⟨e, ctx, σ', μ', P', φ', a, b, d, f, x⟩ := h; ⟨e, ctx, σ', μ', P', φ', a, l.trans b, d, f, k _ _ _ x⟩

noncomputable def EvX (c : Cx) (σ : List (Str × D)) (μ : List MO) (t : Sem Value) (Q : D → List MO → Prop) (X : Value → List (Str × D) → List MO → Prop) : Prop :=
  ∀ P φ s, Inv c σ μ P φ s → wpAny (model c.prog c.w) c.A t (PV c σ P φ Q) (ExPost c P X) s
noncomputable def TsX (c : Cx) (σ : List (Str × D)) (μ : List MO) (t : Sem Bool) (Q : Bool → List MO → Prop) (X : Value → List (Str × D) → List MO → Prop) : Prop :=
  ∀ P φ s, Inv c σ μ P φ s → wpAny (model c.prog c.w) c.A t (PB c σ P φ Q) (ExPost c P X) s
noncomputable def TrX (c : Cx) (σ : List (Str × D)) (μ : List MO) (t : Sem Flow) (Q : Fl → List (Str × D) → List MO → Prop) (X : Value → List (Str × D) → List MO → Prop) : Prop :=
  ∀ P φ s, Inv c σ μ P φ s → wpAny (model c.prog c.w) c.A t (PF c P Q) (ExPost c P X) s

theorem TrX.lift {t : Sem Flow} {Q : Fl → List (Str × D) → List MO → Prop} {X : Value → List (Str × D) → List MO → Prop} (h : TrT c σ μ t Q) : TrX c σ μ t Q X :=
  fun P φ s I => wpAny_mono (h P φ s I) (fun _ _ x => x) fun _ _ x => x.elim
theorem TrX.mono {t : Sem Flow} {Q Q' : Fl → List (Str × D) → List MO → Prop} {X X' : Value → List (Str × D) → List MO → Prop} (h : TrX c σ μ t Q X) (k : ∀ fl σ' μ', Q fl σ' μ' → Q' fl σ' μ') (k' : ∀ ctx σ' μ', X ctx σ' μ' → X' ctx σ' μ') : TrX c σ μ t Q' X' :=
  fun P φ s I => wpAny_mono (h P φ s I) (fun _ _ ⟨fl, σ', μ', P', φ', l, r, I', q⟩ => ⟨fl, σ', μ', P', φ', l, r, I', k _ _ _ q⟩) fun _ _ x => x.mono Le.rfl k'

noncomputable def afterX (c : Cx) (rest : Sem Flow) (Q : Fl → List (Str × D) → List MO → Prop) (X : Value → List (Str × D) → List MO → Prop) : Fl → List (Str × D) → List MO → Prop
  | .next, σ, μ => TrX c σ μ rest Q X
  | fl, σ, μ => Q fl σ μ

theorem trx_nil {Q : Fl → List (Str × D) → List MO → Prop} {X : Value → List (Str × D) → List MO → Prop} (h : Q .next σ μ) : TrX c σ μ (execs [] c.env) Q X := .lift (tr_nil h)
theorem trx_cons {st : Stmt} {rest : List Stmt} {Q : Fl → List (Str × D) → List MO → Prop} {X : Value → List (Str × D) → List MO → Prop} (h : TrX c σ μ (exec st c.env) (afterX c (execs rest c.env) Q X) X) : TrX c σ μ (execs (st :: rest) c.env) Q X :=
  fun P φ s I => wpAny_execs_cons (wpAny_mono (h P φ s I) (fun f s' ⟨fl, σ', μ', P', φ', l, r, I', q⟩ => by
    cases r with
    | next => exact wpAny_mono ((show TrX c σ' μ' (execs rest c.env) Q X from q) P' φ' s' I') (fun f s'' ⟨fl, σ'', μ'', P'', φ'', l', r', I'', q'⟩ => ⟨fl, σ'', μ'', P'', φ'', l.trans l', r', I'', q'⟩) fun _ _ x => x.mono l fun _ _ _ x => x
    | brk => exact ⟨.brk, σ', μ', P', φ', l, .brk, I', q⟩
    | cont => exact ⟨.cont, σ', μ', P', φ', l, .cont, I', q⟩
    | ret hr => exact ⟨.ret _, σ', μ', P', φ', l, .ret hr, I', q⟩) fun _ _ x => x)

theorem trx_assign {x : Str} {pos' pos : Pos} {value : Expr} {Q : Fl → List (Str × D) → List MO → Prop} {X : Value → List (Str × D) → List MO → Prop} (K : c.OkW mg mb) (hk : c.st x)
    (h : EvX c σ μ (eval value c.env) (kAsg σ x Q) X)
    (hs : swapsWith value (some (.Name x pos')) pos.line c.env = pure false := by rfl) : TrX c σ μ (exec (.Assign [.Name x pos'] value pos) c.env) Q X :=
  fun P φ s I => wpAny_Assign_Name (wpAny_mono (h P φ s I) (fun v s' ⟨d, μ', P', φ', l, f, r, I', σ', u, q⟩ =>
    store_ok K I' hk u r fun s'' I'' => ⟨.next, σ', μ', P', φ', l, .next, I'', q⟩) fun _ _ x => x) hs

noncomputable abbrev kIfX (c : Cx) (σ : List (Str × D)) (body orelse : List Stmt) (Q : KS) (X : Value → List (Str × D) → List MO → Prop) : KB := fun b μ' => if b = true then TrX c σ μ' (execs body c.env) Q X else TrX c σ μ' (execs orelse c.env) Q X
theorem trx_if {test : Expr} {body orelse : List Stmt} {pos : Pos} {Q : Fl → List (Str × D) → List MO → Prop} {X : Value → List (Str × D) → List MO → Prop}
    (h : TsT c σ μ (isTrue test c.env (eval test c.env)) (kIfX c σ body orelse Q X)) :
    TrX c σ μ (exec (.If test body orelse pos) c.env) Q X :=
  fun P φ s I => wpAny_If (h.at I fun b s' μ' P' φ' l f I' q => by
    cases b with
    | true =>
      simp only [if_true]
      replace q := ite_T q
      exact wpAny_mono (q P' φ' s' I') (fun f s'' ⟨fl, σ'', μ'', P'', φ'', l', r', I'', q'⟩ => ⟨fl, σ'', μ'', P'', φ'', l.trans l', r', I'', q'⟩) fun _ _ x => x.mono l fun _ _ _ x => x
    | false =>
      simp only [Bool.false_eq_true, if_false]
      replace q := ite_F q
      exact wpAny_mono (q P' φ' s' I') (fun f s'' ⟨fl, σ'', μ'', P'', φ'', l', r', I'', q'⟩ => ⟨fl, σ'', μ'', P'', φ'', l.trans l', r', I'', q'⟩) fun _ _ x => x.mono l fun _ _ _ x => x)

/-- L[i]: the item, or an IndexError -/
theorem evx_sub {L i : Str} {p1 p2 pos : Pos} {ds : List D} {k : Nat} {X : Value → List (Str × D) → List MO → Prop} (K : c.OkW mg mb) (HH : Hands c) (hL : (L, D.lst ds) ∈ σ) (hi : (i, D.int (k : Int)) ∈ σ) (hb : ds.length ≤ 1000) (hkb : k ≤ 10000)
    (hin : ∀ d, ds[k]? = some d → Q d μ) (hout : ds.length ≤ k → ∀ ctx, (c.A.handled = none → ctx = .none) → X ctx σ μ) :
    EvX c σ μ (eval (.Subscript (.Name L p1) (.Name i p2) pos) c.env) Q X :=
  fun P φ s I => Subscript_ ((ev_name (Q := fun d μ' => d = .lst ds ∧ μ' = μ) K hL ⟨rfl, rfl⟩).at I fun v₁ s₁ d₁ μ₁ P₁ φ₁ l₁ f₁ r₁ I₁ ⟨e1, e2⟩ => by
    subst e1 e2
    refine (ev_name (Q := fun d μ' => d = .int (k : Int) ∧ μ' = μ₁) K hi ⟨rfl, rfl⟩).at I₁ fun v₂ s₂ d₂ μ₂ P₂ φ₂ l₂ f₂ r₂ I₂ ⟨e3, e4⟩ => ?_
    subst e3 e4
    by_cases hlt : k < ds.length
    · have hd : ds[k]? = some ds[k] := List.getElem?_eq_getElem hlt
      have := (sub_lst (c := c) (σ := σ) (Q := Q) (μ := μ₂) (value := .Name L p1) (slice := .Name i p2) (ds := ds) (i := (k : Int)) (d := ds[k]) (by omega) (by omega) (by
        have e : place (k : Int) ds.length = k := by unfold place; rw [if_neg (by omega)]; omega
        rw [e, hd]) (hin _ hd)).at (vs := [v₁, v₂]) I₂ (.cons (r₁.mono l₂ f₂) (.cons r₂ .nil)) (X := PV c σ P φ Q) (E := ExPost c P X) fun v s' d μ' P' φ' l f r I' q => ⟨d, μ', P', φ', (l₁.trans l₂).trans l, (f₁.trans f₂).trans f, r, I', q⟩
      exact this
    · have r₁' := r₁.mono l₂ f₂
      obtain ⟨t, rfl⟩ := r₂.inv
      obtain ⟨a, o, vs, n, rfl, hP, hc, hdat, hrs⟩ := r₁'.inv
      have hl : s₂.heap.IsList a vs := ⟨o, I₂.fz _ _ hP, hc, n, hdat⟩
      have hlen : vs.size = ds.length := by have := hrs.length; simpa using this
      have fin : ∀ (h' : Heap) (tk : Tok) (e : Addr) (ctx : Value), (∀ b o, s₂.heap.get? b = some o → h'.get? b = some o) → s₂.heap.get? e = none → (∃ ob t, h'.get? e = some ob ∧ ob.cls = .type "IndexError" ∧ ob.data = .fields #[t, .none, ctx, .none, .bool false, .none]) → (c.A.handled = none → ctx = .none) →
          ExPost c P X (.ref e) { s₂ with heap := h', toks := tk } := fun h' tk e ctx hk hn ⟨ob, t, g1, g2, g3⟩ hctx => by
        have J := I₂.grow (t := tk) hk (fun _ _ h => h) (fun a o h => hk _ _ (I₂.fz a o h)) (fun _ _ h => .inl h)
        exact ⟨e, ctx, σ, μ₂, P₂, φ₂, rfl, l₁.trans l₂, J, .inl ⟨apart_new I₂ hn, ob, _, g1, g2, g3, rfl, rfl⟩, hout (by omega) ctx hctx⟩
      refine tail_any (T := "list") (ops := [.ref a, .int (k : Int) t]) hl.typeIs slot_list_getitem.lookup ?_ (by with_unfolding_all rfl)
      rcases HH with hh | ⟨h, oh, hvs, hh, hup, g1, g2, g3⟩
      · exact wpAny_getItem_list_out hh hl (.inr (by omega)) (by omega) (by omega) fun h' tk e N => fin h' tk e .none N.keeps N.new N.there fun _ => rfl
      · exact getItem_out_h hh (I₂.base.out g1 hup) g2 g3 hl (by omega) (by omega) (by omega) fun h' tk e N => fin h' tk e (.ref h) N.keeps N.new N.there fun q => by rw [hh] at q; cases q)
end
end -- QExc3

section -- QExc4
section
variable {c : Cx} {σ σ' : List (Str × D)} {μ : List MO} {P : Facts} {φ : List Addr} {s : Shared} {mg mb : Str → Option Value}

theorem ex_noted {P₁ : Facts} {X : Value → List (Str × D) → List MO → Prop} {v : Value} (K : c.OkW mg mb) (hro : c.ro = false) (l : Le P₁ P) (h : ExPost c P X v s) :
    notedBy (model c.prog c.w) c.A c.env (fun x s' => cameBackBy (model c.prog c.w) c.A c.env (ExPost c P₁ X) x s') v s := by
  obtain ⟨e, ctx, σ', μ', P', φ', rfl, l', I, hx, x⟩ := h
  exact note_X K hro rfl I hx fun h' J hT => cameBack (s := { s with heap := h' }) K hro J hT fun h'' J' hT' => ⟨e, ctx, σ', μ', P', φ', rfl, l.trans l', J', .inr hT', x⟩

theorem trx_while {test : Expr} {body : List Stmt} {pos : Pos} {Q : Fl → List (Str × D) → List MO → Prop} {X : Value → List (Str × D) → List MO → Prop} (K : c.OkW mg mb) (hro : c.ro = false) (W : Nat → List (Str × D) → List MO → Prop)
    (turn : ∀ n σ μ, W n σ μ → TsX c σ μ (isTrue test c.env (eval test c.env)) (kWhile c σ body n W Q) X)
    (n : Nat) (h : W n σ μ) : TrX c σ μ (exec (.While test body [] pos) c.env) Q X :=
  fun P φ s I => wpAny_While (codeAny_whileLoop (fun n s' => PW c P (W n) s')
    (fun n s' ⟨σ', μ', P', φ', l, I', w⟩ => wpAny_mono (turn n σ' μ' w P' φ' s' I') (fun b s₂ ⟨μ₂, P₂, φ₂, l₂, f₂, I₂, q₂⟩ => by
      cases b with
      | false =>
        simp only [Bool.false_eq_true, if_false]
        replace q₂ := ite_F q₂
        exact wpAny_execs_nil ⟨.next, σ', μ₂, P₂, φ₂, l.trans l₂, .next, I₂, q₂⟩
      | true =>
        simp only [if_true]
        replace q₂ := ite_T q₂
        refine q₂.at I₂ fun f s₃ fl σ₃ μ₃ P₃ φ₃ l₃ r₃ I₃ q₃ => ?_
        cases r₃ with
        | next => obtain ⟨m, hm, hw⟩ := q₃; exact ⟨m, hm, σ₃, μ₃, P₃, φ₃, (l.trans l₂).trans l₃, I₃, hw⟩
        | cont => obtain ⟨m, hm, hw⟩ := q₃; exact ⟨m, hm, σ₃, μ₃, P₃, φ₃, (l.trans l₂).trans l₃, I₃, hw⟩
        | brk => exact ⟨.next, σ₃, μ₃, P₃, φ₃, (l.trans l₂).trans l₃, .next, I₃, q₃⟩
        | ret hr => exact ⟨.ret _, σ₃, μ₃, P₃, φ₃, (l.trans l₂).trans l₃, .ret hr, I₃, q₃⟩)
      fun v s₂ hx => ex_noted K hro l hx)
    n ⟨σ, μ, P, φ, Le.rfl, I, h⟩)

/-- the test l == r, of which l may raise -/
theorem tsx_compare {l r : Expr} {op : CmpOp} {pos : Pos} {whole : Sem Value} {Q : Bool → List MO → Prop} {X : Value → List (Str × D) → List MO → Prop}
    (h : EvX c σ μ (eval l c.env) (kBin c σ r (op2 (compareOp op)) (kTst Q)) X)
    (hm : behindInMarks op r = false := by with_unfolding_all rfl) : TsX c σ μ (isTrue (.Compare l [op] [r] pos) c.env whole) Q X :=
  fun P φ s I => wpAny_isTrue_Compare1 (wpAny_mono (h P φ s I) (fun v₁ s₁ ⟨d₁, μ₁, P₁, φ₁, l₁, f₁, r₁, I₁, q₁⟩ => q₁.at I₁ fun v₂ s₂ d₂ μ₂ P₂ φ₂ l₂ f₂ r₂ I₂ q₂ =>
    q₂.at (vs := [v₁, v₂]) I₂ (.cons (r₁.mono l₂ f₂) (.cons r₂ .nil)) fun v s' d μ' P' φ' l f r I' ⟨b, hb, q⟩ => by
      subst hb; cases r
      exact wpAny_truthy_bool ⟨μ', P', φ', (l₁.trans l₂).trans l, (f₁.trans f₂).trans f, I', q⟩) fun _ _ x => x) hm

/-! ### with an exception in hand -/
noncomputable def cxMark (c : Cx) (h : Heap) (φ : List Addr) (P : Facts) (e : Addr) : Cx :=
  { c with A := c.A.mark (some (.ref e)), h₀ := gone h (own c φ), P₀ := P }

theorem mark_base (I : Inv c σ μ P φ s) : Kp c.up c.h₀ (gone s.heap (own c φ)) := fun b o e => by
  have hb : b ∉ own c φ := fun hm => by rw [I.apart₀ b hm] at e; cases e
  refine ⟨fun hu => (gone_other hb).trans (I.base.out e hu), ?_⟩
  obtain ⟨sl, q⟩ := I.base.slots e
  exact ⟨sl, (gone_other hb).trans q⟩

theorem to_mark (I : Inv c σ μ P φ s) (e : Addr) : Inv (cxMark c s.heap φ P e) σ μ P φ s :=
  ⟨I.fz, .of fun b o q => (gone_some q).2, fun _ _ h => .inl h, I.gens, I.os, I.ns, I.cells, I.vars, I.len, I.mu, I.nd, I.apart, fun a ha => gone_mem ha, I.lt⟩

theorem from_mark (I : Inv c σ μ P φ s) {e : Addr} {σ' : List (Str × D)} {μ' : List MO} {P' : Facts} {φ' : List Addr} {s' : Shared} (J : Inv (cxMark c s.heap φ P e) σ' μ' P' φ' s') : Inv c σ' μ' P' φ' s' :=
  ⟨J.fz, (mark_base I).trans (show Kp c.up (gone s.heap (own c φ)) s'.heap from J.base) fun _ _ _ hb => hb, fun a o h => (J.src a o h).elim (I.src a o) fun q => .inr ((mark_base I).gone q), J.gens, J.os, J.ns, J.cells, J.vars, J.len, J.mu, J.nd, J.apart, fun a ha => (mark_base I).gone (J.apart₀ a ha), J.lt⟩

theorem ok_mark (K : c.OkW mg mb) (I : Inv c σ μ P φ s) (e : Addr) : (cxMark c s.heap φ P e).OkW mg mb :=
  { kind := K.kind, glob := K.glob, blt := K.blt, base := K.base.kp (mark_base I) K.tabs, depth := K.depth, units := K.units, nm := K.nm, wcs := K.wcs, fr := K.fr, fl := K.fl
    upOk := fun L hL => by
      obtain ⟨⟨o, es, ep, e1, d, kd⟩, hP⟩ := K.upOk L hL
      obtain ⟨o', e2, d2⟩ := (mark_base I).data e1
      refine ⟨⟨o', es, ep, e2, d2.trans d, kd⟩, fun o3 h3 => ?_⟩
      rcases I.src L o3 h3 with q | q
      · exact hP o3 q
      · rw [e1] at q; cases q }

/-- a frame like c that has an exception in its hands -/
structure Marked (c cm : Cx) (mg mb : Str → Option Value) : Prop where
  prog : cm.prog = c.prog
  w : cm.w = c.w
  env : cm.env = c.env
  ro : cm.ro = c.ro
  ok : cm.OkW mg mb
  hands : Hands cm
end
end -- QExc4

section -- QExc5
section
variable {c : Cx} {σ σ' : List (Str × D)} {μ : List MO} {P : Facts} {φ : List Addr} {s : Shared} {mg mb : Str → Option Value}

theorem marked (K : c.OkW mg mb) (I : Inv c σ μ P φ s) {e : Addr} {fl : Value} (hx : ExT c φ P s.heap e .none fl) : Marked c (cxMark c s.heap φ P e) mg mb where
  prog := rfl
  w := rfl
  env := rfl
  ro := rfl
  ok := ok_mark K I e
  hands := by
    obtain ⟨ha, oe, vs, T, oT, ts, e1, e2, e3, e4, e5, e6, e7, e8, e9, e10⟩ := hx
    refine .inr ⟨e, oe, vs, rfl, fun hm => ?_, (gone_other ha.1).trans e1, e3, e4⟩
    obtain ⟨⟨o, _, _, q, _, _⟩, _⟩ := K.upOk e hm
    rw [ha.2.2] at q; cases q

/-- the exception is still there when the frame goes on -/
theorem ext_back (K : c.OkW mg mb) (I : Inv c σ μ P φ s) {e : Addr} {ctx fl : Value} (hx : ExT c φ P s.heap e ctx fl) {σ' : List (Str × D)} {μ' : List MO} {P' : Facts} {φ' : List Addr} {s' : Shared} (J : Inv (cxMark c s.heap φ P e) σ' μ' P' φ' s') :
    ExT c φ' P' s'.heap e ctx fl := by
  obtain ⟨ha, oe, vs, T, oT, ts, e1, e2, e3, e4, e5, e6, e7, e8, e9, e10⟩ := hx
  have hup : ∀ a, Apart c φ P a → a ∉ c.up := fun a h hm => by
    obtain ⟨⟨o, _, _, q, _, _⟩, _⟩ := K.upOk a hm
    rw [h.2.2] at q; cases q
  have ap : ∀ a o, Apart c φ P a → s.heap.get? a = some o → Apart c φ' P' a := fun a o h he => by
    have hg : (cxMark c s.heap φ P e).h₀.get? a = some o := (gone_other h.1).trans he
    refine ⟨fun hm => ?_, fun o' h' => ?_, h.2.2⟩
    · have := J.apart₀ a hm; rw [hg] at this; cases this
    · rcases J.src a o' h' with q | q
      · exact h.2.1 o' q
      · rw [hg] at q; cases q
  have keep : ∀ a o, Apart c φ P a → s.heap.get? a = some o → s'.heap.get? a = some o := fun a o h he =>
    J.base.out (show (cxMark c s.heap φ P e).h₀.get? a = some o from (gone_other h.1).trans he) (hup a h)
  exact ⟨ap e oe ha e1, oe, vs, T, oT, ts, keep e oe ha e1, e2, e3, e4, e5, e6, ap T oT e7 e8, keep T oT e7 e8, e9, e10⟩

theorem apart_back (I : Inv c σ μ P φ s) {e a : Addr} {P' : Facts} {φ' : List Addr} (h : Apart (cxMark c s.heap φ P e) φ' P' a) : Apart c φ' P' a :=
  ⟨h.1, h.2.1, (mark_base I).gone h.2.2⟩
theorem ex_back (I : Inv c σ μ P φ s) {e a : Addr} {P' : Facts} {φ' : List Addr} {h : Heap} {ctx : Value} (hx : Ex (cxMark c s.heap φ P e) φ' P' h a ctx) : Ex c φ' P' h a ctx := by
  rcases hx with ⟨h1, h2⟩ | ⟨h1, oe, vs, T, oT, ts, e1, e2, e3, e4, e5, e6, e7, e8⟩
  · exact .inl ⟨apart_back I h1, h2⟩
  · exact .inr ⟨apart_back I h1, oe, vs, T, oT, ts, e1, e2, e3, e4, e5, e6, apart_back I e7, e8⟩

/-- try: body finally: final -/
theorem trx_try_finally {body : List Stmt} {f₀ : Stmt} {fs : List Stmt} {pos : Pos} {Q : Fl → List (Str × D) → List MO → Prop} {X : Value → List (Str × D) → List MO → Prop} (K : c.OkW mg mb) (hro : c.ro = false) 
    (hbody : TrX c σ μ (execs body c.env) (fun fl σ' μ' => fl = .next ∧ TrX c σ' μ' (execs (f₀ :: fs) c.env) (fun g σ'' μ'' => g = .next ∧ Q .next σ'' μ'') X)
      (fun ctx σ' μ' => ctx = .none ∧ ∀ cm, Marked c cm mg mb → TrX cm σ' μ' (execs (f₀ :: fs) cm.env) (fun g σ'' μ'' => g = .next ∧ X .none σ'' μ'') X)) :
    TrX c σ μ (exec (.Try body [] [] (f₀ :: fs) pos) c.env) Q X :=
  fun P φ s I => by
    have raised : ∀ v s₁, ExPost c P (fun ctx σ' μ' => ctx = .none ∧ ∀ cm, Marked c cm mg mb → TrX cm σ' μ' (execs (f₀ :: fs) cm.env) (fun g σ'' μ'' => g = .next ∧ X .none σ'' μ'') X) v s₁ →
        wpAny (model c.prog c.w) c.A (noteFrame v c.env) (fun _ s₂ => FinallyRaised c.prog c.w c.A (ExPost c P X) c.env (f₀ :: fs) (PF c P Q) v s₂)
          (FinallyRaised c.prog c.w c.A (ExPost c P X) c.env (f₀ :: fs) (PF c P Q)) s₁ := by
      rintro v s₁ ⟨e, ctx, σ', μ', P', φ', rfl, l, I₁, hx, rfl, hfin⟩
      refine note_X K hro rfl I₁ hx fun h' J hT => ⟨fun q => (by cases q), ?_⟩
      refine note_T (s := { s₁ with heap := h' }) K hro hT ?_
      refine flight (s := { s₁ with heap := h' }) none J hT fun h2 J2 hT2 => ?_
      have M := marked (s := { s₁ with heap := h2 }) K J2 hT2
      have Jm := to_mark J2 e
      refine wpAny_mono (hfin _ M P' φ' _ Jm) (fun g s₂ ⟨fl, σ₂, μ₂, P₂, φ₂, l₂, r₂, Jm₂, hg, x₂⟩ => ?_) (fun v₂ s₂ hx₂ => ?_)
      · subst hg; cases r₂
        have J₃ := from_mark J2 Jm₂
        exact pass_on K hro J₃ (ext_back K J2 hT2 Jm₂) fun h3 J4 hT4 => ⟨e, .none, σ₂, μ₂, P₂, φ₂, rfl, l.trans l₂, J4, .inr hT4, x₂⟩
      · obtain ⟨e₂, ctx₂, σ₂, μ₂, P₂, φ₂, rfl, l₂, Jm₂, hxe, x₂⟩ := hx₂
        have J₃ := from_mark J2 Jm₂
        exact note_X (A := c.A.mark (some (.ref e))) K hro rfl J₃ (ex_back J2 hxe) fun h3 J4 hT4 => cameBack (s := { s₂ with heap := h3 }) K hro J4 hT4 fun h4 J5 hT5 => ⟨e₂, ctx₂, σ₂, μ₂, P₂, φ₂, rfl, l.trans l₂, J5, .inr hT5, x₂⟩
    refine wpAny_Try_finally (wpAny_mono (hbody P φ s I) (fun f s₁ ⟨fl, σ', μ', P', φ', l, r, I', hfl, q⟩ => ?_) fun v s₁ hx => raised v s₁ hx)
    subst hfl; cases r
    refine wpAny_execs_nil ?_
    refine wpAny_mono (q P' φ' s₁ I') (fun g s₂ ⟨fl, σ₂, μ₂, P₂, φ₂, l₂, r₂, I₂, hg, q₂⟩ => ?_) (fun v s₂ hx => ?_)
    · subst hg; cases r₂
      exact ⟨.next, σ₂, μ₂, P₂, φ₂, l.trans l₂, .next, I₂, q₂⟩
    · exact ex_noted K hro l hx
end
end -- QExc5

section -- QExc6
section
variable {c : Cx} {σ σ' : List (Str × D)} {μ : List MO} {P : Facts} {φ : List Addr} {s : Shared} {mg mb : Str → Option Value}

theorem blt_IndexError : bootBuiltins (Str.ofString "IndexError") = some (.type "IndexError") := by kernel_rfl
theorem mem_IndexError : Str.ofString "IndexError" ∈ bltNames := by decide +kernel

/-- a frame like c, with something in its hands -/
structure Like (c cm : Cx) (mg mb : Str → Option Value) : Prop where
  prog : cm.prog = c.prog
  w : cm.w = c.w
  env : cm.env = c.env
  ro : cm.ro = c.ro
  ok : cm.OkW mg mb

theorem tr_try_except {body : List Stmt} {b₀ : Stmt} {suite : List Stmt} {p hpos pos : Pos} {Q : Fl → List (Str × D) → List MO → Prop} (K : c.OkW mg mb) (hro : c.ro = false) (hk : c.env.kindOf (Str.ofString "IndexError") = some .globalImplicit)
    (hbody : TrX c σ μ (execs body c.env) Q (fun _ σ' μ' => ∀ cm, Like c cm mg mb → TrT cm σ' μ' (execs (b₀ :: suite) cm.env) Q)) :
    TrT c σ μ (exec (.Try body [.ExceptHandler (some (.Name (Str.ofString "IndexError") p)) none (b₀ :: suite) hpos] [] [] pos) c.env) Q :=
  fun P φ s I => by
    refine wpAny_Try_except (wpAny_mono (hbody P φ s I) (fun f s₁ ⟨fl, σ', μ', P', φ', l, r, I', q⟩ => ?_) fun v s₁ hx => ?_)
    · cases r with
      | next => exact wpAny_execs_nil ⟨.next, σ', μ', P', φ', l, .next, I', q⟩
      | brk => exact ⟨.brk, σ', μ', P', φ', l, .brk, I', q⟩
      | cont => exact ⟨.cont, σ', μ', P', φ', l, .cont, I', q⟩
      | ret hr => exact ⟨.ret _, σ', μ', P', φ', l, .ret hr, I', q⟩
    · obtain ⟨e, ctx, σ', μ', P', φ', rfl, l, I₁, hx, hs⟩ := hx
      refine note_X K hro rfl I₁ hx fun h' J hT => ?_
      refine flight (s := { s₁ with heap := h' }) none J hT fun h2 J2 hT2 => ?_
      refine wpAny_handleBy_builtin (X := "IndexError") (T := "IndexError") (b := true) (by kernel_rfl) (by kernel_rfl) (by kernel_rfl) ?_
      have hb := K.base.blt _ mem_IndexError
      refine Calls.Name_function_global K.kind hk (Calls.loadGlobal_builtin (mg := mg) (mb := mb) (by rw [K.glob]; exact J2.base.ns K.base.g) hb.1 (by rw [K.blt]; exact J2.base.ns K.base.b) (hb.2.trans blt_IndexError) ⟨rfl, ?_, ?_⟩) (K.nm _ _ hk).1
      · obtain ⟨ha, oe, vs, T, oT, ts, e1, e2, r⟩ := hT2
        exact ⟨oe, e1, e2⟩
      · simp only [if_true]
        refine flight (s := { s₁ with heap := h2 }) none J2 hT2 fun h3 J3 hT3 => ?_
        have Jm := to_mark J3 e
        refine wpAny_mono (hs (cxMark c h3 φ' P' e) ⟨rfl, rfl, rfl, rfl, ok_mark (s := { s₁ with heap := h3 }) K J3 e⟩ P' φ' _ Jm) (fun f s₂ ⟨fl, σ₂, μ₂, P₂, φ₂, l₂, r₂, Jm₂, q₂⟩ => ?_) fun _ _ x => x.elim
        exact ⟨fl, σ₂, μ₂, P₂, φ₂, l.trans l₂, r₂, from_mark J3 Jm₂, q₂⟩
end
end -- QExc6

section -- QDiff0
theorem list_extendW (l : Addr) (items : Array Value) (n : Nat) (b : Addr) (items2 : Array Value) (n2 : Nat) (dd dd2 : Option Addr) (sl sl2 : Array (Option Value)) (hc0 : ¬(!items.isEmpty && Builtin.List.listTooLong (items.size + items2.size)) = true) (hc1 : items.size ≤ sizeLine) (hs2 : items.size + items2.size ≤ sizeLine + 1) :
    Meets (Builtin.«list.extend» ⟨[.ref l, .ref b], []⟩) (fun _ R s => s.heap.get? l = some { cls := .type "list", dict := dd, data := .seq items n, slots := sl } ∧ s.heap.get? b = some { cls := .type "list", dict := dd2, data := .seq items2 n2, slots := sl2 } ∧ R (.ok (.ret Value.none)) { s with heap := s.heap.update l (Obj.mapSeq fun x => x ++ items2), toks := s.toks }) :=
  .of_wp fun prog w A R s h => by
    obtain ⟨hp, g, d, tk, os⟩ := s; obtain ⟨hl, hb, h⟩ := h; have f1 := AutoSeq1.idx_int; have f2 := AutoSeq1.sub_tuple_tuple; have f3 := AutoSeq1.sub_list_list; have f4 := AutoSeq1.sub_tuple_list; have f5 := AutoSeq1.sub_list_tuple;
    have hz' : (items ++ items2).size ≤ sizeLine + 1 := by rw [Array.size_append]; exact hs2
    wp_walk using (wpAny_updateSeq hl rfl (hz := hc1) (_hz' := hz')), wpAny_loadPart' hl, wpAny_loadPart' hb; exact ⟨_, rfl, h⟩

section
variable {c : Cx} {σ σ' : List (Str × D)} {μ : List MO} {P : Facts} {φ : List Addr} {s : Shared} {mg mb : Str → Option Value} {Q : D → List MO → Prop}

theorem extend_ok {k : Nat} {ds es : List D} {a : Addr} {v : Value} (I : Inv c σ μ P φ s) (hφ : φ[k]? = some a) (hk : μ[k]? = some (.lst ds)) (hr : R P φ v (.lst es)) (hb : ds.length + es.length ≤ 1000) (h : Q .none (μ.set k (.lst (ds ++ es)))) :
    wpAny (model c.prog c.w) c.A (call (.builtin "list.extend") [.ref a, v]) (PV c σ P φ Q) noE s := by
  obtain ⟨o, ho, hm⟩ := I.mu _ _ _ hφ hk
  obtain ⟨vs, n, hc, hdn, hdat, hrs⟩ := hm.inv
  cases hr with
  | @lst a2 o2 ws n2 _ hP2 hc2 hdat2 hrs2 =>
    have hlen : vs.size = ds.length := by have := hrs.length; simpa using this
    have hlen2 : ws.size = es.length := by have := hrs2.length; simpa using this
    have ho2 := I.fz _ _ hP2
    obtain ⟨cls, dd, data, sl⟩ := o
    obtain ⟨cls2, dd2, data2, sl2⟩ := o2
    simp only at hc hdat hc2 hdat2 hdn
    subst hc hdat hc2 hdat2 hdn
    obtain ⟨n', hd'⟩ := Obj.data_mapSeq (o := { cls := .type "list", dict := none, data := .seq vs n, slots := sl }) rfl (· ++ ws)
    have hT : s.TypeIs (.ref a) "list" := ⟨_, ho, rfl⟩
    have hget := Heap.get?_update_self (Obj.mapSeq (· ++ ws)) ho rfl
    have J := I.setMu (t := s.toks) hφ (Heap.SameBut.update ..) hget (m := .lst (ds ++ es)) (.lst rfl rfl hd' (by simpa using hrs.append hrs2))
    exact call_meets PySem.F.slot_list_extend hT PySem.F.entry_list_extend (PySem.F.args_list_extend_2 _ _) (list_extendW a vs n a2 ws n2 none dd2 sl sl2 (by
      simp only [Bool.and_eq_true, not_and]; intro _; unfold Builtin.List.listTooLong; rw [sizeLine_eq]; simp; omega) (by rw [sizeLine_eq]; omega) (by rw [sizeLine_eq]; omega)) ⟨ho, ho2, ⟨.none, _, P, φ, Le.rfl, List.prefix_refl _, .none, J, h⟩⟩

/-- o.extend(e), e a list that stays -/
theorem ev_extend {o e : Expr} {apos pos : Pos}
    (h : EvT c σ μ (eval o c.env) (fun d μ₁ => ∃ k, d = .ref k ∧ (∃ ds, μ₁[k]? = some (.lst ds)) ∧ EvT c σ μ₁ (eval e c.env) (fun a μ₂ => ∃ ds es, a = .lst es ∧ μ₂[k]? = some (.lst ds) ∧ ds.length + es.length ≤ 1000 ∧ Q .none (μ₂.set k (.lst (ds ++ es))))))
    (hbase : attributeBase o "extend" c.env (eval o c.env) = eval o c.env) (hst : notStar e = true) (hline : (apos.endLine == pos.line) = true) :
    EvT c σ μ (eval (.Call (.Attribute o "extend" apos) [e] [] pos) c.env) Q :=
  fun P φ s I => wpAny_Call_method hbase (by
      rw [show starEach [e] c.env = [(false, eval e c.env)] from star_of hst]; rfl) hline F.plainAttrs_list F.slot_list_extend F.type_list_extend
    (h.at I fun v s₁ d μ₁ P₁ φ₁ l₁ f₁ r₁ I₁ ⟨k, hd, ⟨ds, hk⟩, q₁⟩ => by
      subst hd
      obtain ⟨ad, rfl, hφ⟩ := r₁.inv
      obtain ⟨ob, ho, hm⟩ := I₁.mu _ _ _ hφ hk
      obtain ⟨vs, n, hc, hdn, hdat, hrs⟩ := hm.inv
      refine ⟨⟨ob, ho, hc⟩, fun a ha => by cases ha; exact ⟨ob, ho, hdn⟩, ?_⟩
      refine callWith_method1 (evs_c (Q := fun ds μ => ∃ es, ds = [.lst es] ∧ ∃ ds, μ[k]? = some (.lst ds) ∧ ds.length + es.length ≤ 1000 ∧ Q .none (μ.set k (.lst (ds ++ es)))) hst (q₁.mono fun a μ₂ ⟨ds, es, e1, h⟩ => evs_nil ⟨es, by rw [e1], ds, h⟩) |>.at I₁ fun vs s₂ as μ₂ P₂ φ₂ l₂ f₂ r₂ I₂ ⟨es, ha, ds, hk₂, hb, q₂⟩ => ?_) (star_of hst) plain_nil
      subst ha
      obtain ⟨_, _, rfl, r2, r3⟩ := r₂.inv
      (first | obtain rfl := r3.inv | obtain ⟨_, rfl⟩ := r3.inv)
      have hφ' : φ₂[k]? = some ad := by obtain ⟨t, rfl⟩ := f₂; rw [List.getElem?_append_left (List.getElem?_eq_some_iff.mp hφ).1]; exact hφ
      exact wpAny_mono (extend_ok I₂ hφ' hk₂ r2 hb q₂) (fun v s' ⟨d, μ', P', φ', l, f, r, I', q⟩ => ⟨d, μ', P', φ', (l₁.trans l₂).trans l, (f₁.trans f₂).trans f, r, I', q⟩) fun _ _ x => x)

/-- x = y = e -/
theorem tr_assign2 {x y : Str} {p1 p2 pos : Pos} {value : Expr} {Q : Fl → List (Str × D) → List MO → Prop} (K : c.OkW mg mb) {sc : Scope} (hsc : c.env.scope = sc) (hx : c.st x) (hy : c.st y)
    (h : EvT c σ μ (eval value c.env) (fun d μ' => ∃ σ₁ σ₂, Upd σ x d σ₁ ∧ Upd σ₁ y d σ₂ ∧ Q .next σ₂ μ'))
    (hw : swS sc [.Name x p1, .Name y p2] value = pure none) : TrT c σ μ (exec (.Assign [.Name x p1, .Name y p2] value pos) c.env) Q :=
  fun P φ s I => wpAny_Assign_two (h.at I fun v s₁ d μ₁ P₁ φ₁ l₁ f₁ r₁ I₁ ⟨σ₁, σ₂, u1, u2, q⟩ =>
    wpAny_assign_Name (store_ok K I₁ hx u1 r₁ fun s₂ I₂ => wpAny_assign_Name (store_ok K I₂ hy u2 r₁ fun s₃ I₃ => ⟨.next, σ₂, μ₁, P₁, φ₁, l₁, .next, I₃, q⟩))) rfl (by rw [swS_eq, hsc]; exact hw)
end
end -- QDiff0

section -- QBnd
namespace FB
theorem md_get : Slot "method_descriptor" "__get__" "method_descriptor.__get__" :=
  .of (owner := "method_descriptor") (n := "__get__") (by rw [typeLookup_type, builtinLookup_eq_fast]; kernel_rfl) (by decide +kernel) (by decide +kernel) (by decide +kernel)
    (by first | exact .inl (by decide +kernel) | exact .inr (by decide +kernel)) (by rw [isSubtype_type]; kernel_rfl)
theorem md_set : typeLookup (.type "method_descriptor") "__set__" = pure none := by rw [typeLookup_type, builtinLookup_eq_fast]; kernel_rfl
theorem md_delete : typeLookup (.type "method_descriptor") "__delete__" = pure none := by rw [typeLookup_type, builtinLookup_eq_fast]; kernel_rfl
theorem entry_md_get : entryFor table "method_descriptor.__get__" = some Builtin.«method_descriptor.__get__» := entryFor_of_tree (by kernel_rfl)
theorem args_md_get (a b c : Value) : argsOk "method_descriptor.__get__" ⟨[a, b, c], []⟩ := by unfold argsOk; kernel_rfl
theorem sub_list_list : isSubtype (.type "list") (.type "list") = pure true := by rw [isSubtype_type]; kernel_rfl
theorem owner_append : (".".intercalate ("list.append".cutAt '.').dropLast) = "list" := by
  have e0 : "list.append".cutAt '.' = ["list", "append"] := by first | rfl | decide +kernel
  rw [e0]; decide +kernel
theorem sub_append : isSubtype (.type "list") (.type (".".intercalate ("list.append".cutAt '.').dropLast)) = pure true := by rw [owner_append, isSubtype_type]; kernel_rfl
theorem told_append : Manifest.toldItsClass.contains "list.append" = false := by decide +kernel
theorem getattr_none : typeLookup (.type "list") "__getattr__" = pure none := am_list_getattr_none
end FB


section
variable {prog : Program} {w : World} {A : Around} {E : Value → Shared → Prop} {h : Heap} {g : Array GenState} {d : Drawn} {t : Nat} {os : OsState} {a : Addr} {o : Obj}

theorem append_get {R : Result → Shared → Prop} (hx : h.get? a = some o) (hc : o.cls = .type "list") (hq : R (.ok (.ret (.ref h.objs.size))) ⟨h.push (boundObj "list.append" (.ref a)), g, d, t, os⟩) :
    codeAny (model prog w) A (.call (.builtin "method_descriptor.__get__") ⟨[.builtin "list.append", .ref a, .type "list"], []⟩) R ⟨h, g, d, t, os⟩ := by
  have hT : (⟨h, g, d, t, os⟩ : Shared).TypeIs (.ref a) "list" := ⟨_, hx, hc⟩
  have hT5 : (⟨h, g, d, t, os⟩ : Shared).TypeIs (.builtin "list.append") "method_descriptor" := F.type_list_append
  have f8 := FB.sub_append
  have f9 := FB.told_append
  refine codeAny_call_builtin FB.md_get.plain FB.entry_md_get (FB.md_get.check _ _ _ _ _ _ _ _ hT5 (FB.args_md_get _ _ _) ?_)
  unfold Builtin.«method_descriptor.__get__»
  refine wpAny_bind ?_
  refine wpAny_of_eq (a := (.builtin "list.append", some (.ref a), some (.type "list"))) (by rfl) ?_
  dsimp only
  rw [if_neg (by rw [f9]; decide)]
  repeat (any_goals (first | assumption | wp_step))

theorem append_entry {xs : Array Value} {k : Nat} {sl : Array (Option Value)} {tk : Tok} {Q : Fin → Shared → Prop} (hx : h.get? a = some { cls := .type "list", dict := none, data := .seq xs k, slots := sl })
    (hq : Q (.done (.ret (.ref h.objs.size))) ⟨h.push (boundObj "list.append" (.ref a)), g, d, t, os⟩) :
    wpAny (model prog w) A (Builtin.«object.__getattribute__» ⟨[.ref a, .str "append" tk], []⟩) Q E ⟨h, g, d, t, os⟩ := by
  have hT : (⟨h, g, d, t, os⟩ : Shared).TypeIs (.ref a) "list" := ⟨_, hx, rfl⟩
  have hT5 : (⟨h, g, d, t, os⟩ : Shared).TypeIs (.builtin "list.append") "method_descriptor" := F.type_list_append
  have f4 := F.slot_list_append.lookup
  have f5 := F.type_list_append
  have f6 := FB.md_get.lookup
  have f7 := FB.md_set
  have f8 := FB.md_delete
  repeat (any_goals (first | assumption | wp_step))
  refine append_get hx rfl ?_
  repeat (any_goals (first | assumption | wp_step))

theorem append_call {xs : Array Value} {k : Nat} {sl : Array (Option Value)} {tk : Tok} {R : Result → Shared → Prop} (hx : h.get? a = some { cls := .type "list", dict := none, data := .seq xs k, slots := sl })
    (hq : R (.ok (.ret (.ref h.objs.size))) ⟨h.push (boundObj "list.append" (.ref a)), g, d, t, os⟩) :
    codeAny (model prog w) A (.call (.builtin "list.__getattribute__") ⟨[.ref a, .str "append" tk], []⟩) R ⟨h, g, d, t, os⟩ :=
  codeAny_call_builtin F.slot_list_getattribute.plain F.entry_list_ga (F.slot_list_getattribute.check _ _ _ _ _ _ _ _ (show (⟨h, g, d, t, os⟩ : Shared).TypeIs (.ref a) "list" from ⟨_, hx, rfl⟩) (F.args_list_getattribute_2 _ _) (append_entry hx hq))

theorem append_attr {xs : Array Value} {k : Nat} {sl : Array (Option Value)} {Q : Value → Shared → Prop} (hx : h.get? a = some { cls := .type "list", dict := none, data := .seq xs k, slots := sl })
    (hq : Q (.ref h.objs.size) ⟨h.push (boundObj "list.append" (.ref a)), g, d, t + 1, os⟩) :
    wpAny (model prog w) A (getAttr (.ref a) "append" true) Q E ⟨h, g, d, t, os⟩ := by
  have hT : (⟨h, g, d, t + 1, os⟩ : Shared).TypeIs (.ref a) "list" := ⟨_, hx, rfl⟩
  have f2 := F.slot_list_getattribute.lookup
  have f3 := F.slot_list_getattribute.bind (.ref a)
  unfold getAttr getAttrBy
  repeat (any_goals (first | assumption | wp_step))
  refine append_call hx ?_
  repeat (any_goals (first | assumption | wp_step))

end
end -- QBnd

section -- QBnd2
section
variable {prog : Program} {w : World} {A : Around} {E : Value → Shared → Prop} {h : Heap} {g : Array GenState} {d : Drawn} {t : Nat} {os : OsState} {a : Addr} {o : Obj}
theorem sig_append : (Manifest.signature? "list.append").isSome = true := by decide +kernel
noncomputable def sgAppend := (Manifest.signature? "list.append").get sig_append
theorem sig_append_eq : Manifest.signature? "list.append" = some sgAppend := by unfold sgAppend; simp
theorem kind_append : builtinKind "list.append" = some .method := by decide +kernel
theorem sub_list_module : isSubtype (.type "list") (.type "module") = pure false := by rw [isSubtype_type]; kernel_rfl
theorem sub_list_type : isSubtype (.type "list") (.type "type") = pure false := by rw [isSubtype_type]; kernel_rfl
theorem varargs_append : Manifest.varargsMethods.contains "list.append" = false := by decide +kernel
theorem check_append (a v : Value) : Bind.checkArgs "list.append" { sgAppend with full := s!"{Bind.lastOf "list"}.{Bind.lastOf "list.append"}" } ⟨[a, v], []⟩ = pure () := by kernel_rfl
theorem quiet_append (a v : Value) : (Code.builtin "list.append" ⟨[a, v], []⟩).quiet = true := Code.quiet_builtin _ (by decide +kernel)

theorem bound_append {b : Addr} {v : Value} {R : Result → Shared → Prop} (hb : h.get? b = some (boundObj "list.append" (.ref a)))
    (hx : h.get? a = some o) (hc : o.cls = .type "list") {xs : Array Value} {k : Nat} (hd : o.data = .seq xs k) (hq : codeAny (model prog w) A (.builtin "list.append" ⟨[.ref a, v], []⟩) R ⟨h, g, d, t, os⟩) :
    codeAny (model prog w) A (.call (.ref b) ⟨[v], []⟩) R ⟨h, g, d, t, os⟩ := by
  have hT : (⟨h, g, d, t, os⟩ : Shared).TypeIs (.ref a) "list" := ⟨_, hx, hc⟩
  refine codeAny_of_tree ?_
  show wpAny _ A.in1 (callAny (.ref b) ⟨[v], []⟩) _ _ _
  simp only [callAny]
  refine wpAny_bind (wpAny_load' hb ?_)
  dsimp only
  refine wpAny_ite_true rfl ?_
  show wpAny _ A.in1 (if (Value.type "builtin_function_or_method" != Value.type "method") = true then do checkBoundCall "list.append" ⟨[.ref a, v], []⟩; again (Code.builtin "list.append" ⟨[.ref a, v], []⟩) else again (Code.call (.builtin "list.append") ⟨[.ref a, v], []⟩)) _ _ _
  refine wpAny_ite_true rfl ?_
  refine wpAny_bind ?_
  unfold checkBoundCall
  rw [sig_append_eq, kind_append]
  dsimp only
  refine wpAny_ite_false rfl ?_
  refine wpAny_bind (wpAny_isInstance hT sub_list_module ?_)
  refine wpAny_ite_false (by rw [varargs_append]; rfl) ?_
  unfold isType
  refine wpAny_bind (wpAny_bind (wpAny_loadPart' hx ?_))
  rw [hd]
  refine wpAny_pure ?_
  refine wpAny_bind (m := typeOf (.ref a)) (wpAny_typeOf hT ?_)
  show wpAny _ _ (Bind.checkArgs "list.append" { sgAppend with full := s!"{Bind.lastOf "list"}.{Bind.lastOf "list.append"}" } ⟨[.ref a, v], []⟩) _ _ _
  rw [check_append]
  exact wpAny_pure (wpAny_pure ⟨quiet_append _ _, hq⟩)
end
end -- QBnd2

section -- QBnd3
section
variable {M : Model} {A : Around} {E : Value → Shared → Prop} {s : Shared}
theorem callWith_bound {pos : Pos} {b a : Addr} {args : List (Bool × Sem Value)} {Q : Value → Shared → Prop} (hplain : args.any (·.1) = false)
    (h : wpAny M A (evalArgs (.ref b) true args []) (fun x s₁ => s₁.heap.get? b = some (boundObj "list.append" (.ref a)) ∧ wpAny M A (call (.ref b) x.pos x.kw) Q E s₁) E s) :
    wpAny M A (callWith pos (.ref b) [] args []) Q E s := by
  unfold callWith
  refine wpAny_bind (wpAny_holding (wpAny_mono h (fun x s₁ h₁ => wpAny_bind (wpAny_standAt ?_)) fun _ _ x => x))
  have tail : ∀ {t : Sem Value}, wpAny M A t Q E s₁ → wpAny M A (t >>= fun r => holding [r] point >>= fun _ => pure r) Q E s₁ :=
    fun ht => wpAny_bind (wpAny_mono ht (fun r s₂ hr => wpAny_bind (wpAny_holding (wpAny_point (wpAny_pure hr)))) fun _ _ x => x)
  simp only [hplain, List.any_nil, Bool.or_false]
  refine wpAny_bind (m := keeperOf (.ref b)) ?_
  unfold keeperOf
  refine wpAny_bind (wpAny_load h₁.1 ?_)
  dsimp only
  refine wpAny_ite_true rfl ?_
  exact wpAny_pure (tail h₁.2)
end

section
variable {prog : Program} {w : World} {A : Around} {s : Shared}
theorem append_code {l : Addr} {its : Array Value} {x : Value} {R : Result → Shared → Prop}
    (hl : PlainL s.heap l its) (hQ : ∀ h', PlainL h' l (its.push x) → Heap.SameBut l s.heap h' → R (.ok (.ret .none)) { s with heap := h' })
    (hsz : its.size ≤ sizeLine) : codeAny (model prog w) A (.builtin "list.append" ⟨[.ref l, x], []⟩) R s := by
  obtain ⟨o, n, ho, hc, hdn, hd⟩ := id hl
  obtain ⟨n', hd'⟩ := Obj.data_mapSeq hd (·.push x)
  refine codeAny_builtin entry_list_append ?_
  show wpAny _ _ (updateSeq l (·.push x) >>= fun _ => ret .none) _ _ s
  refine wpAny_bind ?_
  refine wpAny_updateSeq ho hd (wpAny_pure (hQ _ ?_ (Heap.SameBut.update ..)))
  refine ⟨_, n', Heap.get?_update_self _ ho (Obj.isFreed_of_seq hd'), (Obj.cls_mapSeq ..).trans hc, ?_, hd'⟩
  obtain ⟨c, d, dt, sl⟩ := o
  subst hd
  exact hdn
end

section
variable {c : Cx} {σ σ' : List (Str × D)} {μ : List MO} {P : Facts} {φ : List Addr} {s : Shared} {mg mb : Str → Option Value} {Q : D → List MO → Prop}

/-- x.append, kept -/
theorem ev_bound {x : Str} {np pos : Pos} {k : Nat} {ds : List D} (K : c.OkW mg mb) (hx : (x, .ref k) ∈ σ) (hk : μ[k]? = some (.lst ds)) (h : Q (.ref μ.length) (μ ++ [.bnd k])) :
    EvT c σ μ (eval (.Attribute (.Name x np) "append" pos) c.env) Q :=
  fun P φ s I => Attribute_name ((ev_name (Q := fun d μ' => d = .ref k ∧ μ' = μ) K hx ⟨rfl, rfl⟩).at I fun v s₁ d μ₁ P₁ φ₁ l₁ f₁ r₁ I₁ ⟨hd, hμ⟩ => by
    subst hd hμ
    obtain ⟨ad, rfl, hφ⟩ := r₁.inv
    obtain ⟨ob, ho, hm⟩ := I₁.mu _ _ _ hφ hk
    obtain ⟨vs, n, hc, hdn, hdat, hrs⟩ := hm.inv
    obtain ⟨cls, dd, data, sl⟩ := ob
    simp only at hc hdn hdat
    subst hc hdn hdat
    have J := I₁.pushMu (o := boundObj "list.append" (.ref ad)) (m := .bnd k) (.bnd hφ) rfl (s₁.toks + 1)
    obtain ⟨hp, g, dr, tk, os⟩ := s₁
    refine append_attr ho ?_
    exact ⟨.ref μ₁.length, _, P₁, _, l₁, f₁.trans (List.prefix_append _ _), .ref (by rw [← I₁.len]; simp), J, h⟩)

/-- f(e), f a kept append -/
theorem ev_acall {f : Str} {np pos : Pos} {e : Expr} {k j : Nat} (K : c.OkW mg mb) (hf : (f, .ref k) ∈ σ) (hkd : μ[k]? = some (.bnd j)) (hst : notStar e = true)
    (h : EvT c σ μ (eval e c.env) (fun a μ₂ => μ₂[k]? = some (.bnd j) ∧ ∃ ds, μ₂[j]? = some (.lst ds) ∧ ds.length ≤ 1000 ∧ Q .none (μ₂.set j (.lst (ds ++ [a]))))) :
    EvT c σ μ (eval (.Call (.Name f np) [e] [] pos) c.env) Q :=
  fun P φ s I => Call_ ((ev_name (Q := fun d μ' => d = .ref k ∧ μ' = μ) K hf ⟨rfl, rfl⟩).at I fun v s₁ d μ₁ P₁ φ₁ l₁ f₁ r₁ I₁ ⟨hd, hμ⟩ => by
    subst hd hμ
    obtain ⟨b, rfl, hφ⟩ := r₁.inv
    obtain ⟨ob0, ho0, hm0⟩ := I₁.mu _ _ _ hφ hkd
    cases hm0 with
    | @bnd ad0 _ hφj0 =>
    refine callWith_bound (a := ad0) (plain_all (es := [e]) (by simp [hst])) ?_
    have hee : backTo pos (starEach [e] c.env) = (false, eval e c.env) :: backTo pos (starEach [] c.env) := by rw [star_of hst]; rfl
    rw [hee]
    refine Calls.evalArgs_plain ?_
    rw [← hee]
    refine (evs_c (Q := fun ds μ => ∃ a, ds = [a] ∧ μ[k]? = some (.bnd j) ∧ ∃ ds, μ[j]? = some (.lst ds) ∧ ds.length ≤ 1000 ∧ Q .none (μ.set j (.lst (ds ++ [a])))) hst (h.mono fun a μ₂ h => evs_nil ⟨a, rfl, h⟩)).at I₁ fun vs s₂ as μ₂ P₂ φ₂ l₂ f₂ r₂ I₂ ⟨a, ha, hk₂, ds, hj₂, hb, q₂⟩ => ?_
    subst ha
    obtain ⟨_, _, rfl, r2, r3⟩ := r₂.inv
    (first | obtain rfl := r3.inv | obtain ⟨_, rfl⟩ := r3.inv)
    have hφ' : φ₂[k]? = some b := by obtain ⟨t, rfl⟩ := f₂; rw [List.getElem?_append_left (List.getElem?_eq_some_iff.mp hφ).1]; exact hφ
    have hφj : φ₂[j]? = some ad0 := by obtain ⟨t, rfl⟩ := f₂; rw [List.getElem?_append_left (List.getElem?_eq_some_iff.mp hφj0).1]; exact hφj0
    obtain ⟨ob, ho, hm⟩ := I₂.mu _ _ _ hφ' hk₂
    obtain ⟨ol, hol, hml⟩ := I₂.mu _ _ _ hφj hj₂
    cases hm with
    | @bnd ad _ hφa =>
      rw [hφj] at hφa; cases hφa
      obtain ⟨vs, n, hc, hdn, hdat, hrs⟩ := hml.inv
      refine ⟨ho, wpAny_call ?_⟩
      have hlen : vs.size = ds.length := by have := hrs.length; simpa using this
      have hpl : PlainL s₂.heap ad0 vs := ⟨ol, n, hol, hc, hdn, hdat⟩
      obtain ⟨hp, g, dr, tk, os⟩ := s₂
      refine bound_append ho hol hc hdat ?_
      refine append_code hpl (fun h' hp' hs' => ?_) (by rw [hlen, sizeLine_eq]; omega)
      obtain ⟨o', n', ho', hc', hd', hdat'⟩ := hp'
      have J := I₂.setMu (t := tk) hφj hs' ho' (m := .lst (ds ++ [_])) (.lst hc' hd' hdat' (by simpa using hrs.snoc r2))
      exact ⟨.none, _, P₂, φ₂, l₁.trans l₂, f₁.trans f₂, .none, J, q₂⟩) name_call
end
end -- QBnd3

local macro_rules | `(tactic| ks_step $s:str) => qStep s.getString
section -- QEsc
noncomputable def escS (ch : Nat) : Str := if ch ∈ mapKeys then S [92, ch] else S [ch]
theorem esc_walk {c : Cx} {mg mb : Str → Option Value} (K : c.Ok mg mb) (hsc : c.env.scope = (defAt 7).scope) (ch : Nat) :
    TrT c [(Str.ofString "pattern", .str (S [ch]))] [] (execs (defAt 7).body c.env) (fun fl _ _ => fl = .ret (.str (escS ch))) := by
  conv at hsc => rhs; whnf
  obtain ⟨a, ha, h2, h3⟩ := K.base.map
  refine tr_cons ?_
  refine tr_if ?_
  refine ts_value ?_ rfl
  refine ev_bcall blt_isinstance K mem_isinstance (by ks_step "kind") (by ks_step "stars") ?_
  repeat (ks_step "op")
  refine ev_blt K (by ks_step "kind") mem_str blt_str ?_
  repeat (ks_step "op")
  refine op_isinst_str ?_
  refine tru_bool ?_
  refine ite_t rfl ?_
  repeat (ks_step "op")
  refine ev_smeth F.slot_str_translate F.type_str_translate ?_ rfl rfl plain_nil rfl rfl
  repeat (ks_step "op")
  refine ev_global K (by ks_step "kind") ha ?_
  repeat (ks_step "op")
  refine op_translate K ha ?_
  repeat (ks_step "op")
  rfl
theorem esc_con {prog : Program} {w : World} {mg mb : Str → Option Value} (ch : Nat) :
    Con prog w mg mb 1 (defAt 7) [.str (S [ch])] (fun e => e = .str (escS ch)) :=
  con_intro (xs := [Str.ofString "pattern"]) (by intro pm code doc vs h; obtain ⟨v1, rfl⟩ := len1 h; kernel_rfl) rfl (by decide +kernel) (by decide +kernel) (by decide +kernel) (by decide +kernel) (by kernel_rfl) (by kernel_rfl) (by kernel_rfl)
    fun c h1 h2 h3 h4 _ K => (esc_walk K h3 ch).mono fun fl σ' μ' h => ⟨_, _, .inl h, .pure rfl, rfl⟩
end -- QEsc


section -- QItem
theorem S_inj {a b : List Nat} (h : S a = S b) : a = b := by simpa [S] using h
theorem cut_S (t : List Nat) (n m : Nat) (hnm : n ≤ m) : cutS (S t) (some (n : Int)) (some (m : Int)) = S ((t.drop n).take (m - n)) := by
  unfold cutS
  show (⟨_⟩ : Str) = ⟨_⟩
  congr 2
  show List.take (clipAt (S t).length m - clipAt (S t).length n) (List.drop (clipAt (S t).length n) (S t).cps.toList) = _
  rw [clipAt_nat, clipAt_nat, S_length]
  show List.take (min m t.length - min n t.length) (List.drop (min n t.length) t) = _
  by_cases h : n ≤ t.length
  · rw [Nat.min_eq_left h]
    by_cases h2 : m ≤ t.length
    · rw [Nat.min_eq_left h2]
    · rw [Nat.min_eq_right (by omega), List.take_of_length_le (by simp), List.take_of_length_le (by simp; omega)]
  · rw [List.drop_eq_nil_of_le (by omega), List.drop_eq_nil_of_le (by omega)]; simp
section
variable {c : Cx} {σ : List (Str × D)} {μ : List MO} {Q : D → List MO → Prop}
/-- one sign of a text -/
theorem sub_S {value slice : Expr} {t A B : List Nat} {ch : Nat} {i : Int} (ht : t = A ++ ch :: B) (hi : i = (A.length : Nat)) (hl : t.length ≤ 1000) (h : Q (.str (S [ch])) μ)
    (hs : ∀ o i, subscripted slice false o i = operate [o, i] (getItem o i) := by intro _ _; with_unfolding_all rfl) :
    OpT c σ μ [.str (S t), .int i] (subT c value slice) Q := by
  subst hi
  refine sub_str (ch := ch) ⟨by omega, by rw [S_length, ht]; simp; omega⟩ (by rw [S_length]; omega) ?_ h hs
  have e : place ((A.length : Nat) : Int) (S t).length = A.length := by unfold place; rw [if_neg (by omega)]; omega
  rw [e, S_cps, ht]; simp
end
section
variable {c : Cx} {σ : List (Str × D)} {μ : List MO} {Q : D → List MO → Prop}
theorem ite_ints {b : Bool} {i j : Int} {k k' : Nat} {p p' : Pos} (h : Q (.int (if b = true then i else j)) μ) : if b = true then EvT c σ μ (eval (.Constant (.int i) k p) c.env) Q else EvT c σ μ (eval (.Constant (.int j) k' p') c.env) Q := by
  cases b <;> exact ev_int h
end
/-- what an item's text says -/
noncomputable def segTx : List (Bool × Nat) → List Nat
  | [] => []
  | (true, ch) :: r => 92 :: ch :: segTx r
  | (false, ch) :: r => ch :: segTx r
theorem seg_app : ∀ a b : List (Bool × Nat), segTx (a ++ b) = segTx a ++ segTx b
  | [], _ => rfl
  | (true, ch) :: r, b => by simp [segTx, seg_app r b]
  | (false, ch) :: r, b => by simp [segTx, seg_app r b]
theorem seg_len : ∀ a : List (Bool × Nat), a.length ≤ (segTx a).length
  | [] => Nat.le_refl _
  | (true, ch) :: r => by have := seg_len r; simp [segTx]; omega
  | (false, ch) :: r => by have := seg_len r; simp [segTx]; omega
noncomputable def OkSeg (l : List (Bool × Nat)) : Prop := ∀ p ∈ l, p.1 = false → p.2 ≠ 93 ∧ p.2 ≠ 92
noncomputable def plainCh (ch : Nat) : Prop := ch ∉ [46, 92, 91, 40, 41, 42, 43, 63, 123, 125, 124, 94, 36]
inductive ItemTx : List Nat → Bool → List Nat → Prop
  | no : ItemTx [40, 63, 33, 41] false []
  | dot : ItemTx [46] true []
  | esc (ch : Nat) : ItemTx [92, ch] false [ch]
  | chr {ch : Nat} (h : plainCh ch) : ItemTx [ch] false [ch]
  | set {l : List (Bool × Nat)} (b : Bool) (h : OkSeg l) (h2 : b = false → ∀ r, segTx l ≠ 94 :: r) : ItemTx (91 :: ((if b then [94] else []) ++ (segTx l ++ [93]))) b (l.map (·.2))
theorem in_spec {ch : Nat} (hne : ∀ k ∈ [40, 41, 42, 43, 63, 123, 125, 124, 94, 36], ch ≠ k) : (!(Builtin.Str.occurrences (Str.ofString "()*+?{}|^$") (S [ch]) 0 (Str.ofString "()*+?{}|^$").length 1).isEmpty) = false := by
  show (!(Builtin.Str.occurrences (Str.ofString "()*+?{}|^$") ⟨#[ch]⟩ 0 (Str.ofString "()*+?{}|^$").length 1).isEmpty) = false
  rw [in_sign, show (Str.ofString "()*+?{}|^$").cps.toList = [40, 41, 42, 43, 63, 123, 125, 124, 94, 36] by decide +kernel]
  first | refine qi (Bool.eq_false_iff) ?_ | refine qs (Bool.eq_false_iff) ?_ | refine qt (Bool.eq_false_iff) ?_ | refine qb (Bool.eq_false_iff) ?_ | refine qm (Bool.eq_false_iff) ?_ | refine q1 (Bool.eq_false_iff) ?_ | rw [Bool.eq_false_iff]
  intro hc
  exact hne ch (by simpa using hc) rfl
theorem cut_no (t A r : List Nat) (ch : Nat) (ht : t = A ++ ch :: r) (hc : ch ≠ 40) : (cutS (S t) (some ((A.length : Nat) : Int)) (some (((A.length : Nat) : Int) + 4)) == Str.ofString "(?!)") = false := by
  have e4 : ((A.length : Nat) : Int) + 4 = ((A.length + 4 : Nat) : Int) := by push_cast; rfl
  have es : Str.ofString "(?!)" = S [40, 63, 33, 41] := by decide +kernel
  rw [e4, cut_S _ _ _ (by omega), es, S_beq, ht]
  simp [hc]
noncomputable abbrev iS (t : List Nat) (i : Int) : List (Str × D) := [(Str.ofString "text", .str (S t)), (Str.ofString "at", .int i)]
theorem item_walk {c : Cx} {mg mb : Str → Option Value} (K : c.Ok mg mb) (hsc : c.env.scope = (defAt 14).scope) (A B tx : List Nat) (b : Bool) (sg : List Nat) (h : ItemTx tx b sg) (hl : (A ++ tx ++ B).length ≤ 1000) :
    TrT c [(Str.ofString "text", .str (S (A ++ tx ++ B))), (Str.ofString "at", .int (A.length : Nat))] [] (execs (defAt 14).body c.env) (fun fl _ _ => fl = .ret (.tup [.tup [.bool b, .str (S sg)], .int ((A.length + tx.length : Nat) : Int)])) := by
  conv at hsc => rhs; whnf
  have e0 : Str.ofString "" = S [] := by decide +kernel
  have hsl : (S (A ++ tx ++ B)).length ≤ 100000 := by rw [S_length]; omega
  obtain ⟨t, ht⟩ : ∃ t, t = A ++ tx ++ B := ⟨_, rfl⟩
  rw [← ht] at hl hsl ⊢
  refine tr_cons ?_
  repeat (ks_step "op2")
  refine sl_str hsl ?_
  repeat (ks_step "op2")
  cases h with
  | no =>
    have e4 : ((A.length : Nat) : Int) + 4 = ((A.length + 4 : Nat) : Int) := by push_cast; rfl
    have es : Str.ofString "(?!)" = S [40, 63, 33, 41] := by decide +kernel
    have e : (cutS (S t) (some ((A.length : Nat) : Int)) (some (((A.length : Nat) : Int) + 4)) == Str.ofString "(?!)") = true := by
      rw [e4, cut_S _ _ _ (by omega), es, S_beq, ht]; simp
    refine ite_t (e) ?_
    repeat (ks_step "op2")
    rw [e0, e4]; rfl
  | dot =>
    refine ite_f (cut_no t A B 46 (by rw [ht]; simp) (by decide)) ?_
    refine tr_nil ?_
    repeat (ks_step "op2")
    refine sub_S (A := A) (B := B) (ch := 46) (by rw [ht]; simp) rfl hl ?_
    repeat (ks_step "op2")
    refine ite_t (show (S [46] == Str.ofString ".") = true by decide +kernel) ?_
    repeat (ks_step "op2")
    rw [e0]; rfl
  | esc ch =>
    refine ite_f (cut_no t A (ch :: B) 92 (by rw [ht]; simp) (by decide)) ?_
    refine tr_nil ?_
    repeat (ks_step "op2")
    refine sub_S (A := A) (B := ch :: B) (ch := 92) (by rw [ht]; simp) rfl hl ?_
    repeat (ks_step "op2")
    refine ite_f (show (S [92] == Str.ofString ".") = false by decide +kernel) ?_
    refine tr_nil ?_
    repeat (ks_step "op2")
    refine sub_S (A := A) (B := ch :: B) (ch := 92) (by rw [ht]; simp) rfl hl ?_
    repeat (ks_step "op2")
    refine ite_t (show (S [92] == Str.ofString "\\") = true by decide +kernel) ?_
    repeat (ks_step "op2")
    refine sub_S (A := A ++ [92]) (B := B) (ch := ch) (by rw [ht]; simp) (by simp) hl ?_
    repeat (ks_step "op2")
    rfl
  | @chr ch hp =>
    have hne : ∀ k ∈ [46, 92, 91, 40, 41, 42, 43, 63, 123, 125, 124, 94, 36], ch ≠ k := fun k hk e => hp (e ▸ hk)
    refine ite_f (cut_no t A B ch (by rw [ht]; simp) (hne _ (by decide))) ?_
    refine tr_nil ?_
    repeat (ks_step "op2")
    refine sub_S (A := A) (B := B) (ch := ch) (by rw [ht]; simp) rfl hl ?_
    repeat (ks_step "op2")
    refine ite_f (show (S [ch] == Str.ofString ".") = false by rw [show Str.ofString "." = S [46] by decide +kernel, S_beq]; simp [hne 46 (by decide)]) ?_
    refine tr_nil ?_
    repeat (ks_step "op2")
    refine sub_S (A := A) (B := B) (ch := ch) (by rw [ht]; simp) rfl hl ?_
    repeat (ks_step "op2")
    refine ite_f (show (S [ch] == Str.ofString "\\") = false by rw [show Str.ofString "\\" = S [92] by decide +kernel, S_beq]; simp [hne 92 (by decide)]) ?_
    refine tr_nil ?_
    repeat (ks_step "op2")
    refine sub_S (A := A) (B := B) (ch := ch) (by rw [ht]; simp) rfl hl ?_
    repeat (ks_step "op2")
    refine ite_f (in_spec fun k hk => hne k ((by decide : ∀ x ∈ [40, 41, 42, 43, 63, 123, 125, 124, 94, 36], x ∈ [46, 92, 91, 40, 41, 42, 43, 63, 123, 125, 124, 94, 36]) k hk)) ?_
    refine tr_nil ?_
    repeat (ks_step "op2")
    refine sub_S (A := A) (B := B) (ch := ch) (by rw [ht]; simp) rfl hl ?_
    repeat (ks_step "op2")
    refine ite_t (show (S [ch] != Str.ofString "[") = true by rw [show Str.ofString "[" = S [91] by decide +kernel, bne, S_beq]; simp [hne 91 (by decide)]) ?_
    repeat (ks_step "op2")
    refine sub_S (A := A) (B := B) (ch := ch) (by rw [ht]; simp) rfl hl ?_
    repeat (ks_step "op2")
    rfl
  | @set l b hok h2 =>
    obtain ⟨ch0, R, hR, hb⟩ : ∃ ch0 R, (if b then [94] else []) ++ (segTx l ++ 93 :: B) = ch0 :: R ∧ (S [ch0] == Str.ofString "^") = b := by
      first | refine qi (show Str.ofString "^" = S [94] by decide +kernel) ?_ | refine qs (show Str.ofString "^" = S [94] by decide +kernel) ?_ | refine qt (show Str.ofString "^" = S [94] by decide +kernel) ?_ | refine qb (show Str.ofString "^" = S [94] by decide +kernel) ?_ | refine qm (show Str.ofString "^" = S [94] by decide +kernel) ?_ | refine q1 (show Str.ofString "^" = S [94] by decide +kernel) ?_ | rw [show Str.ofString "^" = S [94] by decide +kernel]
      cases b with
      | true => exact ⟨94, _, rfl, by decide +kernel⟩
      | false =>
        cases hs : segTx l with
        | nil => exact ⟨93, _, rfl, by decide +kernel⟩
        | cons ch r =>
          refine ⟨ch, _, rfl, ?_⟩
          first | refine qi (S_beq) ?_ | refine qs (S_beq) ?_ | refine qt (S_beq) ?_ | refine qb (S_beq) ?_ | refine qm (S_beq) ?_ | refine q1 (S_beq) ?_ | rw [S_beq]
          have : ch ≠ 94 := fun e => h2 rfl r (by rw [hs, e])
          simp [this]
    have ht2 : t = A ++ 91 :: (ch0 :: R) := by rw [ht, ← hR]; simp
    refine ite_f (cut_no t A (ch0 :: R) 91 ht2 (by decide)) ?_
    refine tr_nil ?_
    repeat (ks_step "op2")
    refine sub_S (A := A) (B := ch0 :: R) (ch := 91) ht2 rfl hl ?_
    repeat (ks_step "op2")
    refine ite_f (show (S [91] == Str.ofString ".") = false by decide +kernel) ?_
    refine tr_nil ?_
    repeat (ks_step "op2")
    refine sub_S (A := A) (B := ch0 :: R) (ch := 91) ht2 rfl hl ?_
    repeat (ks_step "op2")
    refine ite_f (show (S [91] == Str.ofString "\\") = false by decide +kernel) ?_
    refine tr_nil ?_
    repeat (ks_step "op2")
    refine sub_S (A := A) (B := ch0 :: R) (ch := 91) ht2 rfl hl ?_
    repeat (ks_step "op2")
    refine ite_f (in_spec (by decide)) ?_
    refine tr_nil ?_
    repeat (ks_step "op2")
    refine sub_S (A := A) (B := ch0 :: R) (ch := 91) ht2 rfl hl ?_
    repeat (ks_step "op2")
    refine ite_f (show (S [91] != Str.ofString "[") = false by decide +kernel) ?_
    refine tr_nil ?_
    repeat (ks_step "op2")
    refine sub_S (A := A ++ [91]) (B := R) (ch := ch0) (by rw [ht2]; simp) (by simp) hl ?_
    repeat (ks_step "op2")
    rw [hb]
    obtain ⟨PRE, hPRE⟩ : ∃ PRE, PRE = A ++ 91 :: (if b then [94] else []) := ⟨_, rfl⟩
    have hPl : PRE.length = A.length + 1 + (if b then 1 else 0) := by rw [hPRE]; cases b <;> simp
    have ht3 : t = PRE ++ (segTx l ++ 93 :: B) := by rw [ht, hPRE]; simp
    refine ite_ints ?_
    have hat : (((A.length : Nat) : Int) + if b = true then 2 else 1) = (PRE.length : Nat) := by rw [hPl]; cases b <;> simp <;> omega
    refine op_iadd ?_
    first | refine qi (hat) ?_ | refine qs (hat) ?_ | refine qt (hat) ?_ | refine qb (hat) ?_ | refine qm (hat) ?_ | refine q1 (hat) ?_ | rw [hat]
    repeat (ks_step "op2")
    refine TrT.mono (Q := fun fl σ μ => fl = .next ∧ σ = [(Str.ofString "text", .str (S t)), (Str.ofString "at", .int ((PRE.length + (segTx l).length : Nat) : Int)), (Str.ofString "barred", .bool b), (Str.ofString "signs", .str (S (l.map (·.2))))] ∧ μ = []) ?wh ?rest
    case wh =>
      refine tr_while (fun m σ μ => ∃ L R : List (Bool × Nat), l = L ++ R ∧ m = R.length ∧ σ = [(Str.ofString "text", .str (S t)), (Str.ofString "at", .int ((PRE.length + (segTx L).length : Nat) : Int)), (Str.ofString "barred", .bool b), (Str.ofString "signs", .str (S (L.map (·.2))))] ∧ μ = []) ?_ l.length ⟨[], l, rfl, rfl, by simp [segTx, e0], rfl⟩
      rintro m σ μ ⟨L, R, hLR, rfl, rfl, rfl⟩
      repeat (ks_step "op2")
      have hseg : segTx l = segTx L ++ segTx R := by rw [hLR, seg_app]
      cases R with
      | nil =>
        have hL : L = l := by rw [hLR]; simp
        refine sub_S (A := PRE ++ segTx L) (B := B) (ch := 93) (by rw [ht3, hL]; simp) (by simp) hl ?_
        repeat (ks_step "op2")
        refine ite_f (show (S [93] != Str.ofString "]") = false by decide +kernel) ?_
        exact ⟨rfl, by rw [hL], rfl⟩
      | cons p R =>
        obtain ⟨esc, ch⟩ := p
        have hmem : (esc, ch) ∈ l := by rw [hLR]; simp
        have hsl2 : (L.map (·.2)).length ≤ 1000 := by
          have h1 := seg_len L
          have h2 : (segTx L).length ≤ t.length := by rw [ht3, hseg]; simp; omega
          simp; omega
        have es : S (L.map (·.2)) ++ S [ch] = S ((L ++ [(esc, ch)]).map (·.2)) := by rw [S_append]; simp
        have hsz : (S (L.map (·.2))).length + (S [ch]).length ≤ sizeLine := by rw [sizeLine_eq, S_length, S_length]; simp at hsl2 ⊢; omega
        cases esc with
        | true =>
          have ht4 : t = (PRE ++ segTx L) ++ 92 :: (ch :: (segTx R ++ 93 :: B)) := by rw [ht3, hseg]; simp [segTx]
          refine sub_S (A := PRE ++ segTx L) (B := ch :: (segTx R ++ 93 :: B)) (ch := 92) ht4 (by simp) hl ?_
          repeat (ks_step "op2")
          refine ite_t (show (S [92] != Str.ofString "]") = true by decide +kernel) ?_
          repeat (ks_step "op2")
          refine sub_S (A := PRE ++ segTx L) (B := ch :: (segTx R ++ 93 :: B)) (ch := 92) ht4 (by simp) hl ?_
          repeat (ks_step "op2")
          refine ite_t (show (S [92] == Str.ofString "\\") = true by decide +kernel) ?_
          repeat (ks_step "op2")
          refine tr_nil ?_
          repeat (ks_step "op2")
          refine sub_S (A := PRE ++ segTx L ++ [92]) (B := segTx R ++ 93 :: B) (ch := ch) (by rw [ht4]; simp) (by simp; omega) hl ?_
          refine op_iadds hsz ?_
          first | refine qi (es) ?_ | refine qs (es) ?_ | refine qt (es) ?_ | refine qb (es) ?_ | refine qm (es) ?_ | refine q1 (es) ?_ | rw [es]
          repeat (ks_step "op2")
          refine tr_nil ?_
          refine loop_next ?_
          refine ⟨R.length, by simp, L ++ [(true, ch)], R, by rw [hLR]; simp, rfl, ?_, rfl⟩
          rw [seg_app]; simp [segTx]; omega
        | false =>
          obtain ⟨h93, h92⟩ := hok _ hmem rfl
          have ht4 : t = (PRE ++ segTx L) ++ ch :: (segTx R ++ 93 :: B) := by rw [ht3, hseg]; simp [segTx]
          refine sub_S (A := PRE ++ segTx L) (B := segTx R ++ 93 :: B) (ch := ch) ht4 (by simp) hl ?_
          repeat (ks_step "op2")
          refine ite_t (show (S [ch] != Str.ofString "]") = true by rw [show Str.ofString "]" = S [93] by decide +kernel, bne, S_beq]; simp; exact h93) ?_
          repeat (ks_step "op2")
          refine sub_S (A := PRE ++ segTx L) (B := segTx R ++ 93 :: B) (ch := ch) ht4 (by simp) hl ?_
          repeat (ks_step "op2")
          refine ite_f (show (S [ch] == Str.ofString "\\") = false by rw [show Str.ofString "\\" = S [92] by decide +kernel, S_beq]; simp; exact h92) ?_
          refine tr_nil ?_
          repeat (ks_step "op2")
          refine sub_S (A := PRE ++ segTx L) (B := segTx R ++ 93 :: B) (ch := ch) ht4 (by simp) hl ?_
          refine op_iadds hsz ?_
          first | refine qi (es) ?_ | refine qs (es) ?_ | refine qt (es) ?_ | refine qb (es) ?_ | refine qm (es) ?_ | refine q1 (es) ?_ | rw [es]
          repeat (ks_step "op2")
          refine tr_nil ?_
          refine loop_next ?_
          refine ⟨R.length, by simp, L ++ [(false, ch)], R, by rw [hLR]; simp, rfl, ?_, rfl⟩
          rw [seg_app]; simp [segTx]; omega
    case rest =>
      rintro _ _ _ ⟨rfl, rfl, rfl⟩
      repeat (ks_step "op2")
      have : (((PRE.length + (segTx l).length : Nat) : Int) + 1) = ((A.length + (91 :: ((if b then [94] else []) ++ (segTx l ++ [93]))).length : Nat) : Int) := by
        rw [hPl]; cases b <;> simp <;> omega
      first | refine qi (this) ?_ | refine qs (this) ?_ | refine qt (this) ?_ | refine qb (this) ?_ | refine qm (this) ?_ | refine q1 (this) ?_ | rw [this]
theorem item_con {prog : Program} {w : World} {mg mb : Str → Option Value} (A B tx : List Nat) (b : Bool) (sg : List Nat) (h : ItemTx tx b sg) (hl : (A ++ tx ++ B).length ≤ 1000) :
    Con prog w mg mb 1 (defAt 14) [.str (S (A ++ tx ++ B)), .int (A.length : Nat)] (fun e => e = .tup [.tup [.bool b, .str (S sg)], .int ((A.length + tx.length : Nat) : Int)]) :=
  con_intro (xs := [Str.ofString "text", Str.ofString "at"]) (by intro pm code doc vs h; obtain ⟨v1, v2, rfl⟩ := len2 h; kernel_rfl) rfl (by decide +kernel) (by decide +kernel) (by decide +kernel) (by decide +kernel) (by kernel_rfl) (by kernel_rfl) (by kernel_rfl)
    fun c h1 h2 h3 h4 _ K => (item_walk K h3 A B tx b sg h hl).mono fun fl σ' μ' h => ⟨_, _, .inl h, .pure rfl, rfl⟩
end -- QItem

section -- QRe
open PySem.Builtin.Re
noncomputable def stepsM : Nat → Sre.M → Sre.M
  | 0, m => m
  | n + 1, m => if (m.runFor 4).outcome.isSome then m.runFor 4 else stepsM n (m.runFor 4)
section
variable {M : Model} {A : Around} {E : Value → Shared → Prop} {s : Shared}
theorem drive_of : ∀ (n turns : Nat) (m : Sre.M) {Q : Sre.M → Shared → Prop}, n ≤ turns → 0 < n → (stepsM n m).outcome.isSome = true → Q (stepsM n m) s → wpAny M A (reDrive turns m) Q E s
  | 0, _, _, _, _, h, _, _ => absurd h (Nat.lt_irrefl 0)
  | n + 1, 0, _, _, h, _, _, _ => absurd h (Nat.not_succ_le_zero n)
  | n + 1, turns + 1, m, Q, h, _, ho, hq => by
    rw [reDrive]
    show wpAny M A (if (m.runFor 4).outcome.isSome = true then pure (m.runFor 4) else do rule "sre.turn"; reDrive turns (m.runFor 4)) Q E s
    rw [stepsM] at ho hq
    by_cases hs : (m.runFor 4).outcome.isSome = true
    · rw [if_pos hs] at hq ⊢
      exact wpAny_pure hq
    · rw [if_neg hs] at ho hq ⊢
      refine wpAny_bind (wpAny_rule ?_)
      cases n with
      | zero => exact absurd ho hs
      | succ n => exact drive_of (n + 1) turns _ (Nat.le_of_succ_le_succ h) (Nat.succ_pos n) ho hq
noncomputable def isFailed : Option Sre.Outcome → Bool
  | some .failed => true
  | _ => false
theorem rules_all {p : Nat → Bool} {f : Nat → String} {Q : PUnit → Shared → Prop} (h : Q ⟨⟩ s) : ∀ l : List Nat, wpAny M A (forIn l PUnit.unit fun i _ => if p i = true then do rule (f i); pure (ForInStep.yield PUnit.unit) else pure (ForInStep.yield PUnit.unit)) Q E s
  | [] => wpAny_pure h
  | i :: l => by
    rw [List.forIn_cons]
    refine wpAny_bind ?_
    by_cases hp : p i = true
    · rw [if_pos hp]; exact wpAny_bind (wpAny_rule (wpAny_pure (rules_all h l)))
    · rw [if_neg hp]; exact wpAny_pure (rules_all h l)
theorem runs_out {m : Sre.M} {Q : Option Sre.M → Shared → Prop} (n : Nat) (hn : n ≤ 1000) (h0 : 0 < n) (hf : isFailed (stepsM n m).outcome = true) (hq : Q none s) : wpAny M A (reRunToEnd m) Q E s := by
  have ho : (stepsM n m).outcome = some .failed := by
    revert hf
    cases (stepsM n m).outcome with
    | none => intro h; cases h
    | some o => cases o <;> intro h <;> first | rfl | cases h
  unfold reRunToEnd
  refine wpAny_bind (drive_of n _ m ?_ h0 (by rw [ho]; rfl) ?_)
  · exact Nat.le_trans hn (by decide +kernel)
  · refine wpAny_bind (rules_all ?_ _)
    rw [ho]
    exact wpAny_pure hq
noncomputable def subTexts : List (List Nat) := [[97, 98], [33, 97], [42], [63], [91], [], [33]]
theorem sre_none : ∀ x ∈ subTexts, isFailed (stepsM 3 (Sre.forSearch patCode.toArray x.toArray 1 0 x.length false)).outcome = true := by decide +kernel
end
end -- QRe

section -- QRe2
open PySem.Builtin.Re
noncomputable abbrev tgt (p : Addr) (x : Str) (t : Tok) : ReTarget := { pattern := .ref p, string := .str x t, code := patCode.toArray, text := x.cps, kind := 0, groups := 1, pos := 0, lim := x.cps.size }
theorem code_vals : ((patCode.map fun n : Nat => Value.int n 0).toArray.map reRawOf).map (·.toNat) = patCode.toArray := by decide +kernel
section
variable {prog : Program} {w : World} {A : Around} {E : Value → Shared → Prop} {h : Heap} {g : Array GenState} {d : Drawn} {t : Nat} {os : OsState} {p ac f : Addr}

theorem whole_in {x : Str} {u : Tok} {Q : ReTarget → Shared → Prop} (hp : h.get? p = some (patObj ac)) (hc : h.get? ac = some codeObj) (hq : Q (tgt p x u) ⟨h, g, d, t, os⟩) :
    wpAny (model prog w) A (reWholeTarget (.ref p) (.str x u)) Q E ⟨h, g, d, t, os⟩ := by
  unfold reWholeTarget
  refine wpAny_bind (m := fieldsOf (.ref p)) (wpAny_bind (wpAny_load' hp (wpAny_pure ?_)))
  refine wpAny_bind (m := reTextOf (.str x u)) (wpAny_pure ?_)
  dsimp only
  refine wpAny_ite_false rfl ?_
  refine wpAny_ite_false rfl ?_
  refine wpAny_bind (m := reNoCollectionInside (.str x u) 0) (wpAny_pure ?_)
  refine wpAny_bind ?_
  unfold reRawItems
  refine wpAny_bind ?_
  show wpAny _ _ (seqItems? (.ref ac)) _ _ _
  unfold seqItems?
  refine wpAny_bind (wpAny_load' hc (wpAny_pure ?_))
  refine wpAny_pure (wpAny_pure ?_)
  show Q { pattern := .ref p, string := .str x u, code := ((patCode.map fun n : Nat => Value.int n 0).toArray.map reRawOf).map (·.toNat), text := x.cps, kind := 0, groups := 1, pos := 0, lim := x.cps.size } _
  rw [code_vals]
  exact hq

theorem next_none {x : List Nat} (hx : x ∈ subTexts) {u : Tok} {Q : Option Sre.M → Shared → Prop} {s : Shared} (hq : Q none s) :
    wpAny (model prog w) A (reNextFound (tgt p ⟨x.toArray⟩ u) 0 false) Q E s := by
  unfold reNextFound
  refine runs_out 3 (by decide) (by decide) ?_ hq
  have := sre_none x hx
  simpa using this

theorem subloop_in {x : List Nat} {L : Addr} (hx : x ∈ subTexts) {u : Tok} {Q : PySem.Fin → Shared → Prop} (hp : h.get? p = some (patObj ac)) (hc : h.get? ac = some codeObj) (hl : h.get? L = some { cls := .type "list", data := .seq #[] })
    (hq : ∀ h' k v, (∀ b o, b ≠ L → h.get? b = some o → h'.get? b = some o) → Q (.done (.ret (.str ⟨x.toArray⟩ v))) ⟨h', g, d, k, os⟩) :
    wpAny (model prog w) A (Builtin.«re.Pattern.sub.loop» ⟨[.ref p, .str ⟨x.toArray⟩ u, .ref f, rawInt 1, rawInt 0, rawInt 0, rawInt 0, rawInt 0, .bool false, .ref L, .bool false], []⟩) Q E ⟨h, g, d, t, os⟩ := by
  unfold Builtin.«re.Pattern.sub.loop»
  dsimp only [rawInt]
  refine wpAny_bind (whole_in hp hc ?_)
  refine wpAny_ite_false rfl ?_
  dsimp only
  refine wpAny_bind ?_
  refine wpAny_ite_false rfl ?_
  refine next_none hx ?_
  dsimp only
  have hle : x.length ≤ 2 := by
    have : ∀ x ∈ subTexts, x.length ≤ 2 := by decide +kernel
    exact this x hx
  by_cases hn : x = []
  · subst hn
    refine wpAny_ite_false rfl ?_
    refine wpAny_bind (m := reSlice #[] 0 0 0) (wpAny_mkStr' (x := ⟨#[].extract 0 0⟩) ?_ (by rw [sizeLine_eq]; simp [Str.length]))
    refine wpAny_bind (m := seqItems? (.ref L)) (wpAny_bind (wpAny_load' hl (wpAny_pure ?_)))
    refine wpAny_ite_true rfl ?_
    refine wpAny_bind (wpAny_pure ?_)
    refine wpAny_ite_false rfl ?_
    refine wpAny_pure ?_
    exact hq h _ _ fun _ _ _ e => e
  · refine wpAny_ite_true (by
      have : 0 < x.length := List.length_pos_iff.mpr hn
      simpa using this) ?_
    have ex : (⟨x.toArray.extract (Int.toNat 0) x.toArray.size⟩ : Str) = ⟨x.toArray⟩ := by simp
    refine wpAny_bind (m := reSlice _ 0 _ _) (wpAny_mkStr' ?_ (by rw [ex, sizeLine_eq]; simp [Str.length]; omega))
    rw [ex]
    refine wpAny_bind (wpAny_updateSeq (s := ⟨h, g, d, t + 1, os⟩) hl rfl ?_)
    refine wpAny_bind (m := reSlice _ 0 0 0) (wpAny_mkStr' ?_ (by rw [sizeLine_eq]; simp [Str.length]))
    have hu := Heap.get?_update_self (Obj.mapSeq fun y => y.push (Value.str ⟨x.toArray⟩ t)) hl rfl
    refine wpAny_bind (m := seqItems? (.ref L)) (wpAny_bind (wpAny_load' hu (wpAny_pure ?_)))
    refine wpAny_ite_false rfl ?_
    simp only [beq_self_eq_true, if_true]
    refine wpAny_bind ?_
    refine join_list (s := ⟨h.update L _, g, d, t + 1 + 1, os⟩) (ys := [⟨x.toArray⟩]) (items := #[.str ⟨x.toArray⟩ t]) ⟨_, hu, rfl, _, rfl⟩ (.cons _ _ .nil) (by simp [Str.length]; omega) fun t' k => ?_
    refine wpAny_ite_false rfl ?_
    refine wpAny_pure ?_
    have ej : Txt.join ⟨x.toArray.extract 0 0⟩ [⟨x.toArray⟩] = ⟨x.toArray⟩ := by rfl
    rw [ej]
    exact hq _ _ _ fun b o hb e => (Heap.get?_update_other h _ hb.symm).trans e

theorem call_lookup : typeLookup (.type "function") "__call__" = pure (some (.builtin "function.__call__")) := by rw [typeLookup_type, builtinLookup_eq_fast]; kernel_rfl
theorem sub_str_bytearray : isSubtype (.type "str") (.type "bytearray") = pure false := by rw [isSubtype_type]; kernel_rfl
theorem quiet_loop (a : Args) : (Code.builtin "re.Pattern.sub.loop" a).quiet = true := Code.quiet_builtin _ (by decide +kernel)
theorem entry_loop : entryFor table "re.Pattern.sub.loop" = some Builtin.«re.Pattern.sub.loop» := entryFor_of_tree (by kernel_rfl)
theorem entry_sub : entryFor table "re.Pattern.sub" = some Builtin.«re.Pattern.sub» := entryFor_of_tree (by kernel_rfl)
theorem slot_sub : Slot "re.Pattern" "sub" "re.Pattern.sub" :=
  .of (owner := "re.Pattern") (n := "sub") (by rw [typeLookup_type, builtinLookup_eq_fast]; kernel_rfl) (by decide +kernel) (by decide +kernel) (by decide +kernel)
    (by first | exact .inl (by decide +kernel) | exact .inr (by decide +kernel)) (by rw [isSubtype_type]; kernel_rfl)
theorem args_sub (a b c : Value) : argsOk "re.Pattern.sub" ⟨[a, b, c], []⟩ := by unfold argsOk; kernel_rfl

theorem sub_in {x : List Nat} {of : Obj} (hx : x ∈ subTexts) {u : Tok} {R : Result → Shared → Prop} (hp : h.get? p = some (patObj ac)) (hc : h.get? ac = some codeObj) (hf : h.get? f = some of) (hfc : of.cls = .type "function")
    (hq : ∀ h' k v, (∀ b o, h.get? b = some o → h'.get? b = some o) → R (.ok (.ret (.str ⟨x.toArray⟩ v))) ⟨h', g, d, k, os⟩) :
    codeAny (model prog w) A (.call (.builtin "re.Pattern.sub") ⟨[.ref p, .ref f, .str ⟨x.toArray⟩ u], []⟩) R ⟨h, g, d, t, os⟩ := by
  have hT : (⟨h, g, d, t, os⟩ : Shared).TypeIs (.ref p) "re.Pattern" := ⟨_, hp, rfl⟩
  have hF : (⟨h, g, d, t, os⟩ : Shared).TypeIs (.ref f) "function" := ⟨_, hf, hfc⟩
  refine codeAny_call_builtin slot_sub.plain entry_sub (slot_sub.check _ _ _ _ _ _ _ _ hT (args_sub _ _ _) ?_)
  show wpAny _ _ (reSubstitute "re.Pattern.sub" "sub" false _) _ _ _
  unfold reSubstitute
  dsimp only
  refine wpAny_bind (m := reNamed _ _ _ _ _ _) (wpAny_of_eq (a := [some (.ref f), some (.str ⟨x.toArray⟩ u), none]) (by rfl) ?_)
  dsimp only
  refine wpAny_bind (wpAny_pure ?_)
  refine wpAny_bind (wpAny_specialOf hF call_lookup ?_)
  refine wpAny_ite_true rfl (wpAny_bind (wpAny_pure ?_))
  refine wpAny_ite_true rfl (wpAny_bind (wpAny_pure ?_))
  dsimp only
  refine wpAny_bind (wpAny_holding (whole_in hp hc ?_))
  refine wpAny_ite_true rfl ?_
  refine wpAny_bind ?_
  unfold reNotHeld
  refine wpAny_bind (wpAny_isInstance (T := "str") (typeIs_str _ _ _) sub_str_bytearray ?_)
  refine wpAny_ite_false rfl ?_
  refine wpAny_pure ?_
  refine wpAny_bind (wpAny_newList ?_ (by show 0 ≤ _; omega))
  refine wpAny_pure ⟨quiet_loop _, codeAny_builtin entry_loop ?_⟩
  refine subloop_in hx (Heap.get?_push_of_some _ hp) (Heap.get?_push_of_some _ hc) (Heap.get?_push_size _ rfl) fun h' k v hk => ?_
  exact hq h' k v fun b o e => hk b o (Nat.ne_of_lt (Heap.lt_size e)) (Heap.get?_push_of_some _ e)
end
end -- QRe2

section -- QTraA
/-! ### facts of texts, for _translate -/
theorem occ_stay (s sub : Str) (hi : Nat) : ∀ (l : List Nat) (st : Array Nat × Nat), st.fst.size = 1 → (forIn l st (StrLaws.occBody s sub hi 1)).run.fst = st.fst
  | [], st, h => rfl
  | a :: l, st, h => by
    rw [List.forIn_cons]
    have c2 : ¬ (((st.fst.size < 1 ∧ st.snd ≤ a) ∧ a + sub.length ≤ hi) ∧ Builtin.Str.subAt s sub a = true) := fun q => by have := q.1.1.1; omega
    unfold StrLaws.occBody
    rw [if_neg c2]
    exact occ_stay s sub hi l _ h
theorem occ_first (s sub : Str) (lo hi : Nat) (h : lo + sub.length ≤ hi) (hs : Builtin.Str.subAt s sub lo = true) : Builtin.Str.occurrences s sub lo hi 1 = [lo] := by
  rw [StrLaws.occ_eq]
  obtain ⟨m, hm⟩ : ∃ m, hi + 1 - lo = m + 1 := ⟨hi - lo, Nat.succ_sub (Nat.le_trans (Nat.le_add_right _ _) h)⟩
  rw [hm, List.range'_succ, List.forIn_cons]
  have c1 : ((((#[] : Array Nat), lo).fst.size < 1 ∧ ((#[] : Array Nat), lo).snd ≤ lo) ∧ lo + sub.length ≤ hi) ∧ Builtin.Str.subAt s sub lo = true := ⟨⟨⟨by simp, Nat.le_refl _⟩, h⟩, hs⟩
  have e : StrLaws.occBody s sub hi 1 lo ((#[] : Array Nat), lo) = pure (ForInStep.yield (#[lo], lo + sub.length)) := by
    unfold StrLaws.occBody
    rw [if_pos c1]; rfl
  rw [e]
  show (forIn (List.range' (lo + 1) m) (#[lo], lo + sub.length) (StrLaws.occBody s sub hi 1)).run.fst.toList = _
  rw [occ_stay _ _ _ _ _ rfl]
theorem occ_past (s sub : Str) (lo hi : Nat) (h : hi < lo) : Builtin.Str.occurrences s sub lo hi 1 = [] := by
  rw [StrLaws.occ_eq, show hi + 1 - lo = 0 by omega]; rfl
theorem find_hit {t A B : List Nat} {ch hi : Nat} (ht : t = A ++ ch :: B) (h1 : A.length < hi) (h2 : hi ≤ t.length) : findIn (S t) (S [ch]) A.length hi = (A.length : Nat) := by
  unfold findIn
  have hs : Builtin.Str.subAt (S t) (S [ch]) A.length = true := by
    show (t.toArray.extract A.length (A.length + 1) == #[ch]) = true
    subst ht
    simp
  rw [occ_first _ _ _ _ (by rw [S_length, S_length]; simp; omega) hs]
theorem find_past {t : List Nat} {y : Str} {k hi : Nat} (h : hi < k) : findIn (S t) y k hi = -1 := by
  unfold findIn
  rw [occ_past _ _ _ _ (by omega)]

/-- what a pattern is made of -/
inductive Pt where
  | star | q | set (x : List Nat) | sg (ch : Nat)
noncomputable def Pt.pat : Pt → List Nat
  | .star => [42]
  | .q => [63]
  | .set x => 91 :: x ++ [93]
  | .sg ch => [ch]
/-- what stands for it in the pattern, once translated -/
noncomputable def setTx (x : List Nat) : Str :=
  if x = [97, 98] then Str.ofString "[ab]" else if x = [33, 97] then Str.ofString "[^a]" else if x = [42] then Str.ofString "[*]" else if x = [63] then Str.ofString "[?]" else if x = [91] then Str.ofString "[\\[]" else if x = [98, 45, 97] then Str.ofString "(?!)" else Str.ofString "."
noncomputable def Pt.part : Pt → Option Str
  | .star => none
  | .q => some (Str.ofString ".")
  | .set x => some (setTx x)
  | .sg ch => some (escS ch)
noncomputable def setsOk : List (List Nat) := [[97, 98], [33, 97], [42], [63], [91], [98, 45, 97], [33, 98, 45, 97]]
noncomputable def OkPt : Pt → Prop
  | .set x => x ∈ setsOk
  | .sg ch => ch ∉ [42, 63, 91]
  | _ => True
noncomputable def pats (l : List Pt) : List Nat := (l.map Pt.pat).flatten
/-- no two stars stand side by side -/
noncomputable def NoSS : List Pt → Prop
  | [] => True
  | p :: r => (p = .star → r.head? ≠ some .star) ∧ NoSS r
theorem noss_mid : ∀ (A : List Pt) (y : Pt) (B : List Pt), NoSS (A ++ y :: .star :: B) → y ≠ .star
  | [], y, B, h => fun e => h.1 e rfl
  | _ :: A, y, B, h => noss_mid A y B h.2
theorem pats_len : ∀ l : List Pt, (∀ p ∈ l, OkPt p) → (pats l).length ≤ 6 * l.length
  | [], _ => by simp [pats]
  | p :: r, h => by
    have ih := pats_len r fun q hq => h q (List.mem_cons_of_mem _ hq)
    have hp : p.pat.length ≤ 6 := by
      have := h p (List.mem_cons_self ..)
      cases p with
      | star => decide
      | q => decide
      | sg ch => simp [Pt.pat]
      | set x =>
        have hx : ∀ x : List Nat, x ∈ setsOk → x.length ≤ 4 := by decide
        have := hx x this
        simp [Pt.pat]; omega
    simp only [pats, List.map_cons, List.flatten_cons, List.length_append, List.length_cons] at ih ⊢
    omega
theorem set_scan {x : List Nat} (h : x ∈ setsOk) : ∃ (B : List Nat) (w : Nat) (C : List Nat), x = B ++ w :: C ∧ w ≠ 93 ∧ 93 ∉ x ∧ ((B = [] ∧ w ≠ 33) ∨ B = [33]) := by
  simp only [setsOk, List.mem_cons, List.not_mem_nil, or_false] at h
  rcases h with rfl | rfl | rfl | rfl | rfl | rfl | rfl
  · exact ⟨[], 97, [98], rfl, by decide, by decide, .inl ⟨rfl, by decide⟩⟩
  · exact ⟨[33], 97, [], rfl, by decide, by decide, .inr rfl⟩
  · exact ⟨[], 42, [], rfl, by decide, by decide, .inl ⟨rfl, by decide⟩⟩
  · exact ⟨[], 63, [], rfl, by decide, by decide, .inl ⟨rfl, by decide⟩⟩
  · exact ⟨[], 91, [], rfl, by decide, by decide, .inl ⟨rfl, by decide⟩⟩
  · exact ⟨[], 98, [45, 97], rfl, by decide, by decide, .inl ⟨rfl, by decide⟩⟩
  · exact ⟨[33], 98, [45, 97], rfl, by decide, by decide, .inr rfl⟩
/-- what stuff is, once the ranges are gone -/
noncomputable def stuffOf (x : List Nat) : List Nat := if x = [98, 45, 97] then [] else if x = [33, 98, 45, 97] then [33] else x
theorem stuff_sub {x : List Nat} (h : x ∈ setsOk) : stuffOf x ∈ subTexts := by
  have : ∀ x : List Nat, x ∈ setsOk → stuffOf x ∈ subTexts := by decide
  exact this x h
noncomputable def dPt (a : Addr) : Option Str → D
  | none => .opq (.ref a)
  | some x => .str x
end -- QTraA

section -- QArith
/-! ### places and lengths, said once -/
theorem lt_app {α : Type} {l A B : List α} {x : α} (h : l = A ++ x :: B) : A.length < l.length := by
  rw [h, List.length_append, List.length_cons]; exact Nat.lt_add_of_pos_right (Nat.succ_pos _)
theorem le_app {α : Type} {l A B : List α} (h : l = A ++ B) : A.length ≤ l.length := by
  rw [h, List.length_append]; exact Nat.le_add_right _ _
theorem d_lt {a b : Nat} (h : a < b) : decide ((a : Int) < (b : Int)) = true := decide_eq_true (Int.ofNat_lt.mpr h)
theorem d_ge {a b : Nat} (h : b ≤ a) : decide ((a : Int) < (b : Int)) = false := decide_eq_false (Int.not_lt.mpr (Int.ofNat_le.mpr h))
theorem d_eq {a b : Nat} (h : a = b) : ((a : Int) == (b : Int)) = true := by rw [h]; exact beq_self_eq_true _
theorem d_ne {a b : Nat} (h : a ≠ b) : ((a : Int) == (b : Int)) = false := beq_eq_false_iff_ne.mpr fun q => h (Int.ofNat.inj q)
theorem eq_lt {a b c : Nat} (h : a = b) (h2 : b < c) : a < c := h ▸ h2
theorem len_mid {α β : Type} (A : List α) (x : α) (G : List β) (f : β → α) : A.length + 1 + G.length = (A ++ x :: G.map f).length := by
  rw [List.length_append, List.length_cons, List.length_map, Nat.add_assoc, Nat.add_comm 1]
theorem len_snoc {α : Type} (A : List α) (x : α) : A.length + 1 = (A ++ [x]).length := by rw [List.length_append]; rfl
end -- QArith

section -- QJoin
noncomputable def dPart (a : Addr) : Option Str → D
  | none => .opq (.ref a)
  | some x => .str x
theorem pure_part (a : Addr) (x : Option Str) : D.pure (dPart a x) = true := by cases x <;> rfl
noncomputable def flatG : List (List Str) → List (Option Str)
  | [] => []
  | g :: r => none :: (g.map some ++ flatG r)
noncomputable def addedG : List (List Str) → List Str
  | [] => []
  | [g] => if g = [] then [Str.ofString ".*"] else [Str.ofString ".*", cat g]
  | g :: g' :: r => (Str.ofString "(?>.*?" ++ cat g ++ Str.ofString ")") :: addedG (g' :: r)
noncomputable def OkG : List (List Str) → Prop
  | [] => True
  | [_] => True
  | g :: g' :: r => g ≠ [] ∧ OkG (g' :: r)
noncomputable def joinT (fr : List Str) (gs : List (List Str)) : Str := Str.ofString "(?s:" ++ cat (fr ++ addedG gs) ++ Str.ofString ")\\Z"

theorem pb {a : Addr} {inp A B : List (Option Str)} {x : Option Str} {n : Nat} (h : inp = A ++ x :: B) (hn : n = A.length) : -((inp.map (dPart a)).length : Int) ≤ (n : Int) ∧ (n : Int) < ((inp.map (dPart a)).length : Int) := by
  subst h hn; constructor
  · omega
  · simp; omega
theorem pl {a : Addr} {inp : List (Option Str)} (h : inp.length ≤ 20) : (inp.map (dPart a)).length < 2 ^ 62 := by rw [List.length_map]; omega
theorem pg {a : Addr} {inp A B : List (Option Str)} {x : Option Str} {n : Nat} (h : inp = A ++ x :: B) (hn : n = A.length) : (inp.map (dPart a))[place (n : Int) (inp.map (dPart a)).length]? = some (dPart a x) := by
  subst h hn
  have e : place ((A.length : Nat) : Int) ((A ++ x :: B).map (dPart a)).length = A.length := by unfold place; rw [if_neg (by omega)]; omega
  rw [e]; simp
theorem len_appJ (a b : Str) : (a ++ b).length = a.length + b.length := by show (Str.mk (a.cps ++ b.cps)).cps.size = _; simp [Str.length]
theorem app_empty (a : Str) : Str.empty ++ a = a := by
  show Str.mk (Str.empty.cps ++ a.cps) = a
  simp [Str.empty]
theorem app_nil (a : Str) : a ++ Str.ofString "" = a := by
  show Str.mk (a.cps ++ (Str.ofString "").cps) = a
  have : (Str.ofString "").cps = #[] := by decide +kernel
  rw [this]; simp
theorem cat_len : ∀ l : List Str, (cat l).length = (l.map (·.length)).sum
  | [] => by decide +kernel
  | x :: r => by rw [cat, len_appJ, cat_len r]; simp
theorem cat_app : ∀ a b : List Str, cat (a ++ b) = cat a ++ cat b
  | [], b => by
    show cat b = Str.mk ((Str.ofString "").cps ++ (cat b).cps)
    have : (Str.ofString "").cps = #[] := by decide +kernel
    rw [this]; simp
  | x :: r, b => by
    rw [List.cons_append, cat, cat, cat_app r b]
    show Str.mk (_ ++ (_ ++ _)) = Str.mk ((_ ++ _) ++ _)
    first | refine qi (Array.append_assoc) ?_ | refine qs (Array.append_assoc) ?_ | refine qt (Array.append_assoc) ?_ | refine qb (Array.append_assoc) ?_ | refine qm (Array.append_assoc) ?_ | refine q1 (Array.append_assoc) ?_ | rw [Array.append_assoc]
theorem foldl_cat (l : List Str) (acc : Array Nat) : (l.foldl (fun acc p => acc ++ p.cps) acc) = acc ++ (cat l).cps := by
  induction l generalizing acc with
  | nil =>
    have : (cat []).cps = #[] := by decide +kernel
    rw [this]; simp
  | cons x r ih =>
    rw [List.foldl_cons, ih, cat]
    show _ = acc ++ (x.cps ++ (cat r).cps)
    first | refine qi (Array.append_assoc) ?_ | refine qs (Array.append_assoc) ?_ | refine qt (Array.append_assoc) ?_ | refine qb (Array.append_assoc) ?_ | refine qm (Array.append_assoc) ?_ | refine q1 (Array.append_assoc) ?_ | rw [Array.append_assoc]
theorem sum_le (n : Nat) : ∀ l : List Str, (∀ x ∈ l, x.length ≤ n) → (l.map (·.length)).sum ≤ n * l.length
  | [], _ => by simp
  | x :: r, h => by
    have h1 := h x (List.mem_cons_self ..)
    have h2 := sum_le n r fun y hy => h y (List.mem_cons_of_mem _ hy)
    simp only [List.map_cons, List.sum_cons, List.length_cons, Nat.mul_add]
    omega
theorem flat_len : ∀ gs : List (List Str), (flatG gs).length = gs.length + gs.flatten.length
  | [] => rfl
  | g :: r => by simp [flatG, flat_len r]; omega
theorem added_len (n : Nat) : ∀ gs : List (List Str), (∀ x ∈ gs.flatten, x.length ≤ n) → (addedG gs).length ≤ 2 * gs.length ∧ (cat (addedG gs)).length ≤ n * gs.flatten.length + 7 * gs.length
  | [], _ => ⟨by simp [addedG], by
      have h0 : (cat []).length = 0 := by decide +kernel
      rw [addedG, h0]; exact Nat.zero_le _⟩
  | [g], h => by
    have hg := sum_le n g fun y hy => h y (by simp [hy])
    have e2 : (Str.ofString ".*").length = 2 := by decide +kernel
    first | refine qi (addedG) ?_ | refine qs (addedG) ?_ | refine qt (addedG) ?_ | refine qb (addedG) ?_ | refine qm (addedG) ?_ | refine q1 (addedG) ?_ | rw [addedG]
    split
    · refine ⟨by simp, ?_⟩
      rw [cat_len]; simp [e2]
    · refine ⟨by simp, ?_⟩
      rw [cat_len]; simp only [List.map_cons, List.map_nil, List.sum_cons, List.sum_nil, e2, cat_len]
      simp; omega
  | g :: g' :: r, h => by
    have hg := sum_le n g fun y hy => h y (by simp [hy])
    obtain ⟨i1, i2⟩ := added_len n (g' :: r) fun y hy => h y (by rw [List.flatten_cons]; exact List.mem_append_right _ hy)
    have e2 : (Str.ofString "(?>.*?").length = 6 := by decide +kernel
    have e3 : (Str.ofString ")").length = 1 := by decide +kernel
    first | refine qi (addedG) ?_ | refine qs (addedG) ?_ | refine qt (addedG) ?_ | refine qb (addedG) ?_ | refine qm (addedG) ?_ | refine q1 (addedG) ?_ | rw [addedG]
    refine ⟨by simp only [List.length_cons] at i1 ⊢; omega, ?_⟩
    rw [cat, len_appJ, len_appJ, len_appJ, e2, e3, cat_len g]
    rw [List.flatten_cons, List.length_append, Nat.mul_add]
    simp only [List.length_cons] at i2 ⊢
    omega
theorem join_cat (l : List Str) : Txt.join (Str.ofString "") l = cat l := by
  show Builtin.Str.glued _ l = _
  first | refine qi (StrLaws.glued_eq_join) ?_ | refine qs (StrLaws.glued_eq_join) ?_ | refine qt (StrLaws.glued_eq_join) ?_ | refine qb (StrLaws.glued_eq_join) ?_ | refine qm (StrLaws.glued_eq_join) ?_ | refine q1 (StrLaws.glued_eq_join) ?_ | rw [StrLaws.glued_eq_join]
  induction l with
  | nil => decide +kernel
  | cons x r ih =>
    cases r with
    | nil => show x = x ++ Str.ofString ""; rw [app_nil]
    | cons y r =>
      show x ++ Str.ofString "" ++ Str.join (Str.ofString "") (y :: r) = _
      rw [app_nil, ih]; rfl
theorem get_last {α : Type} (l : List α) (x : α) : (l ++ [x])[l.length]? = some x := by simp
theorem set_last {α : Type} (l : List α) (x y : α) : (l ++ [x]).set l.length y = l ++ [y] := by simp
noncomputable abbrev jS (a : Addr) (inp : List (Option Str)) (i : Nat) : List (Str × D) := [(Str.ofString "inp", .lst (inp.map (dPart a))), (Str.ofString "STAR", .opq (.ref a)), (Str.ofString "res", .ref 0), (Str.ofString "add", .ref 1), (Str.ofString "n", .int inp.length), (Str.ofString "i", .int i)]
theorem join_walk {c : Cx} {mg mb : Str → Option Value} (K : c.Ok mg mb) (hsc : c.env.scope = (defAt 10).scope) (a : Addr) (fr : List Str) (gs : List (List Str)) (hok : OkG gs)
    (hl : (fr.map some ++ flatG gs).length ≤ 20) (hs : ∀ x ∈ fr ++ gs.flatten, x.length ≤ 20) :
    TrT c [(Str.ofString "inp", .lst ((fr.map some ++ flatG gs).map (dPart a))), (Str.ofString "STAR", .opq (.ref a))] [] (execs (defAt 10).body c.env) (fun fl _ _ => fl = .ret (.str (joinT fr gs))) := by
  conv at hsc => rhs; whnf
  have KW : c.OkW mg mb := K.toOkW
  refine tr_cons ?_
  repeat (ks_step "op2")
  refine ev_listM ?_
  repeat (ks_step "op2")
  refine ev_bound K.toOkW (by ks_step "has") rfl ?_
  repeat (ks_step "op2")
  refine tr_pair K hsc (x := Str.ofString "i") (y := Str.ofString "n") (by ks_step "kinds") ?_ (by kernel_rfl!)
  repeat (ks_step "op2")
  refine op_len_lst (by rw [List.length_map]; omega) ?_
  rw [List.length_map]
  repeat (ks_step "op2")
  refine ⟨_, _, _, _, rfl, by ks_step "upd", by ks_step "upd", ?_⟩
  repeat (ks_step "op2")
  obtain ⟨inp, hinp⟩ : ∃ inp, inp = fr.map some ++ flatG gs := ⟨_, rfl⟩
  rw [← hinp] at hl ⊢
  refine TrT.mono (Q := fun fl σ μ => fl = .next ∧ σ = jS a inp fr.length ∧ μ = [.lst (fr.map .str), .bnd 0]) ?w1 ?rest
  case w1 =>
    refine tr_whileL (fun m σ μ => ∃ A B : List Str, fr = A ++ B ∧ m = B.length ∧ σ = jS a inp A.length ∧ μ = [.lst (A.map .str), .bnd 0]) ?_ fr.length ⟨[], fr, rfl, rfl, rfl, rfl⟩
    rintro m σ μ ⟨A, B, hfr, rfl, rfl, rfl⟩ N X hN hX
    repeat (ks_step "op2")
    cases B with
    | nil =>
      have hA : A = fr := (hfr.trans (List.append_nil A)).symm
      subst hA
      cases gs with
      | nil =>
        have e : decide ((A.length : Int) < (inp.length : Int)) = false := by rw [hinp]; simp [flatG]
        refine ite_f (e) ?_
        exact hX _ _ _ ⟨rfl, rfl, rfl⟩
      | cons g r =>
        have hi2 : inp = A.map some ++ none :: (g.map some ++ flatG r) := hinp
        have hA2 : A.length = (A.map some).length := (List.length_map _).symm
        refine ite_t (d_lt (eq_lt hA2 (lt_app hi2))) ?_
        repeat (ks_step "op2")
        refine sub_lst (d := .opq (.ref a)) (pb hi2 hA2) (pl hl) (pg hi2 hA2) ?_
        repeat (ks_step "op2")
        (refine ite_f rfl ?_; refine ite_f rfl ?_)
        exact hX _ _ _ ⟨rfl, rfl, rfl⟩
    | cons x B =>
      have hi2 : inp = A.map some ++ some x :: (B.map some ++ flatG gs) := by rw [hinp, hfr]; simp
      have hA2 : A.length = (A.map some).length := (List.length_map _).symm
      refine ite_t (d_lt (eq_lt hA2 (lt_app hi2))) ?_
      repeat (ks_step "op2")
      refine sub_lst (d := .str x) (pb hi2 hA2) (pl hl) (pg hi2 hA2) ?_
      repeat (ks_step "op2")
      refine ite_t rfl ?_
      repeat (ks_step "op2")
      refine ite_t rfl ?_
      repeat (ks_step "op2")
      refine ev_acall K.toOkW (by ks_step "has") rfl rfl ?_
      repeat (ks_step "op2")
      refine sub_lst (d := .str x) (pb hi2 hA2) (pl hl) (pg hi2 hA2) ?_
      refine ⟨rfl, _, rfl, ?_, ?_⟩
      · have h2 := congrArg List.length hi2
        rw [List.length_map]
        simp at h2
        omega
      repeat (ks_step "op2")
      refine tr_nil ?_
      exact loop_next (hN _ _ B.length (by simp) ⟨A ++ [x], B, by rw [hfr]; simp, rfl, by simp [jS], by simp⟩)
  case rest =>
    rintro _ _ _ ⟨rfl, rfl, rfl⟩
    repeat (ks_step "op2")
    refine TrT.mono (Q := fun fl σ μ => ∃ junk, fl = .next ∧ σ = jS a inp inp.length ∧ μ = .lst ((fr ++ addedG gs).map .str) :: .bnd 0 :: junk) ?w2 ?rest2
    case w2 =>
      refine tr_whileL (fun m σ μ => ∃ (A : List (Option Str)) (rg : List (List Str)) (done : List Str) (junk : List MO), inp = A ++ flatG rg ∧ OkG rg ∧ m = rg.length ∧ done ++ addedG rg = fr ++ addedG gs ∧ (∀ x ∈ rg.flatten, x.length ≤ 20) ∧ done.length + 2 * rg.length ≤ 60 ∧
        σ = jS a inp A.length ∧ μ = .lst (done.map .str) :: .bnd 0 :: junk) ?_ gs.length ⟨fr.map some, gs, fr, [], hinp, hok, rfl, rfl, fun x hx => hs x (List.mem_append_right _ hx), ?_, by simp [jS], rfl⟩
      rotate_left
      · have h1 : inp.length = fr.length + (gs.length + gs.flatten.length) := by rw [hinp, List.length_append, flat_len]; simp
        omega
      rintro m σ μ ⟨A, rg, done, junk, hi, hok', rfl, hdone, hsz, hdl, rfl, rfl⟩ N X hN hX
      repeat (ks_step "op2")
      cases rg with
      | nil =>
        have hA : inp = A := hi.trans (List.append_nil A)
        have e : decide ((A.length : Int) < (inp.length : Int)) = false := d_ge (Nat.le_of_eq (congrArg List.length hA))
        refine ite_f (e) ?_
        refine hX _ _ _ ⟨junk, rfl, by rw [← hA], ?_⟩
        rw [← hdone]; simp [addedG]
      | cons g r =>
        have hlen : inp.length = A.length + 1 + g.length + (flatG r).length := by rw [hi]; simp [flatG]; omega
        have hi2 : inp = A ++ none :: (g.map some ++ flatG r) := hi
        refine ite_t (d_lt (lt_app hi2)) ?_
        repeat (ks_step "op2")
        refine sub_lst (d := .opq (.ref a)) (pb hi2 rfl) (pl hl) (pg hi2 rfl) ?_
        repeat (ks_step "op2")
        have ei : ((A.length : Int) + 1) = ((A.length + 1 : Nat) : Int) := rfl
        first | refine qi (ei) ?_ | refine qs (ei) ?_ | refine qt (ei) ?_ | refine qb (ei) ?_ | refine qm (ei) ?_ | refine q1 (ei) ?_ | rw [ei]
        repeat (ks_step "op2")
        cases g with
        | nil =>
          cases r with
          | cons g2 r2 => exact absurd rfl hok'.1
          | nil =>
            have e : (((A.length + 1 : Nat) : Int) == (inp.length : Int)) = true := by rw [hlen]; simp [flatG]
            refine ite_t (e) ?_
            repeat (ks_step "op2")
            refine ev_acall K.toOkW (by ks_step "has") rfl rfl ?_
            repeat (ks_step "op2")
            refine ⟨rfl, _, rfl, by rw [List.length_map]; omega, ?_⟩
            repeat (ks_step "op2")
            have hn : inp.length = A.length + 1 := by rw [hlen]; simp [flatG]
            refine hX _ _ _ ⟨junk, rfl, by rw [show A.length + 1 = inp.length from hn.symm], ?_⟩
            rw [← hdone]; simp [addedG]
        | cons x g' =>
          have hi3 : inp = (A ++ [none]) ++ some x :: (g'.map some ++ flatG r) := by rw [hi]; simp [flatG]
          have hA3 : A.length + 1 = (A ++ [(none : Option Str)]).length := len_snoc _ _
          refine ite_f (d_ne (Nat.ne_of_lt (eq_lt hA3 (lt_app hi3)))) ?_
          refine tr_nil ?_
          repeat (ks_step "op2")
          refine sub_lst (d := .str x) (pb hi3 hA3) (pl hl) (pg hi3 hA3) ?_
          repeat (ks_step "op2")
          refine ev_listM ?_
          repeat (ks_step "op2")
          refine TrT.mono (Q := fun fl σ μ => fl = .next ∧ σ = jS a inp (A.length + 1 + (x :: g').length) ++ [(Str.ofString "fixed", .ref (MO.lst (done.map .str) :: MO.bnd 0 :: junk).length)] ∧ μ = (MO.lst (done.map .str) :: MO.bnd 0 :: junk) ++ [.lst ((x :: g').map .str)]) ?w3 ?rest3
          case w3 =>
            refine tr_whileL (fun m σ μ => ∃ G H : List Str, x :: g' = G ++ H ∧ m = H.length ∧ σ = jS a inp (A.length + 1 + G.length) ++ [(Str.ofString "fixed", .ref (MO.lst (done.map .str) :: MO.bnd 0 :: junk).length)] ∧ μ = (MO.lst (done.map .str) :: MO.bnd 0 :: junk) ++ [.lst (G.map .str)])
              ?_ (x :: g').length ⟨[], x :: g', rfl, rfl, rfl, rfl⟩
            rintro m σ μ ⟨G, H, hG, rfl, rfl, rfl⟩ N' X' hN' hX'
            simp only [List.cons_append, List.nil_append, jS]
            repeat (ks_step "op2")
            have hinG : inp = (A ++ none :: G.map some) ++ (H.map some ++ flatG r) := by rw [hi2, hG]; simp
            have hposG : A.length + 1 + G.length = (A ++ none :: G.map some).length := len_mid _ _ _ _
            cases H with
            | nil =>
              have hGG : G = x :: g' := by rw [hG]; simp
              cases r with
              | nil =>
                have e : decide (((A.length + 1 + G.length : Nat) : Int) < (inp.length : Int)) = false := by rw [hlen, hGG]; simp [flatG]
                refine ite_f (e) ?_
                refine hX' _ _ _ ?_
                exact ⟨rfl, by rw [hGG]; rfl, by rw [hGG]; rfl⟩
              | cons g2 r2 =>
                have hi4 : inp = (A ++ none :: G.map some) ++ none :: (g2.map some ++ flatG r2) := by rw [hinG]; simp [flatG]
                refine ite_t (d_lt (eq_lt hposG (lt_app hi4))) ?_
                repeat (ks_step "op2")
                refine sub_lst (d := .opq (.ref a)) (pb hi4 hposG) (pl hl) (pg hi4 hposG) ?_
                repeat (ks_step "op2")
                (refine ite_f rfl ?_; refine ite_f rfl ?_)
                refine hX' _ _ _ ?_
                exact ⟨rfl, by rw [hGG]; rfl, by rw [hGG]; rfl⟩
            | cons y H =>
              have hi4 : inp = (A ++ none :: G.map some) ++ some y :: (H.map some ++ flatG r) := by rw [hinG]; simp
              refine ite_t (d_lt (eq_lt hposG (lt_app hi4))) ?_
              repeat (ks_step "op2")
              refine sub_lst (d := .str y) (pb hi4 hposG) (pl hl) (pg hi4 hposG) ?_
              repeat (ks_step "op2")
              refine ite_t rfl ?_
              repeat (ks_step "op2")
              refine ite_t rfl ?_
              repeat (ks_step "op2")
              refine ⟨⟨_, get_last (MO.lst (done.map .str) :: MO.bnd 0 :: junk) _⟩, ?_⟩
              repeat (ks_step "op2")
              refine sub_lst (d := .str y) (pb hi4 hposG) (pl hl) (pg hi4 hposG) ?_
              have hGl : G.length ≤ 20 := Nat.le_trans (Nat.le_add_left _ _) (Nat.le_trans (Nat.le_of_lt (eq_lt hposG (lt_app hi4))) hl)
              refine ⟨_, get_last (MO.lst (done.map .str) :: MO.bnd 0 :: junk) _, by rw [List.length_map]; omega, ?_⟩
              repeat (ks_step "op2")
              refine tr_nil ?_
              refine loop_next (hN' _ _ H.length (by simp) ⟨G ++ [y], H, by rw [hG]; simp, rfl, by simp; omega, ?_⟩)
              rw [show (MO.lst (done.map .str) :: MO.bnd 0 :: (junk ++ [MO.lst (G.map .str)])) = (MO.lst (done.map .str) :: MO.bnd 0 :: junk) ++ [MO.lst (G.map .str)] from rfl, set_last]
              simp
          case rest3 =>
            rintro _ _ _ ⟨rfl, rfl, rfl⟩
            have hgl : (x :: g').length ≤ 20 := by omega
            have hgs := sum_le 20 (x :: g') fun z hz => hsz z (by rw [List.flatten_cons]; exact List.mem_append_left _ hz)
            have hgne : x :: g' ≠ [] := by simp
            have h00 : (Str.ofString "").length = 0 := by decide +kernel
            have hcl : (cat (x :: g')).length ≤ 400 := by rw [cat_len]; omega
            generalize x :: g' = g at *
            simp only [List.cons_append, List.nil_append, jS]
            repeat (ks_step "op2")
            refine ev_smeth F.slot_str_join F.type_str_join ?_ rfl rfl plain_nil rfl rfl
            repeat (ks_step "op2")
            refine op_join (ys := g) (get_last (MO.lst (done.map .str) :: MO.bnd 0 :: junk) _) (by rw [h00]; omega) ?_
            first | refine qi (join_cat) ?_ | refine qs (join_cat) ?_ | refine qt (join_cat) ?_ | refine qb (join_cat) ?_ | refine qm (join_cat) ?_ | refine q1 (join_cat) ?_ | rw [join_cat]
            repeat (ks_step "op2")
            have hdl' : done.length ≤ 58 := by simp only [List.length_cons] at hdl; omega
            have hA' : A.length + 1 + g.length = (A ++ none :: g.map some).length := len_mid _ _ _ _
            cases r with
            | nil =>
              have hn : A.length + 1 + g.length = inp.length := by rw [hlen]; simp [flatG]
              (rw [hn]; refine ite_t (show (((inp.length : Nat) : Int) == (inp.length : Int)) = true from beq_self_eq_true _) ?_)
              repeat (ks_step "op2")
              refine ev_acall K.toOkW (by ks_step "has") rfl rfl ?_
              repeat (ks_step "op2")
              refine ⟨rfl, _, rfl, by rw [List.length_map]; omega, ?_⟩
              repeat (ks_step "op2")
              refine ev_acall K.toOkW (by ks_step "has") rfl rfl ?_
              repeat (ks_step "op2")
              refine ⟨rfl, _, rfl, by simp; omega, ?_⟩
              repeat (ks_step "op2")
              refine tr_nil ?_
              refine after_next ?_
              refine tr_nilT 6 ?_
              refine loop_next (hN _ _ 0 (by simp) ⟨inp, [], done ++ [Str.ofString ".*", cat g], junk ++ [MO.lst (g.map .str)], by simp [flatG], trivial, rfl, ?_, by simp, by simp; omega, rfl, ?_⟩)
              · have : addedG [g] = [Str.ofString ".*", cat g] := by simp [addedG, hgne]
                rw [← hdone, this]; simp [addedG]
              · simp
            | cons g2 r2 =>
              have hne : (((A.length + 1 + g.length : Nat) : Int) == (inp.length : Int)) = false := by rw [hlen, beq_eq_false_iff_ne]; simp [flatG]; omega
              refine ite_f (hne) ?_
              repeat (ks_step "op2")
              refine ev_acall K.toOkW (by ks_step "has") rfl rfl ?_
              repeat (ks_step "op2")
              have e6 : (Str.ofString "(?>.*?").length = 6 := by decide +kernel
              have e1 : (Str.ofString ")").length = 1 := by decide +kernel
              refine ⟨by omega, ?_⟩
              first | refine qi (app_empty) ?_ | refine qs (app_empty) ?_ | refine qt (app_empty) ?_ | refine qb (app_empty) ?_ | refine qm (app_empty) ?_ | refine q1 (app_empty) ?_ | rw [app_empty]
              repeat (ks_step "op2")
              refine ⟨by rw [len_appJ, e6]; omega, ?_⟩
              repeat (ks_step "op2")
              refine ⟨by rw [len_appJ, len_appJ, e6, e1]; omega, ?_⟩
              refine jp_nil (by rw [len_appJ, len_appJ, e6, e1]; omega) ?_
              refine ⟨rfl, _, rfl, by rw [List.length_map]; omega, ?_⟩
              repeat (ks_step "op2")
              refine tr_nil ?_
              refine after_next ?_
              refine tr_nilT 6 ?_
              refine loop_next (hN _ _ (g2 :: r2).length (by simp) ⟨A ++ none :: g.map some, g2 :: r2, done ++ [Str.ofString "(?>.*?" ++ cat g ++ Str.ofString ")"], junk ++ [MO.lst (g.map .str)], by rw [hi2]; simp, hok'.2, rfl, ?_, ?_, ?_, ?_, ?_⟩)
              · rw [← hdone, addedG, List.append_assoc]; rfl
              · exact fun z hz => hsz z (by rw [List.flatten_cons]; exact List.mem_append_right _ hz)
              · simp only [List.length_append, List.length_cons, List.length_nil] at hdl ⊢; omega
              · rw [← hA']; rfl
              · simp
    case rest2 =>
      rintro _ _ _ ⟨junk, rfl, rfl, rfl⟩
      repeat (ks_step "op2")
      refine ⟨beq_self_eq_true _, ?_⟩
      repeat (ks_step "op2")
      refine ev_smeth F.slot_str_join F.type_str_join ?_ rfl rfl plain_nil rfl rfl
      repeat (ks_step "op2")
      have hal := added_len 20 gs fun z hz => hs z (List.mem_append_right _ hz)
      have hfl := sum_le 20 fr fun z hz => hs z (List.mem_append_left _ hz)
      have hil : inp.length = fr.length + (gs.length + gs.flatten.length) := by rw [hinp, List.length_append, flat_len]; simp
      have hcat : (cat (fr ++ addedG gs)).length ≤ 2000 := by rw [cat_app, len_appJ, cat_len fr]; omega
      have h00 : (Str.ofString "").length = 0 := by decide +kernel
      refine op_join (ys := fr ++ addedG gs) rfl (by rw [h00, ← cat_len]; omega) ?_
      first | refine qi (join_cat) ?_ | refine qs (join_cat) ?_ | refine qt (join_cat) ?_ | refine qb (join_cat) ?_ | refine qm (join_cat) ?_ | refine q1 (join_cat) ?_ | rw [join_cat]
      repeat (ks_step "op2")
      have e4 : (Str.ofString "(?s:").length = 4 := by decide +kernel
      have e3 : (Str.ofString ")\\Z").length = 3 := by decide +kernel
      refine ⟨by omega, ?_⟩
      first | refine qi (app_empty) ?_ | refine qs (app_empty) ?_ | refine qt (app_empty) ?_ | refine qb (app_empty) ?_ | refine qm (app_empty) ?_ | refine q1 (app_empty) ?_ | rw [app_empty]
      repeat (ks_step "op2")
      refine ⟨by rw [len_appJ, e4]; omega, ?_⟩
      repeat (ks_step "op2")
      have hb : (Str.ofString "(?s:" ++ cat (fr ++ addedG gs) ++ Str.ofString ")\\Z").length ≤ 100000 := by rw [len_appJ, len_appJ, e4, e3]; omega
      refine ⟨hb, ?_⟩
      refine jp_nil hb ?_
      refine after_ret ?_
      rfl
theorem join_con {prog : Program} {w : World} {mg mb : Str → Option Value} (a : Addr) (fr : List Str) (gs : List (List Str)) (hok : OkG gs)
    (hl : (fr.map some ++ flatG gs).length ≤ 20) (hs : ∀ x ∈ fr ++ gs.flatten, x.length ≤ 20) :
    Con prog w mg mb 1 (defAt 10) [.lst ((fr.map some ++ flatG gs).map (dPart a)), .opq (.ref a)] (fun e => e = .str (joinT fr gs)) :=
  con_intro (xs := [Str.ofString "inp", Str.ofString "STAR"]) (by intro pm code doc vs h; obtain ⟨v1, v2, rfl⟩ := len2 h; kernel_rfl) rfl (by decide +kernel) (by decide +kernel) (by decide +kernel) (by decide +kernel) (by kernel_rfl) (by kernel_rfl) (by kernel_rfl)
    fun c h1 h2 h3 h4 _ K => (join_walk K h3 a fr gs hok hl hs).mono fun fl σ' μ' h => ⟨_, _, .inl h, .pure rfl, rfl⟩
end -- QJoin

section -- QIf
section
variable {c : Cx} {σ σ' : List (Str × D)} {μ : List MO} {mg mb : Str → Option Value} {Q : Fl → List (Str × D) → List MO → Prop}
noncomputable abbrev isB (b₀ : Bool) (μ : List MO) : KB := fun b μ' => b = b₀ ∧ μ' = μ
noncomputable abbrev nxt (σ : List (Str × D)) (μ : List MO) : KS := fun fl s m => fl = .next ∧ s = σ ∧ m = μ
theorem tr_ifT {test : Expr} {body orelse : List Stmt} {pos : Pos} (h : TsT c σ μ (isTrue test c.env (eval test c.env)) (isB true μ)) (k : TrT c σ μ (execs body c.env) Q) : TrT c σ μ (exec (.If test body orelse pos) c.env) Q :=
  tr_if (h.mono fun b μ' ⟨h1, h2⟩ => by subst h1 h2; exact ite_t rfl k)
theorem tr_ifF {test : Expr} {body orelse : List Stmt} {pos : Pos} (h : TsT c σ μ (isTrue test c.env (eval test c.env)) (isB false μ)) (k : TrT c σ μ (execs orelse c.env) Q) : TrT c σ μ (exec (.If test body orelse pos) c.env) Q :=
  tr_if (h.mono fun b μ' ⟨h1, h2⟩ => by subst h1 h2; exact ite_f rfl k)
theorem ev_ifT {test body orelse : Expr} {pos : Pos} {Q : D → List MO → Prop} (h : TsT c σ μ (isTrue test c.env (eval test c.env)) (isB true μ)) (k : EvT c σ μ (eval body c.env) Q) : EvT c σ μ (eval (.IfExp test body orelse pos) c.env) Q :=
  ev_ifexp (h.mono fun b μ' ⟨h1, h2⟩ => by subst h1 h2; exact ite_t rfl k)
theorem ev_ifF {test body orelse : Expr} {pos : Pos} {Q : D → List MO → Prop} (h : TsT c σ μ (isTrue test c.env (eval test c.env)) (isB false μ)) (k : EvT c σ μ (eval orelse c.env) Q) : EvT c σ μ (eval (.IfExp test body orelse pos) c.env) Q :=
  ev_ifexp (h.mono fun b μ' ⟨h1, h2⟩ => by subst h1 h2; exact ite_f rfl k)
theorem tr_step {st : Stmt} {rest : List Stmt} {μ₂ : List MO} (h1 : TrT c σ μ (exec st c.env) (nxt σ' μ₂)) (h2 : TrT c σ' μ₂ (execs rest c.env) Q) : TrT c σ μ (execs (st :: rest) c.env) Q :=
  tr_cons (h1.mono fun fl s m ⟨e1, e2, e3⟩ => by subst e1 e2 e3; exact h2)
/-- a while; what stands behind a turn is a letter -/
theorem tr_whileX {test : Expr} {body : List Stmt} {pos : Pos} (W : Nat → List (Str × D) → List MO → Prop)
    (turn : ∀ n σ μ, W n σ μ → ∀ X : Fl → List (Str × D) → List MO → Prop, (∀ σ₂ μ₂ m, m < n → W m σ₂ μ₂ → X .next σ₂ μ₂) → (∀ σ₂ μ₂, Q .next σ₂ μ₂ → X .brk σ₂ μ₂) → (∀ d σ₂ μ₂, Q (.ret d) σ₂ μ₂ → X (.ret d) σ₂ μ₂) →
      (TsT c σ μ (isTrue test c.env (eval test c.env)) (isB true μ) ∧ TrT c σ μ (execs body c.env) X) ∨
      (TsT c σ μ (isTrue test c.env (eval test c.env)) (isB false μ) ∧ Q .next σ μ))
    (n : Nat) (h : W n σ μ) : TrT c σ μ (exec (.While test body [] pos) c.env) Q := by
  refine tr_while W (fun n σ μ w => ?_) n h
  rcases turn n σ μ w (loopK (kW n W) Q) (fun σ₂ μ₂ m hm hw => ⟨m, hm, hw⟩) (fun σ₂ μ₂ q => q) (fun d σ₂ μ₂ q => q) with ⟨h1, h2⟩ | ⟨h1, h2⟩
  · exact h1.mono fun b μ' ⟨e1, e2⟩ => by subst e1 e2; exact ite_t rfl h2
  · exact h1.mono fun b μ' ⟨e1, e2⟩ => by subst e1 e2; exact ite_f rfl h2
end
end -- QIf

section -- QFits
noncomputable abbrev dPiece (piece : List (Bool × Str)) : D := .lst (piece.map fun p => .tup [.bool p.1, .str p.2])
noncomputable def fitsGo (name : Str) : List (Bool × Str) → Nat → Bool
  | [], _ => true
  | (b, x) :: r, i => match name.cps[i]? with
    | some ch => if x.cps.toList.contains ch == b then false else fitsGo name r (i + 1)
    | none => false
noncomputable def fits (piece : List (Bool × Str)) (name : Str) (i : Nat) : Bool := if i + piece.length > name.length then false else fitsGo name piece i

theorem fits_walk {c : Cx} {mg mb : Str → Option Value} (K : c.Ok mg mb) (hsc : c.env.scope = (defAt 16).scope) (piece : List (Bool × Str)) (name : Str) (at' : Nat) (hp : piece.length < 1000) (hn : name.length < 1000) (ha : at' < 1000) :
    TrT c [(Str.ofString "piece", dPiece piece), (Str.ofString "name", .str name), (Str.ofString "at", .int at')] [] (execs (defAt 16).body c.env) (fun fl _ _ => fl = .ret (.bool (fits piece name at'))) := by
  conv at hsc => rhs; whnf
  refine tr_cons ?_
  repeat (ks_step "go")
  refine op_len_lst (by simp; omega) ?_
  refine op_add ?_
  repeat (ks_step "go")
  refine op_len_str (by omega) ?_
  refine op_gt ⟨_, rfl, ?_⟩
  refine ite_c ?_ ?_
  · intro h
    repeat (ks_step "go")
    simp at h
    have : fits piece name at' = false := by unfold fits; rw [if_pos (by omega)]
    first | refine qi (this) ?_ | refine qs (this) ?_ | refine qt (this) ?_ | refine qb (this) ?_ | refine qm (this) ?_ | refine q1 (this) ?_ | rw [this]
  · intro h
    simp at h
    refine tr_nil ?_
    ks_step "go"
    ks_step "go"
    have e : fits piece name at' = fitsGo name piece at' := by unfold fits; rw [if_neg (by omega)]
    first | refine qi (e) ?_ | refine qs (e) ?_ | refine qt (e) ?_ | refine qb (e) ?_ | refine qm (e) ?_ | refine q1 (e) ?_ | rw [e]
    refine tr_for K ?_
    ks_step "go"
    refine ⟨_, rfl, by clear e h hp; induction piece <;> simp_all [Ds.pure, D.pure], ?_⟩
    generalize dPiece piece = P0
    clear e hp
    induction piece generalizing at' with
    | nil =>
      simp only [List.map_nil]
      unfold ForT
      repeat (ks_step "go")
      rfl
    | cons p r ih =>
      obtain ⟨b, x⟩ := p
      simp only [List.map_cons]
      unfold ForT
      have hk : c.env.kindOf (Str.ofString "barred") = some .local ∨ c.env.kindOf (Str.ofString "barred") = some .cell := by
        exact .inl (kind_of hsc (by kernel_rfl!))
      refine asg_tuple K (xs := [Str.ofString "barred", Str.ofString "signs"]) rfl (by ks_step "kinds") (by ks_step "upds") ?_
      simp only [List.length_cons] at h
      obtain ⟨ch, hch⟩ : ∃ ch, name.cps[at']? = some ch := by
        refine ⟨name.cps[at']'(by show at' < name.length; omega), ?_⟩
        first | refine qi (Array.getElem?_eq_getElem) ?_ | refine qs (Array.getElem?_eq_getElem) ?_ | refine qt (Array.getElem?_eq_getElem) ?_ | refine qb (Array.getElem?_eq_getElem) ?_ | refine qm (Array.getElem?_eq_getElem) ?_ | refine q1 (Array.getElem?_eq_getElem) ?_ | rw [Array.getElem?_eq_getElem]
      repeat (ks_step "go")
      refine sub_str (ch := ch) (by omega) (by omega) (by unfold place; rw [if_neg (by omega)]; simpa using hch) ?_
      repeat (ks_step "go")
      refine op_ins ?_
      first | refine qi (in_sign) ?_ | refine qs (in_sign) ?_ | refine qt (in_sign) ?_ | refine qb (in_sign) ?_ | refine qm (in_sign) ?_ | refine q1 (in_sign) ?_ | rw [in_sign]
      repeat (ks_step "go")
      refine op_eqb ⟨_, rfl, ?_⟩
      have e : fitsGo name ((b, x) :: r) at' = if x.cps.toList.contains ch == b then false else fitsGo name r (at' + 1) := by
        show (match name.cps[at']? with | some ch => if x.cps.toList.contains ch == b then false else fitsGo name r (at' + 1) | none => false) = _
        first | refine qi (hch) ?_ | refine qs (hch) ?_ | refine qt (hch) ?_ | refine qb (hch) ?_ | refine qm (hch) ?_ | refine q1 (hch) ?_ | rw [hch]
      first | refine qi (e) ?_ | refine qs (e) ?_ | refine qt (e) ?_ | refine qb (e) ?_ | refine qm (e) ?_ | refine q1 (e) ?_ | rw [e]
      cases hcb : x.cps.toList.contains ch == b with
      | true =>
        simp only [if_true]
        refine ite_t rfl ?_
        repeat (ks_step "go")
        rfl
      | false =>
        simp only [Bool.false_eq_true, if_false]
        refine ite_f rfl ?_
        refine tr_nil ?_
        repeat (ks_step "go")
        refine op_iadd ⟨_, by ks_step "upd", ?_⟩
        ks_step "go"
        refine tr_nilT 3 ?_
        simp only [List.take_succ_cons, List.take_zero]
        refine loop_next ?_
        exact_mod_cast ih (at' + 1) (by omega) (by omega)

theorem fits_con {prog : Program} {w : World} {mg mb : Str → Option Value} {n : Nat} (piece : List (Bool × Str)) (name : Str) (at' : Nat) (hp : piece.length < 1000) (hn : name.length < 1000) (ha : at' < 1000) :
    Con prog w mg mb (n + 1) (defAt 16) [dPiece piece, .str name, .int at'] (fun e => e = .bool (fits piece name at')) :=
  con_intro (xs := [Str.ofString "piece", Str.ofString "name", Str.ofString "at"]) (by intro pm code doc vs h; obtain ⟨v1, v2, v3, rfl⟩ := len3 h; kernel_rfl) rfl (by decide +kernel) (by decide +kernel) (by decide +kernel) (by decide +kernel) (by kernel_rfl) (by kernel_rfl) (by kernel_rfl)
    fun c h1 h2 h3 h4 _ K => (fits_walk K h3 piece name at' hp hn ha).mono fun fl σ' μ' h => ⟨_, _, .inl h, .pure rfl, rfl⟩
end -- QFits

section -- QRead
/-- what a translated text is made of -/
inductive Tk where
  | it (tx : List Nat) (b : Bool) (sg : List Nat)
  | opn | cls | lst
noncomputable def Tk.tx : Tk → List Nat
  | .it tx _ _ => tx
  | .opn => [40, 63, 62, 46, 42, 63]
  | .cls => [41]
  | .lst => [46, 42]
noncomputable def txs (ts : List Tk) : List Nat := (ts.map Tk.tx).flatten
inductive OkTk : Nat → List Tk → Prop
  | nil0 : OkTk 0 []
  | nil3 : OkTk 3 []
  | it {st : Nat} {ts : List Tk} {tx : List Nat} {b : Bool} {sg : List Nat} (h : st = 0 ∨ st = 1 ∨ st = 3) (hi : ItemTx tx b sg) (r : OkTk st ts) : OkTk st (.it tx b sg :: ts)
  | opn {st : Nat} {ts : List Tk} (h : st = 0 ∨ st = 2) (r : OkTk 1 ts) : OkTk st (.opn :: ts)
  | cls {ts : List Tk} (r : OkTk 2 ts) : OkTk 1 (.cls :: ts)
  | lst {st : Nat} {ts : List Tk} (h : st = 0 ∨ st = 2) (r : OkTk 3 ts) : OkTk st (.lst :: ts)
noncomputable abbrev Pc := List (Bool × Str)
noncomputable def addLast (p0 : Pc) (ps : List Pc) (x : Bool × Str) : Pc × List Pc := match ps with
  | [] => (p0 ++ [x], [])
  | _ => (p0, ps.dropLast ++ [(ps.getLast?.getD []) ++ [x]])
noncomputable def runTk : Pc → List Pc → List Tk → Pc × List Pc
  | p0, ps, [] => (p0, ps)
  | p0, ps, .it _ b sg :: ts => runTk (addLast p0 ps (b, S sg)).1 (addLast p0 ps (b, S sg)).2 ts
  | p0, ps, .opn :: ts => runTk p0 (ps ++ [[]]) ts
  | p0, ps, .lst :: ts => runTk p0 (ps ++ [[]]) ts
  | p0, ps, .cls :: ts => runTk p0 ps ts
noncomputable abbrev dI (p : Bool × Str) : D := .tup [.bool p.1, .str p.2]
noncomputable def refsOf (n : Nat) : List D := .ref 0 :: (List.range n).map fun j => .ref (j + 2)
noncomputable def muS (p0 : Pc) (ps : List Pc) : List MO := .lst (p0.map dI) :: .lst (refsOf ps.length) :: ps.map fun p => MO.lst (p.map dI)
noncomputable abbrev endTx : List Nat := [41, 92, 90]
noncomputable abbrev rS (t : List Nat) (st at' e : Nat) : List (Str × D) := [(Str.ofString "text", .str (S t)), (Str.ofString "pieces", .ref 1), (Str.ofString "state", .int st), (Str.ofString "at", .int at'), (Str.ofString "end", .int e)]

theorem item_head {tx : List Nat} {b : Bool} {sg : List Nat} (h : ItemTx tx b sg) : ∃ ch r, tx = ch :: r ∧ ch ≠ 42 ∧ ch ≠ 41 ∧ (ch = 40 → ∃ r', r = 63 :: 33 :: r') ∧ (ch = 46 → r = []) := by
  cases h with
  | no => exact ⟨40, _, rfl, by decide, by decide, (fun _ => ⟨_, rfl⟩), (fun h => absurd h (by decide))⟩
  | dot => exact ⟨46, _, rfl, by decide, by decide, (fun h => absurd h (by decide)), (fun _ => rfl)⟩
  | esc ch => exact ⟨92, _, rfl, by decide, by decide, (fun h => absurd h (by decide)), (fun h => absurd h (by decide))⟩
  | @chr ch hp => exact ⟨ch, [], rfl, (fun e => hp (by simp [e])), (fun e => hp (by simp [e])), (fun e => absurd (by simp [e]) hp), (fun _ => rfl)⟩
  | set => exact ⟨91, _, rfl, by decide, by decide, (fun h => absurd h (by decide)), (fun h => absurd h (by decide))⟩
theorem tk_head {st : Nat} {ts : List Tk} (h : OkTk st ts) : ∃ ch r, txs ts ++ endTx = ch :: r ∧ ch ≠ 42 := by
  cases h with
  | nil0 => exact ⟨_, _, rfl, by decide⟩
  | nil3 => exact ⟨_, _, rfl, by decide⟩
  | it h hi r =>
    obtain ⟨ch, r', e, h1, _⟩ := item_head hi
    exact ⟨ch, _, by simp [txs, Tk.tx, e]; rfl, h1⟩
  | opn => exact ⟨40, _, rfl, by decide⟩
  | cls => exact ⟨41, _, rfl, by decide⟩
  | lst => exact ⟨46, _, rfl, by decide⟩
theorem cut_none (t : List Nat) (m : Nat) : cutS (S t) none (some (m : Int)) = S (t.take m) := by
  unfold cutS
  show (⟨_⟩ : Str) = ⟨_⟩
  congr 2
  show List.take (clipAt (S t).length m - 0) (List.drop 0 (S t).cps.toList) = _
  rw [clipAt_nat, S_length]
  show List.take (min m t.length - 0) (List.drop 0 t) = _
  simp
theorem cut_some (t : List Nat) (n : Nat) : cutS (S t) (some (n : Int)) none = S (t.drop n) := by
  unfold cutS
  show (⟨_⟩ : Str) = ⟨_⟩
  congr 2
  show List.take ((S t).length - clipAt (S t).length n) (List.drop (clipAt (S t).length n) (S t).cps.toList) = _
  rw [clipAt_nat, S_length]
  show List.take (t.length - min n t.length) (List.drop (min n t.length) t) = _
  by_cases h : n ≤ t.length
  · rw [Nat.min_eq_left h, List.take_of_length_le (by simp)]
  · rw [List.drop_eq_nil_of_le (by omega), List.drop_eq_nil_of_le (by omega)]; simp

theorem cut_hit {t pre A B : List Nat} {x : Str} {m : Nat} (ht : t = pre ++ (A ++ B)) (hA : A.length = m) (hx : x = S A) : (cutS (S t) (some ((pre.length : Nat) : Int)) (some (((pre.length : Nat) : Int) + (m : Nat))) == x) = true := by
  have e : ((pre.length : Nat) : Int) + (m : Nat) = ((pre.length + m : Nat) : Int) := by push_cast; rfl
  rw [e, cut_S _ _ _ (by omega), hx, S_beq, ht]
  simp [← hA]
theorem cut_miss {t pre B C : List Nat} {x : Str} {m : Nat} (ht : t = pre ++ B) (hx : x = S C) (h : B.take m ≠ C) : (cutS (S t) (some ((pre.length : Nat) : Int)) (some (((pre.length : Nat) : Int) + (m : Nat))) == x) = false := by
  have e : ((pre.length : Nat) : Int) + (m : Nat) = ((pre.length + m : Nat) : Int) := by push_cast; rfl
  rw [e, cut_S _ _ _ (by omega), hx, S_beq, ht]
  simp [h]
theorem mu_len (p0 : Pc) (ps : List Pc) : (muS p0 ps).length = ps.length + 2 := by simp [muS]
theorem refs_succ (n : Nat) : refsOf (n + 1) = refsOf n ++ [.ref (n + 2)] := by simp [refsOf, List.range_succ]
theorem mu_push (p0 : Pc) (ps : List Pc) : (muS p0 ps ++ [MO.lst []]).set 1 (MO.lst (refsOf ps.length ++ [.ref (muS p0 ps).length])) = muS p0 (ps ++ [[]]) := by
  rw [mu_len]; simp [muS, refs_succ]
theorem refs_len (n : Nat) : (refsOf n).length = n + 1 := by simp [refsOf]
theorem refs_last0 : (refsOf 0)[0]? = some (.ref 0) := rfl
theorem refs_lastS (n : Nat) : (refsOf (n + 1))[n + 1]? = some (.ref (n + 2)) := by rw [refs_succ]; simp [refs_len]
theorem mu_at (p0 : Pc) (qs : List Pc) (q : Pc) : (muS p0 (qs ++ [q]))[qs.length + 2]? = some (.lst (q.map dI)) := by simp [muS]
theorem mu_set (p0 : Pc) (qs : List Pc) (q r : Pc) : (muS p0 (qs ++ [q])).set (qs.length + 2) (.lst (r.map dI)) = muS p0 (qs ++ [r]) := by simp [muS]
theorem addLast_len (p0 : Pc) (ps : List Pc) (x : Bool × Str) : (addLast p0 ps x).2.length = ps.length := by
  rcases List.eq_nil_or_concat ps with rfl | ⟨qs, q, rfl⟩
  · rfl
  · rw [List.concat_eq_append]; simp [addLast]
theorem addLast_len0 (p0 : Pc) (ps : List Pc) (x : Bool × Str) : (addLast p0 ps x).1.length ≤ p0.length + 1 := by
  rcases List.eq_nil_or_concat ps with rfl | ⟨qs, q, rfl⟩
  · simp [addLast]
  · rw [List.concat_eq_append]; simp [addLast]
theorem addLast_mem (p0 : Pc) (ps : List Pc) (x : Bool × Str) {n : Nat} (h : ∀ q ∈ ps, q.length + (n + 1) ≤ 200) : ∀ q ∈ (addLast p0 ps x).2, q.length + n ≤ 200 := by
  rcases List.eq_nil_or_concat ps with rfl | ⟨qs, q, rfl⟩
  · intro q hq; simp [addLast] at hq
  · rw [List.concat_eq_append] at *
    intro r hr
    have : (addLast p0 (qs ++ [q]) x).2 = qs ++ [q ++ [x]] := by simp [addLast]
    rw [this] at hr
    rcases List.mem_append.mp hr with hr | hr
    · have := h r (List.mem_append_left _ hr); omega
    · simp at hr; subst hr
      have := h q (by simp); simp; omega
theorem tx_lt {pre : List Nat} {tk : Tk} {rs : List Tk} {e : Nat} (h : pre.length + (txs (tk :: rs)).length = e) (hp : 0 < tk.tx.length) : pre.length < e := by
  rw [← h]
  refine Nat.lt_add_of_pos_right ?_
  show 0 < (tk.tx ++ txs rs).length
  rw [List.length_append]
  exact Nat.lt_of_lt_of_le hp (Nat.le_add_right _ _)
theorem b_snoc {ps : List Pc} {m : Nat} {x : Pc} (h : ps.length + (m + 1) ≤ 100) : (ps ++ [x]).length + m ≤ 100 := by
  rw [List.length_append, List.length_singleton, Nat.add_right_comm]; exact h
theorem b_less {a m k : Nat} (h : a + (m + 1) ≤ k) : a + m ≤ k := Nat.le_of_succ_le h
theorem b_all {ps : List Pc} {m : Nat} (h : ∀ p ∈ ps, p.length + (m + 1) ≤ 200) (h0 : m ≤ 200) : ∀ p ∈ ps ++ [([] : Pc)], p.length + m ≤ 200 := fun p hp => by
  rcases List.mem_append.mp hp with hp | hp
  · exact b_less (h p hp)
  · rw [List.mem_singleton.mp hp, List.length_nil, Nat.zero_add]; exact h0
theorem read_walk {c : Cx} {mg mb : Str → Option Value} (K : c.Ok mg mb) (hcn : c.n = 1) (hsc : c.env.scope = (defAt 15).scope) (ts : List Tk) (hok : OkTk 0 ts) (t : List Nat) (ht : t = [40, 63, 115, 58] ++ txs ts ++ endTx) (hl : t.length ≤ 1000) (hts : ts.length ≤ 100) :
    TrT c [(Str.ofString "text", .str (S t))] [] (execs (defAt 15).body c.env) (fun fl _ μ => fl = .ret (.ref 1) ∧ μ = muS (runTk [] [] ts).1 (runTk [] [] ts).2) := by
  conv at hsc => rhs; whnf
  have KW : c.OkW mg mb := K.toOkW
  refine tr_cons ?_
  refine tr_tupleN K hsc (xs := [Str.ofString "pieces", Str.ofString "state", Str.ofString "at", Str.ofString "end"]) rfl (by ks_step "kinds") ?_ (by kernel_rfl!)
  repeat (ks_step "op2")
  refine ev_listM ?_
  repeat (ks_step "op2")
  refine ev_listM ?_
  repeat (ks_step "op2")
  have hel : txs ts = (txs ts) := rfl
  obtain ⟨e, he⟩ : ∃ e, e = (txs ts).length + 4 := ⟨_, rfl⟩
  have htl : t.length = e + 3 := by rw [ht]; simp; omega
  refine op_len_str (by rw [S_length]; omega) ?_
  first | refine qi (S_length) ?_ | refine qs (S_length) ?_ | refine qt (S_length) ?_ | refine qb (S_length) ?_ | refine qm (S_length) ?_ | refine q1 (S_length) ?_ | rw [S_length]
  repeat (ks_step "op2")
  have e3 : ((t.length : Nat) : Int) - 3 = (e : Nat) := by rw [htl]; push_cast; omega
  first | refine qi (e3) ?_ | refine qs (e3) ?_ | refine qt (e3) ?_ | refine qb (e3) ?_ | refine qm (e3) ?_ | refine q1 (e3) ?_ | rw [e3]
  repeat (ks_step "op2")
  refine ⟨_, _, rfl, by ks_step "upds", ?_⟩
  repeat (ks_step "op2")
  refine sl_str (by rw [S_length]; omega) ?_
  repeat (ks_step "op2")
  have c1 : (cutS (S t) none (some (4 : Int)) != Str.ofString "(?s:") = false := by
    rw [show (4 : Int) = ((4 : Nat) : Int) from rfl, cut_none, show Str.ofString "(?s:" = S [40, 63, 115, 58] by decide +kernel, bne, S_beq, ht]; simp
  have c2 : (cutS (S t) (some (e : Int)) none != Str.ofString ")\\Z") = false := by
    have hd : t.drop e = endTx := by
      rw [ht, List.drop_left' (by simp; omega)]
    rw [cut_some, show Str.ofString ")\\Z" = S endTx by decide +kernel, bne, S_beq, hd]; simp
  refine ite_f (c1) ?_
  repeat (ks_step "op2")
  refine sl_str (by rw [S_length]; omega) ?_
  repeat (ks_step "op2")
  refine ite_f (c2) ?_
  repeat (ks_step "op2")
  refine ite_f rfl ?_
  refine tr_nil ?_
  repeat (ks_step "op2")
  refine TrT.mono (Q := fun fl σ μ => ∃ st, (st = 0 ∨ st = 3) ∧ fl = .next ∧ σ = rS t st e e ∧ μ = muS (runTk [] [] ts).1 (runTk [] [] ts).2) ?wh ?rest
  case rest =>
    rintro _ _ _ ⟨st, hst, rfl, rfl, rfl⟩
    repeat (ks_step "op2")
    refine op_in_ints [1, 2] ?_
    have ein : ([1, 2] : List Int).any (· == ((st : Nat) : Int)) = false := by rcases hst with rfl | rfl <;> decide
    first | refine qi (ein) ?_ | refine qs (ein) ?_ | refine qt (ein) ?_ | refine qb (ein) ?_ | refine qm (ein) ?_ | refine q1 (ein) ?_ | rw [ein]
    repeat (ks_step "op2")
    refine ite_f rfl ?_
    repeat (ks_step "op2")
    exact ⟨rfl, rfl⟩
  case wh =>
    refine tr_whileX (fun m σ μ => ∃ (pre : List Nat) (st : Nat) (rs : List Tk) (p0 : Pc) (ps : List Pc), t = pre ++ (txs rs ++ endTx) ∧ m = rs.length ∧ OkTk st rs ∧ runTk p0 ps rs = runTk [] [] ts ∧ ps.length + rs.length ≤ 100 ∧ p0.length + rs.length ≤ 200 ∧ (∀ p ∈ ps, p.length + rs.length ≤ 200) ∧
      σ = rS t st pre.length e ∧ μ = muS p0 ps) ?_ ts.length ⟨[40, 63, 115, 58], 0, ts, [], [], by rw [ht]; simp, rfl, hok, rfl, by simpa using hts, by simp; omega, by simp, rfl, rfl⟩
    rintro m σ μ ⟨pre, st, rs, p0, ps, hpre, rfl, hok', hrun, hb1, hb2, hb3, rfl, rfl⟩ X hX _ _
    have hpl : pre.length + (txs rs).length = e := by have := congrArg List.length hpre; rw [htl] at this; simp at this; omega
    clear ht htl c1 c2 hel he e3 hok hts
    cases hok' with
    | nil0 =>
      refine .inr ⟨?_, ?_⟩
      · repeat (ks_step "op2")
        exact ⟨by simp [txs] at hpl ⊢; omega, rfl⟩
      · have hpe : pre.length = e := by simpa [txs] using hpl
        exact ⟨0, .inl rfl, rfl, by rw [hpe], by rw [← hrun]; rfl⟩
    | nil3 =>
      refine .inr ⟨?_, ?_⟩
      · repeat (ks_step "op2")
        exact ⟨by simp [txs] at hpl ⊢; omega, rfl⟩
      · have hpe : pre.length = e := by simpa [txs] using hpl
        exact ⟨3, .inr rfl, rfl, by rw [hpe], by rw [← hrun]; rfl⟩
    | @opn _ rs hst r =>
      refine .inl ⟨?_, ?_⟩
      · repeat (ks_step "op2")
        exact ⟨d_lt (tx_lt hpl (by decide)), rfl⟩
      have ein : ([0, 2] : List Int).any (· == ((st : Nat) : Int)) = true := by rcases hst with rfl | rfl <;> decide
      have hpre2 : t = pre ++ ([40, 63, 62, 46, 42, 63] ++ (txs rs ++ endTx)) := by rw [hpre]; simp [txs, Tk.tx]
      refine tr_cons ?_
      refine tr_ifT ?_ ?_
      · repeat (ks_step "op2")
        refine op_in_ints [0, 2] ?_
        first | refine qi (ein) ?_ | refine qs (ein) ?_ | refine qt (ein) ?_ | refine qb (ein) ?_ | refine qm (ein) ?_ | refine q1 (ein) ?_ | rw [ein]
        repeat (ks_step "op2")
        refine ite_t rfl ?_
        repeat (ks_step "op2")
        refine sl_str (by rw [S_length]; omega) ?_
        repeat (ks_step "op2")
        refine ite_t (show (cutS (S t) (some ((pre.length : Nat) : Int)) (some (((pre.length : Nat) : Int) + 6)) == Str.ofString "(?>.*?") = true from cut_hit hpre2 rfl (by decide +kernel)) ?_
        repeat (ks_step "op2")
        first | exact ⟨rfl, rfl⟩ | exact rfl
      refine tr_step (σ' := rS t st pre.length e) (μ₂ := muS p0 (ps ++ [[]])) ?_ ?_
      · repeat (ks_step "op2")
        refine ev_listM ?_
        repeat (ks_step "op2")
        refine ⟨by rw [refs_len]; simp at hb1; omega, rfl, ?_⟩
        first | refine qi (mu_push) ?_ | refine qs (mu_push) ?_ | refine qt (mu_push) ?_ | refine qb (mu_push) ?_ | refine qm (mu_push) ?_ | refine q1 (mu_push) ?_ | rw [mu_push]
        exact ⟨rfl, rfl, rfl⟩
      refine tr_step (σ' := rS t 1 (pre ++ [40, 63, 62, 46, 42, 63]).length e) (μ₂ := muS p0 (ps ++ [[]])) ?_ ?_
      · refine tr_pair K hsc (x := Str.ofString "state") (y := Str.ofString "at") (by ks_step "kinds") ?_ (by kernel_rfl!)
        repeat (ks_step "op2")
        refine ⟨_, _, _, _, rfl, by ks_step "upd", by ks_step "upd", ?_⟩
        exact ⟨rfl, by simp [rS], rfl⟩
      refine tr_nil ?_
      refine after_next ?_
      refine tr_nil ?_
      refine hX _ _ rs.length (by simp) ⟨pre ++ [40, 63, 62, 46, 42, 63], 1, rs, p0, ps ++ [[]], by rw [hpre2]; simp, rfl, r, by rw [← hrun]; rfl, b_snoc hb1, b_less hb2, b_all hb3 (Nat.le_trans (Nat.le_add_left _ _) (b_less hb2)), rfl, rfl⟩
    | @lst _ rs hst r =>
      refine .inl ⟨?_, ?_⟩
      · repeat (ks_step "op2")
        exact ⟨d_lt (tx_lt hpl (by decide)), rfl⟩
      have ein : ([0, 2] : List Int).any (· == ((st : Nat) : Int)) = true := by rcases hst with rfl | rfl <;> decide
      have hpre2 : t = pre ++ ([46, 42] ++ (txs rs ++ endTx)) := by rw [hpre]; simp [txs, Tk.tx]
      refine tr_cons ?_
      refine tr_ifF ?_ ?_
      · repeat (ks_step "op2")
        refine op_in_ints [0, 2] ?_
        first | refine qi (ein) ?_ | refine qs (ein) ?_ | refine qt (ein) ?_ | refine qb (ein) ?_ | refine qm (ein) ?_ | refine q1 (ein) ?_ | rw [ein]
        repeat (ks_step "op2")
        refine ite_t rfl ?_
        repeat (ks_step "op2")
        refine sl_str (by rw [S_length]; omega) ?_
        repeat (ks_step "op2")
        refine ite_f (show (cutS (S t) (some ((pre.length : Nat) : Int)) (some (((pre.length : Nat) : Int) + 6)) == Str.ofString "(?>.*?") = false from cut_miss (C := [40, 63, 62, 46, 42, 63]) hpre2 (by decide +kernel) (by simp)) ?_
        exact ⟨rfl, rfl⟩
      refine tr_cons ?_
      refine tr_ifT ?_ ?_
      · repeat (ks_step "op2")
        refine op_in_ints [0, 2] ?_
        first | refine qi (ein) ?_ | refine qs (ein) ?_ | refine qt (ein) ?_ | refine qb (ein) ?_ | refine qm (ein) ?_ | refine q1 (ein) ?_ | rw [ein]
        repeat (ks_step "op2")
        refine ite_t rfl ?_
        repeat (ks_step "op2")
        refine sl_str (by rw [S_length]; omega) ?_
        repeat (ks_step "op2")
        refine ite_t (show (cutS (S t) (some ((pre.length : Nat) : Int)) (some (((pre.length : Nat) : Int) + 2)) == Str.ofString ".*") = true from cut_hit hpre2 rfl (by decide +kernel)) ?_
        repeat (ks_step "op2")
        first | exact ⟨rfl, rfl⟩ | exact rfl
      refine tr_step (σ' := rS t st pre.length e) (μ₂ := muS p0 (ps ++ [[]])) ?_ ?_
      · repeat (ks_step "op2")
        refine ev_listM ?_
        repeat (ks_step "op2")
        refine ⟨by rw [refs_len]; simp at hb1; omega, rfl, ?_⟩
        first | refine qi (mu_push) ?_ | refine qs (mu_push) ?_ | refine qt (mu_push) ?_ | refine qb (mu_push) ?_ | refine qm (mu_push) ?_ | refine q1 (mu_push) ?_ | rw [mu_push]
        exact ⟨rfl, rfl, rfl⟩
      refine tr_step (σ' := rS t 3 (pre ++ [46, 42]).length e) (μ₂ := muS p0 (ps ++ [[]])) ?_ ?_
      · refine tr_pair K hsc (x := Str.ofString "state") (y := Str.ofString "at") (by ks_step "kinds") ?_ (by kernel_rfl!)
        repeat (ks_step "op2")
        refine ⟨_, _, _, _, rfl, by ks_step "upd", by ks_step "upd", ?_⟩
        exact ⟨rfl, by simp [rS], rfl⟩
      refine tr_nil ?_
      refine after_next ?_
      refine tr_nil ?_
      refine after_next ?_
      refine tr_nil ?_
      refine hX _ _ rs.length (by simp) ⟨pre ++ [46, 42], 3, rs, p0, ps ++ [[]], by rw [hpre2]; simp, rfl, r, by rw [← hrun]; rfl, b_snoc hb1, b_less hb2, b_all hb3 (Nat.le_trans (Nat.le_add_left _ _) (b_less hb2)), rfl, rfl⟩
    | @cls rs r =>
      refine .inl ⟨?_, ?_⟩
      · repeat (ks_step "op2")
        exact ⟨d_lt (tx_lt hpl (by decide)), rfl⟩
      have ein : ([0, 2] : List Int).any (· == ((1 : Nat) : Int)) = false := by decide
      have hpre2 : t = pre ++ 41 :: (txs rs ++ endTx) := by rw [hpre]; simp [txs, Tk.tx]
      refine tr_cons ?_
      refine tr_ifF ?_ ?_
      · repeat (ks_step "op2")
        refine op_in_ints [0, 2] ?_
        first | refine qi (ein) ?_ | refine qs (ein) ?_ | refine qt (ein) ?_ | refine qb (ein) ?_ | refine qm (ein) ?_ | refine q1 (ein) ?_ | rw [ein]
        repeat (ks_step "op2")
        refine ite_f rfl ?_
        exact ⟨rfl, rfl⟩
      refine tr_cons ?_
      refine tr_ifF ?_ ?_
      · repeat (ks_step "op2")
        refine op_in_ints [0, 2] ?_
        first | refine qi (ein) ?_ | refine qs (ein) ?_ | refine qt (ein) ?_ | refine qb (ein) ?_ | refine qm (ein) ?_ | refine q1 (ein) ?_ | rw [ein]
        repeat (ks_step "op2")
        refine ite_f rfl ?_
        exact ⟨rfl, rfl⟩
      refine tr_cons ?_
      refine tr_ifT ?_ ?_
      · repeat (ks_step "op2")
        refine ite_t (show (((1 : Nat) : Int) == 1) = true by decide) ?_
        repeat (ks_step "op2")
        refine sub_S (A := pre) (B := txs rs ++ endTx) (ch := 41) hpre2 rfl hl ?_
        repeat (ks_step "op2")
        refine ite_t (show (S [41] == Str.ofString ")") = true by decide +kernel) ?_
        repeat (ks_step "op2")
        first | exact ⟨rfl, rfl⟩ | exact rfl
      refine tr_step (σ' := rS t 2 (pre ++ [41]).length e) (μ₂ := muS p0 ps) ?_ ?_
      · refine tr_pair K hsc (x := Str.ofString "state") (y := Str.ofString "at") (by ks_step "kinds") ?_ (by kernel_rfl!)
        repeat (ks_step "op2")
        refine ⟨_, _, _, _, rfl, by ks_step "upd", by ks_step "upd", ?_⟩
        exact ⟨rfl, by simp [rS], rfl⟩
      refine tr_nil ?_
      refine after_next ?_
      refine tr_nil ?_
      refine after_next ?_
      refine tr_nil ?_
      refine after_next ?_
      refine tr_nil ?_
      refine hX _ _ rs.length (by simp) ⟨pre ++ [41], 2, rs, p0, ps, by rw [hpre2]; simp, rfl, r, by rw [← hrun]; rfl, b_less hb1, b_less hb2, fun p hp => b_less (hb3 p hp), rfl, rfl⟩
    | @it _ rs tx b sg hst hi r =>
      obtain ⟨ch, tx', htx, n42, n41, h40, h46⟩ := item_head hi
      refine .inl ⟨?_, ?_⟩
      · repeat (ks_step "op2")
        exact ⟨by simp [txs, Tk.tx, htx] at hpl ⊢; omega, rfl⟩
      have hpre2 : t = pre ++ tx ++ (txs rs ++ endTx) := by rw [hpre]; simp [txs, Tk.tx]
      have hpre3 : t = pre ++ (tx ++ (txs rs ++ endTx)) := by rw [hpre2]; simp
      obtain ⟨nx, rx, hnx, hn42⟩ := tk_head r
      have m1 : (cutS (S t) (some ((pre.length : Nat) : Int)) (some (((pre.length : Nat) : Int) + 6)) == Str.ofString "(?>.*?") = false := cut_miss (C := [40, 63, 62, 46, 42, 63]) hpre3 (by decide +kernel) (by
        first | refine qi (htx) ?_ | refine qs (htx) ?_ | refine qt (htx) ?_ | refine qb (htx) ?_ | refine qm (htx) ?_ | refine q1 (htx) ?_ | rw [htx]
        intro q
        simp at q
        obtain ⟨q1, q2⟩ := q
        obtain ⟨r', hr'⟩ := h40 q1
        rw [hr'] at q2
        simp at q2)
      have m2 : (cutS (S t) (some ((pre.length : Nat) : Int)) (some (((pre.length : Nat) : Int) + 2)) == Str.ofString ".*") = false := cut_miss (C := [46, 42]) hpre3 (by decide +kernel) (by
        first | refine qi (htx) ?_ | refine qs (htx) ?_ | refine qt (htx) ?_ | refine qb (htx) ?_ | refine qm (htx) ?_ | refine q1 (htx) ?_ | rw [htx]
        intro q
        simp at q
        obtain ⟨q1, q2⟩ := q
        rw [h46 q1, List.nil_append, hnx] at q2
        simp at q2
        exact hn42 q2)
      refine tr_cons ?_
      refine tr_ifF ?_ ?_
      · repeat (ks_step "op2")
        refine op_in_ints [0, 2] ?_
        refine ⟨_, rfl, ?_⟩
        refine ite_c ?_ ?_
        · intro _
          repeat (ks_step "op2")
          refine sl_str (by rw [S_length]; omega) ?_
          repeat (ks_step "op2")
          refine ite_f (m1) ?_
          exact ⟨rfl, rfl⟩
        · intro _
          exact ⟨rfl, rfl⟩
      refine tr_cons ?_
      refine tr_ifF ?_ ?_
      · repeat (ks_step "op2")
        refine op_in_ints [0, 2] ?_
        refine ⟨_, rfl, ?_⟩
        refine ite_c ?_ ?_
        · intro _
          repeat (ks_step "op2")
          refine sl_str (by rw [S_length]; omega) ?_
          repeat (ks_step "op2")
          refine ite_f (m2) ?_
          exact ⟨rfl, rfl⟩
        · intro _
          exact ⟨rfl, rfl⟩
      refine tr_cons ?_
      refine tr_ifF ?_ ?_
      · repeat (ks_step "op2")
        refine ite_c ?_ ?_
        · intro _
          repeat (ks_step "op2")
          refine sub_S (A := pre) (B := tx' ++ (txs rs ++ endTx)) (ch := ch) (by rw [hpre3, htx]; rfl) rfl hl ?_
          repeat (ks_step "op2")
          refine ite_f (show (S [ch] == Str.ofString ")") = false by rw [show Str.ofString ")" = S [41] by decide +kernel, S_beq]; simp; exact n41) ?_
          exact ⟨rfl, rfl⟩
        · intro _
          exact ⟨rfl, rfl⟩
      clear m1 m2
      refine tr_step (σ' := rS t st (pre ++ tx).length e ++ [(Str.ofString "item", .tup [.bool b, .str (S sg)])]) (μ₂ := muS p0 ps) ?_ ?_
      · refine tr_tupleN K hsc (xs := [Str.ofString "item", Str.ofString "at"]) rfl (by ks_step "kinds") ?_ (by kernel_rfl!)
        refine ev_fcall nm14 rec14 K (n := 1) (by omega) (by ks_step "kind") rfl ?_
        repeat (ks_step "op2")
        have hcon := item_con (prog := c.prog) (w := c.w) (mg := mg) (mb := mb) pre (txs rs ++ endTx) tx b sg hi (by rw [← hpre2]; exact hl)
        rw [← hpre2] at hcon
        refine ⟨rfl, hcon.mono fun e' he' => ?_⟩
        subst he'
        refine ⟨rfl, _, _, rfl, by ks_step "upds", ?_⟩
        exact ⟨rfl, by simp [rS], rfl⟩
      simp only [rS, List.cons_append, List.nil_append]
      refine tr_cons ?_
      refine tr_ifF ?_ ?_
      · repeat (ks_step "op2")
        refine ite_f rfl ?_
        repeat (ks_step "op2")
        have e2 : (((st : Nat) : Int) == 2) = false := by rcases hst with rfl | rfl | rfl <;> decide
        refine ite_f (e2) ?_
        repeat (ks_step "op2")
        exact ⟨rfl, rfl⟩
      refine tr_nil ?_
      refine after_next ?_
      refine tr_step (σ' := [(Str.ofString "text", .str (S t)), (Str.ofString "pieces", .ref 1), (Str.ofString "state", .int st), (Str.ofString "at", .int (pre ++ tx).length), (Str.ofString "end", .int e), (Str.ofString "item", .tup [.bool b, .str (S sg)])]) (μ₂ := muS (addLast p0 ps (b, S sg)).1 (addLast p0 ps (b, S sg)).2) ?_ ?_
      · repeat (ks_step "op2")
        rcases List.eq_nil_or_concat ps with rfl | ⟨qs, q, rfl⟩
        · refine sub_ref (ds := refsOf 0) (d := .ref 0) rfl (by rw [refs_len]; decide) (by rw [refs_len]; decide) rfl ?_
          refine ⟨_, rfl, ⟨_, rfl⟩, ?_⟩
          repeat (ks_step "op2")
          refine ⟨by simp at hb2 ⊢; omega, rfl, rfl, ?_⟩
          simp [muS, addLast, refsOf]
        · rw [List.concat_eq_append] at *
          have hq : q.length ≤ 200 := by have := hb3 q (by simp); omega
          refine sub_ref (ds := refsOf (qs.length + 1)) (d := .ref (qs.length + 2)) (by simp [muS]) (by rw [refs_len]; omega) (by rw [refs_len]; simp at hb1; omega) ?_ ?_
          · have : place (-1) (refsOf (qs.length + 1)).length = qs.length + 1 := by rw [refs_len]; unfold place; rw [if_pos (by decide)]; omega
            rw [this]; exact refs_lastS _
          refine ⟨_, rfl, ⟨_, mu_at p0 qs q⟩, ?_⟩
          repeat (ks_step "op2")
          refine ⟨_, mu_at p0 qs q, by rw [List.length_map]; omega, rfl, rfl, rfl, ?_⟩
          have : q.map dI ++ [D.tup [.bool b, .str (S sg)]] = (q ++ [(b, S sg)]).map dI := by simp
          rw [this, mu_set]
          simp [addLast]
      refine tr_nil ?_
      refine after_next ?_
      refine tr_nil ?_
      refine after_next ?_
      refine tr_nil ?_
      refine after_next ?_
      refine tr_nilT 5 ?_
      refine hX _ _ rs.length (by simp) ⟨pre ++ tx, st, rs, (addLast p0 ps (b, S sg)).1, (addLast p0 ps (b, S sg)).2, hpre2, rfl, r, by rw [← hrun]; rfl, ?_, ?_, ?_, rfl, rfl⟩
      · have := addLast_len p0 ps (b, S sg); simp at hb1; omega
      · have := addLast_len0 p0 ps (b, S sg); simp at hb2; omega
      · intro p hp
        have := addLast_mem p0 ps (b, S sg) (n := rs.length) (fun q hq => by have := hb3 q hq; simpa using this) p hp
        omega
end -- QRead

section -- QTakes
noncomputable abbrev Piece := List (Bool × Str)
noncomputable def srchN (piece : Piece) (name : Str) : Nat → Nat → Nat
  | 0, i => i
  | n + 1, i => if fits piece name i = false then srchN piece name n (i + 1) else i
noncomputable def srch (piece : Piece) (name : Str) (i : Nat) : Nat := srchN piece name (name.length + 1 - i) i
theorem srch_eq (piece : Piece) (name : Str) (i : Nat) : srch piece name i = if i ≤ name.length ∧ fits piece name i = false then srch piece name (i + 1) else i := by
  unfold srch
  by_cases h : i ≤ name.length
  · rw [Nat.succ_sub h, Nat.succ_sub_succ]
    show (if fits piece name i = false then _ else _) = _
    by_cases hf : fits piece name i = false
    · rw [if_pos hf, if_pos ⟨h, hf⟩]
    · rw [if_neg hf, if_neg fun q => hf q.2]
  · rw [if_neg fun q => h q.1, Nat.sub_eq_zero_of_le (Nat.lt_of_not_le h)]; rfl
noncomputable def takesMid (name : Str) : List Piece → Nat → Option Nat
  | [], i => some i
  | p :: r, i => if srch p name i > name.length then none else takesMid name r (srch p name i + p.length)
noncomputable def takes (pieces : List Piece) (name : Str) : Bool :=
  match pieces with
  | [] => false
  | front :: r => if fits front name 0 = false then false else
    match r with
    | [] => front.length == name.length
    | _ :: _ => match takesMid name r.dropLast front.length with
      | none => false
      | some i => decide (i + (r.getLast?.getD []).length ≤ name.length) && fits (r.getLast?.getD []) name (name.length - (r.getLast?.getD []).length)

noncomputable abbrev dPieces (pieces : List Piece) : D := .lst (pieces.map dPiece)

theorem pure_piece (p : Piece) : D.pure (dPiece p) = true := by
  unfold dPiece
  simp only [D.pure]
  exact pure_bools _ (fun a => rfl) _

theorem pure_piece' (p : Piece) : Ds.pure (p.map fun p => D.tup [D.bool p.1, D.str p.2]) = true := pure_bools _ (fun a => rfl) _

theorem takes_walk {c : Cx} {mg mb : Str → Option Value} (K : c.Ok mg mb) (hcn : c.n = 1) (hsc : c.env.scope = (defAt 17).scope) (front : Piece) (r : List Piece) (name : Str) (hp : ∀ p ∈ front :: r, p.length ≤ 20) (hl : r.length ≤ 20) (hn : name.length ≤ 20) :
    TrT c [(Str.ofString "pieces", dPieces (front :: r)), (Str.ofString "name", .str name)] [] (execs (defAt 17).body c.env) (fun fl _ _ => fl = .ret (.bool (takes (front :: r) name))) := by
  have hfl := hp front (List.mem_cons_self ..)
  obtain ⟨last, hlast⟩ : ∃ last, (front :: r).getLast? = some last := ⟨_, List.getLast?_eq_some_getLast (by simp)⟩
  have hll : last.length ≤ 20 := hp last (List.mem_of_getLast? hlast)
  have hpl : (front :: r)[r.length]? = some last := by
    rw [List.getLast?_eq_getElem?] at hlast; simpa using hlast
  conv at hsc => rhs; whnf
  refine tr_cons ?_
  refine tr_pair K hsc (x := Str.ofString "front") (y := Str.ofString "last") (by ks_step "kinds") ?_ (by kernel_rfl!)
  repeat (ks_step "op")
  refine sub_lst (d := dPiece front) (by simp; omega) (by simp; omega) (by simp [place]) ?_
  repeat (ks_step "op")
  refine sub_lst (d := dPiece last) (by simp; omega) (by simp; omega) (by
    have e : place (-1) ((front :: r).map dPiece).length = r.length := by simp [place]; omega
    rw [e, List.getElem?_map, hpl]; rfl) ?_
  repeat (ks_step "op")
  refine ⟨_, _, _, _, rfl, by ks_step "upd", by ks_step "upd", ?_⟩
  repeat (ks_step "op")
  refine ev_fcall nm16 rec16 K (n := 1) (by omega) (by ks_step "kind") rfl ?_
  repeat (ks_step "op")
  refine ⟨by simp only [Ds.pure, D.pure, pure_piece', Bool.and_self], (fits_con front name 0 (by omega) (by omega) (by omega)).mono fun e he => ?_⟩
  subst he
  refine ⟨rfl, ?_⟩
  repeat (ks_step "op")
  cases hf : fits front name 0 with
  | false =>
    refine ite_t rfl ?_
    repeat (ks_step "op")
    simp [takes, hf]
  | true =>
    refine ite_f rfl ?_
    refine tr_nil ?_
    repeat (ks_step "op")
    refine op_len_lst (by simp; omega) ?_
    simp only [List.length_map]
    repeat (ks_step "op")
    refine op_len_lst (by simp; omega) ?_
    simp only [List.length_map]
    repeat (ks_step "op")
    cases r with
    | nil =>
      simp only [List.length_cons, List.length_nil]
      refine ite_t (by decide) ?_
      repeat (ks_step "op")
      refine op_len_str (by omega) ?_
      repeat (ks_step "op")
      simp only [takes, hf]
      simp only [Bool.true_eq_false, if_false]
      congr 2
      by_cases h : front.length = name.length
      · rw [h]; simp
      · rw [beq_eq_false_iff_ne.mpr h, beq_eq_false_iff_ne.mpr (by omega)]
    | cons p2 r =>
      refine ite_n (by simp only [List.length_cons, beq_iff_eq]; omega) ?_
      refine tr_nil ?_
      repeat (ks_step "op")
      refine tr_for K ?_
      repeat (ks_step "op")
      refine sl_lst (by simp only [List.length_map, List.length_cons] at *; omega) ?_
      have hcut : List.take (hiC ((front :: p2 :: r).map dPiece).length (some (-1)) - loC ((front :: p2 :: r).map dPiece).length (some 1)) (List.drop (loC ((front :: p2 :: r).map dPiece).length (some 1)) ((front :: p2 :: r).map dPiece)) = (p2 :: r).dropLast.map dPiece := by
        have e1 : loC ((front :: p2 :: r).map dPiece).length (some 1) = 1 := by
          show clipAt _ ((1 : Nat) : Int) = 1
          rw [clipAt_nat]; simp only [List.length_map, List.length_cons]; omega
        have e2 : hiC ((front :: p2 :: r).map dPiece).length (some (-1)) = r.length + 1 := by
          show clipAt _ (-((1 : Nat) : Int)) = _
          rw [clipAt_neg _ _ (by omega)]; simp only [List.length_map, List.length_cons]; omega
        rw [e1, e2]
        simp only [List.map_cons, List.drop_succ_cons, List.drop_zero, Nat.add_sub_cancel]
        rw [List.dropLast_eq_take, List.map_take]
        simp
      refine ⟨_, rfl, ?_, ?_⟩
      · rw [hcut]; exact pure_bools _ pure_piece _
      first | refine qi (hcut) ?_ | refine qs (hcut) ?_ | refine qt (hcut) ?_ | refine qb (hcut) ?_ | refine qm (hcut) ?_ | refine q1 (hcut) ?_ | rw [hcut]
      have hres : takes (front :: p2 :: r) name = (match takesMid name (p2 :: r).dropLast front.length with
          | none => false
          | some i => decide (i + last.length ≤ name.length) && fits last name (name.length - last.length)) := by
        have e : ((p2 :: r).getLast?.getD []) = last := by
          rw [List.getLast?_cons_cons] at hlast; rw [hlast]; rfl
        simp only [takes, hf, e]
        rfl
      first | refine qi (hres) ?_ | refine qs (hres) ?_ | refine qt (hres) ?_ | refine qb (hres) ?_ | refine qm (hres) ?_ | refine q1 (hres) ?_ | rw [hres]
      have hm : ∀ p ∈ (p2 :: r).dropLast, p.length ≤ 20 := fun p h => hp p (List.mem_cons_of_mem _ ((List.dropLast_sublist _).subset h))
      generalize (p2 :: r).dropLast = mid at hm
      have hi : front.length ≤ 40 := by omega
      generalize front.length = i at hi
      generalize dPieces (front :: p2 :: r) = D0
      generalize dPiece front = D1
      clear hres hcut hpl hlast hp hl hf hfl
      induction mid generalizing i with
      | nil =>
        simp only [List.map_nil]
        unfold ForT
        repeat (ks_step "op")
        refine op_len_str (by omega) ?_
        repeat (ks_step "op")
        refine op_len_lst (by simp only [List.length_map]; omega) ?_
        simp only [List.length_map]
        repeat (ks_step "op")
        by_cases hge : i + last.length ≤ name.length
        · refine ite_t (decide_eq_true (by omega)) ?_
          repeat (ks_step "op")
          refine ev_fcall nm16 rec16 K (n := 1) (by omega) (by ks_step "kind") rfl ?_
          repeat (ks_step "op")
          first | refine qi (show ((name.length : Int) - (last.length : Int)) = ((name.length - last.length : Nat) : Int) by omega) ?_ | refine qs (show ((name.length : Int) - (last.length : Int)) = ((name.length - last.length : Nat) : Int) by omega) ?_ | refine qt (show ((name.length : Int) - (last.length : Int)) = ((name.length - last.length : Nat) : Int) by omega) ?_ | refine qb (show ((name.length : Int) - (last.length : Int)) = ((name.length - last.length : Nat) : Int) by omega) ?_ | refine qm (show ((name.length : Int) - (last.length : Int)) = ((name.length - last.length : Nat) : Int) by omega) ?_ | refine q1 (show ((name.length : Int) - (last.length : Int)) = ((name.length - last.length : Nat) : Int) by omega) ?_ | rw [show ((name.length : Int) - (last.length : Int)) = ((name.length - last.length : Nat) : Int) by omega]
          refine ⟨by simp only [Ds.pure, D.pure, pure_piece', Bool.and_self], (fits_con last name (name.length - last.length) (by omega) (by omega) (by omega)).mono fun e he => ?_⟩
          subst he
          refine ⟨rfl, ?_⟩
          repeat (ks_step "op")
          simp only [takesMid, decide_eq_true hge, Bool.true_and]
        · refine ite_n (by rw [decide_eq_true_eq]; omega) ?_
          repeat (ks_step "op")
          simp only [takesMid, decide_eq_false hge, Bool.false_and]
          first | refine qi (decide_eq_false (by omega)) ?_ | refine qs (decide_eq_false (by omega)) ?_ | refine qt (decide_eq_false (by omega)) ?_ | refine qb (decide_eq_false (by omega)) ?_ | refine qm (decide_eq_false (by omega)) ?_ | refine q1 (decide_eq_false (by omega)) ?_ | rw [decide_eq_false (by omega)]
      | cons p mid ih =>
        simp only [List.map_cons]
        unfold ForT
        refine asg_name K (by ks_step "kind") (by ks_step "upd") ?_
        have hpl := hm p (List.mem_cons_self ..)
        repeat (ks_step "op")
        have hsj : ∀ j, srch p name j = if j ≤ name.length ∧ fits p name j = false then srch p name (j + 1) else j := fun j => srch_eq p name j
        have hsb : ∀ j, srch p name j ≤ max j (name.length + 1) := by
          intro j
          induction hk : name.length + 1 - j generalizing j with
          | zero => rw [hsj, if_neg (by omega)]; omega
          | succ k ihk =>
            first | refine qi (hsj) ?_ | refine qs (hsj) ?_ | refine qt (hsj) ?_ | refine qb (hsj) ?_ | refine qm (hsj) ?_ | refine q1 (hsj) ?_ | rw [hsj]
            split
            · have := ihk (j + 1) (by omega); omega
            · omega
        refine TrT.mono (Q := fun fl σ μ => fl = .next ∧ σ = [(Str.ofString "pieces", D0), (Str.ofString "name", D.str name), (Str.ofString "last", dPiece last), (Str.ofString "front", D1), (Str.ofString "at", D.int (srch p name i)), (Str.ofString "piece", dPiece p)] ∧ μ = []) ?wh ?after
        case wh =>
          refine tr_while (fun n σ μ => ∃ j : Nat, σ = [(Str.ofString "pieces", D0), (Str.ofString "name", D.str name), (Str.ofString "last", dPiece last), (Str.ofString "front", D1), (Str.ofString "at", D.int j), (Str.ofString "piece", dPiece p)] ∧ μ = [] ∧ n = name.length + 1 - j ∧ j ≤ 40 ∧ srch p name j = srch p name i) ?_ (name.length + 1 - i) ⟨i, rfl, rfl, rfl, hi, rfl⟩
          rintro n σ μ ⟨j, rfl, rfl, rfl, hj, hs⟩
          repeat (ks_step "op")
          refine op_len_str (by omega) ?_
          repeat (ks_step "op")
          by_cases hle : j ≤ name.length
          · refine ite_t (decide_eq_true (by omega)) ?_
            repeat (ks_step "op")
            refine ev_fcall nm16 rec16 K (n := 1) (by omega) (by ks_step "kind") rfl ?_
            repeat (ks_step "op")
            refine ⟨by simp only [Ds.pure, D.pure, pure_piece', Bool.and_self], (fits_con p name j (by omega) (by omega) (by omega)).mono fun e he => ?_⟩
            subst he
            refine ⟨rfl, ?_⟩
            repeat (ks_step "op")
            cases hfj : fits p name j with
            | false =>
              refine ite_t (by rfl) ?_
              repeat (ks_step "op")
              refine ite_t rfl ?_
              repeat (ks_step "op")
              refine tr_nil ?_
              repeat (ks_step "op")
              refine ⟨name.length + 1 - (j + 1), by omega, j + 1, by simp, rfl, rfl, by omega, ?_⟩
              rw [← hs, hsj j, if_pos ⟨hle, hfj⟩]
            | true =>
              refine ite_n (by simp) ?_
              refine ite_n (by simp) ?_
              refine ⟨rfl, ?_, rfl⟩
              rw [← hs, hsj j, if_neg (by simp [hfj])]
          · refine ite_n (by rw [decide_eq_true_eq]; omega) ?_
            refine ite_n (by simp) ?_
            refine ⟨rfl, ?_, rfl⟩
            rw [← hs, hsj j, if_neg (by simp [hle])]
        case after =>
          rintro _ _ _ ⟨rfl, rfl, rfl⟩
          have hb := hsb i
          repeat (ks_step "op")
          refine op_len_str (by omega) ?_
          repeat (ks_step "op")
          by_cases hgt : srch p name i > name.length
          · refine ite_t (decide_eq_true (by omega)) ?_
            repeat (ks_step "op")
            simp only [takesMid, if_pos hgt]
          · refine ite_n (by rw [decide_eq_true_eq]; omega) ?_
            refine tr_nil ?_
            repeat (ks_step "op")
            refine op_len_lst (by simp only [List.length_map]; omega) ?_
            simp only [List.length_map]
            repeat (ks_step "op")
            refine tr_nilT 5 ?_
            simp only [List.take_succ_cons, List.take_zero]
            refine loop_next ?_
            have := ih (fun q hq => hm q (List.mem_cons_of_mem _ hq)) (srch p name i + p.length) (by omega)
            simp only [takesMid, if_neg hgt]
            exact_mod_cast this

theorem takes_con {prog : Program} {w : World} {mg mb : Str → Option Value} (front : Piece) (r : List Piece) (name : Str) (hp : ∀ p ∈ front :: r, p.length ≤ 20) (hl : r.length ≤ 20) (hn : name.length ≤ 20) :
    Con prog w mg mb 2 (defAt 17) [dPieces (front :: r), .str name] (fun e => e = .bool (takes (front :: r) name)) :=
  con_intro (xs := [Str.ofString "pieces", Str.ofString "name"]) (by intro pm code doc vs h; obtain ⟨v1, v2, rfl⟩ := len2 h; kernel_rfl) rfl (by decide +kernel) (by decide +kernel) (by decide +kernel) (by decide +kernel) (by kernel_rfl) (by kernel_rfl) (by kernel_rfl)
    fun c h1 h2 h3 h4 _ K => (takes_walk K h4 h3 front r name hp hl hn).mono fun fl σ' μ' h => ⟨_, _, .inl h, .pure rfl, rfl⟩
end -- QTakes

section -- QRead2
theorem ress_items (μ : List MO) : ∀ p : Pc, Ress μ (p.map dI) (p.map dI)
  | [] => .nil
  | x :: r => .cons (.pure rfl) (ress_items μ r)
theorem ress_of {μ : List MO} : ∀ {ds es : List D}, ds.length = es.length → (∀ (j : Nat) (d e : D), ds[j]? = some d → es[j]? = some e → Res μ d e) → Ress μ ds es
  | [], [], _, _ => .nil
  | d :: ds, e :: es, hl, h => .cons (h 0 d e rfl rfl) (ress_of (by simpa using hl) fun j d e h1 h2 => h (j + 1) d e (by simpa using h1) (by simpa using h2))
theorem res_pieces (p0 : Pc) (ps : List Pc) : Res (muS p0 ps) (.ref 1) (dPieces (p0 :: ps)) := by
  refine .ref (ds := refsOf ps.length) rfl (ress_of (by simp [refs_len]) fun j d e h1 h2 => ?_)
  cases j with
  | zero =>
    simp [refsOf] at h1; subst h1
    simp at h2; subst h2
    exact .ref rfl (ress_items _ _)
  | succ j =>
    have hj : j < ps.length := by
      have := (List.getElem?_eq_some_iff.mp h1).1
      rw [refs_len] at this; omega
    have e1 : d = .ref (j + 2) := by
      simp only [refsOf, List.getElem?_cons_succ, List.getElem?_map, List.getElem?_range hj] at h1
      simpa using h1.symm
    have e2 : e = .lst (ps[j].map dI) := by
      simp only [List.map_cons, List.getElem?_cons_succ, List.getElem?_map, List.getElem?_eq_getElem hj] at h2
      simpa using h2.symm
    subst e1 e2
    refine .ref (ds := ps[j].map dI) ?_ (ress_items _ _)
    simp [muS, List.getElem?_eq_getElem hj]
theorem read_con {prog : Program} {w : World} {mg mb : Str → Option Value} (ts : List Tk) (hok : OkTk 0 ts) (t : List Nat) (ht : t = [40, 63, 115, 58] ++ txs ts ++ endTx) (hl : t.length ≤ 1000) (hts : ts.length ≤ 100) :
    Con prog w mg mb 2 (defAt 15) [.str (S t)] (fun e => e = dPieces ((runTk [] [] ts).1 :: (runTk [] [] ts).2)) :=
  con_intro (xs := [Str.ofString "text"]) (by intro pm code doc vs h; obtain ⟨v1, rfl⟩ := len1 h; kernel_rfl) rfl (by decide +kernel) (by decide +kernel) (by decide +kernel) (by decide +kernel) (by kernel_rfl) (by kernel_rfl) (by kernel_rfl)
    fun c h1 h2 h3 h4 _ K => (read_walk K h4 h3 ts hok t ht hl hts).mono fun fl σ' μ' ⟨hf, hm⟩ => ⟨_, _, .inl hf, hm ▸ res_pieces _ _, rfl⟩
end -- QRead2

section -- QPl
theorem S_app (x y : List Nat) : S x ++ S y = S (x ++ y) := by
  show Str.mk (x.toArray ++ y.toArray) = Str.mk _
  simp
theorem dpt_eq (a : Addr) : dPt a = dPart a := by funext x; cases x <;> rfl
noncomputable def setTxN (x : List Nat) : List Nat := if x = [97, 98] then [91, 97, 98, 93] else if x = [33, 97] then [91, 94, 97, 93] else if x = [42] then [91, 42, 93] else if x = [63] then [91, 63, 93] else if x = [91] then [91, 92, 91, 93] else if x = [98, 45, 97] then [40, 63, 33, 41] else [46]
theorem setTx_S (x : List Nat) : setTx x = S (setTxN x) := by
  have e1 : Str.ofString "[ab]" = S [91, 97, 98, 93] := by decide +kernel
  have e2 : Str.ofString "[^a]" = S [91, 94, 97, 93] := by decide +kernel
  have e3 : Str.ofString "[*]" = S [91, 42, 93] := by decide +kernel
  have e4 : Str.ofString "[?]" = S [91, 63, 93] := by decide +kernel
  have e5 : Str.ofString "[\\[]" = S [91, 92, 91, 93] := by decide +kernel
  have e6 : Str.ofString "(?!)" = S [40, 63, 33, 41] := by decide +kernel
  have e7 : Str.ofString "." = S [46] := by decide +kernel
  unfold setTx setTxN
  simp only [apply_ite S, e1, e2, e3, e4, e5, e6, e7]
/-- the text that stands for an item that is no star -/
noncomputable def Pt.tx : Pt → List Nat
  | .star => []
  | .q => [46]
  | .set x => setTxN x
  | .sg ch => if ch ∈ mapKeys then [92, ch] else [ch]
/-- what it takes: barred, and the signs -/
noncomputable def Pt.bar : Pt → Bool
  | .q => true
  | .set x => x = [33, 97] || x = [33, 98, 45, 97]
  | _ => false
noncomputable def Pt.sgn : Pt → List Nat
  | .set x => if x = [97, 98] then [97, 98] else if x = [33, 97] then [97] else if x = [42] then [42] else if x = [63] then [63] else if x = [91] then [91] else []
  | .sg ch => [ch]
  | _ => []
theorem part_tx {p : Pt} (h : p ≠ .star) : p.part = some (S p.tx) := by
  cases p with
  | star => exact absurd rfl h
  | q => exact congrArg some (by decide +kernel)
  | sg ch => exact congrArg some (by show escS ch = S (if ch ∈ mapKeys then [92, ch] else [ch]); rw [apply_ite S]; rfl)
  | set x => exact congrArg some (setTx_S x)
theorem itemTx_of {p : Pt} (h : OkPt p) (hs : p ≠ .star) : ItemTx p.tx p.bar p.sgn := by
  cases p with
  | star => exact absurd rfl hs
  | q => exact .dot
  | sg ch =>
    show ItemTx (if ch ∈ mapKeys then [92, ch] else [ch]) false [ch]
    split
    · exact .esc ch
    · rename_i hn
      exact .chr fun hc => hn ((by decide : ∀ x ∈ [46, 92, 91, 40, 41, 42, 43, 63, 123, 125, 124, 94, 36], x ∈ mapKeys) ch hc)
  | set x =>
    have h7 : x = [97, 98] ∨ x = [33, 97] ∨ x = [42] ∨ x = [63] ∨ x = [91] ∨ x = [98, 45, 97] ∨ x = [33, 98, 45, 97] := by
      have : x ∈ setsOk := h
      simpa [setsOk] using this
    rcases h7 with rfl | rfl | rfl | rfl | rfl | rfl | rfl
    · exact ItemTx.set (l := [(false, 97), (false, 98)]) false (by intro p hp; simp at hp; rcases hp with rfl | rfl <;> decide) (by intro _ r; simp [segTx])
    · exact ItemTx.set (l := [(false, 97)]) true (by intro p hp; simp at hp; subst hp; decide) (by intro h; cases h)
    · exact ItemTx.set (l := [(false, 42)]) false (by intro p hp; simp at hp; subst hp; decide) (by intro _ r; simp [segTx])
    · exact ItemTx.set (l := [(false, 63)]) false (by intro p hp; simp at hp; subst hp; decide) (by intro _ r; simp [segTx])
    · exact ItemTx.set (l := [(true, 91)]) false (by intro p hp; simp at hp; subst hp; intro h; cases h) (by intro _ r; simp [segTx])
    · exact .no
    · exact .dot
/-- what stands before the first star, and behind each -/
noncomputable def splitG : List Pt → List Pt × List (List Pt)
  | [] => ([], [])
  | .star :: r => ([], (splitG r).1 :: (splitG r).2)
  | p :: r => (p :: (splitG r).1, (splitG r).2)
theorem splitG_star (r : List Pt) : splitG (.star :: r) = ([], (splitG r).1 :: (splitG r).2) := rfl
theorem splitG_mark {p : Pt} (h : p ≠ .star) (r : List Pt) : splitG (p :: r) = (p :: (splitG r).1, (splitG r).2) := by
  cases p with
  | star => exact absurd rfl h
  | _ => rfl
theorem splitG_ok : ∀ l : List Pt, (∀ p ∈ l, OkPt p) → (∀ p ∈ (splitG l).1, OkPt p ∧ p ≠ .star) ∧ ∀ g ∈ (splitG l).2, ∀ p ∈ g, OkPt p ∧ p ≠ .star
  | [], _ => ⟨fun p h => (by cases h), fun p h => (by cases h)⟩
  | p :: r, h => by
    obtain ⟨i1, i2⟩ := splitG_ok r fun q hq => h q (List.mem_cons_of_mem _ hq)
    by_cases hs : p = .star
    · subst hs
      rw [splitG_star]
      refine ⟨fun p h => (by cases h), fun g hg => ?_⟩
      rcases List.mem_cons.mp hg with rfl | hg
      · exact i1
      · exact i2 g hg
    · rw [splitG_mark hs]
      refine ⟨fun q hq => ?_, i2⟩
      rcases List.mem_cons.mp hq with rfl | hq
      · exact ⟨h _ (List.mem_cons_self ..), hs⟩
      · exact i1 q hq
noncomputable abbrev txS (p : Pt) : Str := S p.tx
theorem split_parts : ∀ l : List Pt, l.map Pt.part = ((splitG l).1.map txS).map some ++ flatG ((splitG l).2.map fun g => g.map txS)
  | [] => rfl
  | p :: r => by
    have ih := split_parts r
    by_cases hs : p = .star
    · subst hs
      rw [splitG_star, List.map_cons, ih]
      simp [flatG, Pt.part]
    · rw [splitG_mark hs, List.map_cons, ih, part_tx hs]
      simp
theorem split_len : ∀ l : List Pt, (splitG l).1.length + (splitG l).2.length + (splitG l).2.flatten.length = l.length
  | [] => rfl
  | p :: r => by
    have ih := split_len r
    by_cases hs : p = .star
    · subst hs
      rw [splitG_star]; simp only [List.length_cons, List.length_nil, List.flatten_cons, List.length_append]; omega
    · rw [splitG_mark hs]; simp only [List.length_cons]; omega
theorem split_head {l : List Pt} (h1 : (splitG l).1 = []) (h2 : (splitG l).2 ≠ []) : l.head? = some .star := by
  cases l with
  | nil => exact absurd rfl h2
  | cons p r =>
    by_cases hs : p = .star
    · rw [hs]; rfl
    · rw [splitG_mark hs] at h1; cases h1
theorem split_okG : ∀ l : List Pt, NoSS l → OkG ((splitG l).2.map fun g => g.map txS)
  | [], _ => trivial
  | p :: r, h => by
    have ih := split_okG r h.2
    by_cases hs : p = .star
    · subst hs
      rw [splitG_star]
      cases hr : (splitG r).2 with
      | nil => trivial
      | cons g gs =>
        rw [hr] at ih
        refine ⟨fun e => ?_, ih⟩
        have e1 : (splitG r).1 = [] := by simpa using e
        exact h.1 rfl (split_head e1 (by rw [hr]; simp))
    · rw [splitG_mark hs]; exact ih
/-! ### the tokens of the joined text -/
noncomputable def itT (p : Pt) : Tk := .it p.tx p.bar p.sgn
noncomputable def gtoks : List (List Pt) → List Tk
  | [] => []
  | [g] => .lst :: g.map itT
  | g :: g' :: r => .opn :: (g.map itT ++ .cls :: gtoks (g' :: r))
noncomputable def toksOf (l : List Pt) : List Tk := (splitG l).1.map itT ++ gtoks (splitG l).2
theorem txs_app (a b : List Tk) : txs (a ++ b) = txs a ++ txs b := by simp [txs]
theorem cat_S : ∀ l : List (List Nat), cat (l.map S) = S l.flatten
  | [] => by decide +kernel
  | x :: r => by rw [List.map_cons, cat, cat_S r, S_app]; simp
theorem cat_it (g : List Pt) : cat (g.map txS) = S (txs (g.map itT)) := by
  have := cat_S (g.map Pt.tx)
  rw [List.map_map] at this
  rw [show g.map txS = g.map (S ∘ Pt.tx) from rfl, this]
  congr 1
  simp [txs, itT, Tk.tx, Function.comp_def]
theorem cat_nilS : cat [] = S [] := by decide +kernel
theorem app_S_nil (x : Str) : x ++ S [] = x := by show Str.mk (x.cps ++ #[]) = x; simp
theorem added_S : ∀ gs : List (List Pt), cat (addedG (gs.map fun g => g.map txS)) = S (txs (gtoks gs))
  | [] => cat_nilS
  | [g] => by
    have e2 : Str.ofString ".*" = S [46, 42] := by decide +kernel
    show cat (if g.map txS = [] then _ else _) = _
    split
    · rename_i h
      have hg : g = [] := by simpa using h
      subst hg
      rw [cat, cat_nilS, app_S_nil, e2]; rfl
    · rw [cat, cat, cat_nilS, app_S_nil, e2, cat_it, S_app]
      simp [gtoks, txs, Tk.tx]
  | g :: g' :: r => by
    have ih := added_S (g' :: r)
    have e2 : Str.ofString "(?>.*?" = S [40, 63, 62, 46, 42, 63] := by decide +kernel
    have e3 : Str.ofString ")" = S [41] := by decide +kernel
    show cat ((Str.ofString "(?>.*?" ++ cat (g.map txS) ++ Str.ofString ")") :: addedG ((g' :: r).map fun g => g.map txS)) = _
    rw [cat, ih, e2, e3, cat_it, S_app, S_app, S_app]
    congr 1
    simp [gtoks, txs, Tk.tx]
theorem join_S (l : List Pt) : joinT ((splitG l).1.map txS) ((splitG l).2.map fun g => g.map txS) = S ([40, 63, 115, 58] ++ txs (toksOf l) ++ endTx) := by
  have e2 : Str.ofString "(?s:" = S [40, 63, 115, 58] := by decide +kernel
  have e3 : Str.ofString ")\\Z" = S endTx := by decide +kernel
  unfold joinT
  rw [cat_app, cat_it, added_S, e2, e3, S_app, S_app, S_app, toksOf, txs_app]
theorem okTk_items {st : Nat} (hst : st = 0 ∨ st = 1 ∨ st = 3) {ts : List Tk} : ∀ g : List Pt, (∀ p ∈ g, OkPt p ∧ p ≠ .star) → OkTk st ts → OkTk st (g.map itT ++ ts)
  | [], _, h => h
  | p :: g, hg, h => .it hst (itemTx_of (hg p (List.mem_cons_self ..)).1 (hg p (List.mem_cons_self ..)).2) (okTk_items hst g (fun q hq => hg q (List.mem_cons_of_mem _ hq)) h)
theorem okTk_gtoks : ∀ gs : List (List Pt), (∀ g ∈ gs, ∀ p ∈ g, OkPt p ∧ p ≠ .star) → gs ≠ [] → ∀ st, st = 0 ∨ st = 2 → OkTk st (gtoks gs)
  | [], _, h, _, _ => absurd rfl h
  | [g], hg, _, st, hst => by
    have := okTk_items (st := 3) (.inr (.inr rfl)) (ts := []) g (hg g (List.mem_cons_self ..)) .nil3
    rw [List.append_nil] at this
    exact .lst hst this
  | g :: g' :: r, hg, _, st, hst =>
    .opn hst (okTk_items (.inr (.inl rfl)) g (hg g (List.mem_cons_self ..)) (.cls (okTk_gtoks (g' :: r) (fun x hx => hg x (List.mem_cons_of_mem _ hx)) (by simp) 2 (.inr rfl))))
theorem okTk_toks (l : List Pt) (h : ∀ p ∈ l, OkPt p) : OkTk 0 (toksOf l) := by
  obtain ⟨h1, h2⟩ := splitG_ok l h
  unfold toksOf
  refine okTk_items (.inl rfl) _ h1 ?_
  by_cases hg : (splitG l).2 = []
  · rw [hg]; exact .nil0
  · exact okTk_gtoks _ h2 hg 0 (.inl rfl)
/-! ### the pieces -/
noncomputable def mkOf (p : Pt) : Bool × Str := (p.bar, S p.sgn)
theorem run_front (ts : List Tk) : ∀ (g : List Pt) (p0 : Pc), runTk p0 [] (g.map itT ++ ts) = runTk (p0 ++ g.map mkOf) [] ts
  | [], p0 => by simp
  | p :: g, p0 => by
    show runTk (addLast p0 [] (p.bar, S p.sgn)).1 (addLast p0 [] (p.bar, S p.sgn)).2 (g.map itT ++ ts) = _
    rw [show addLast p0 [] (p.bar, S p.sgn) = (p0 ++ [mkOf p], []) from rfl, run_front ts g]
    simp
theorem run_items (ts : List Tk) (p0 : Pc) (ps : List Pc) : ∀ (g : List Pt) (q : Pc), runTk p0 (ps ++ [q]) (g.map itT ++ ts) = runTk p0 (ps ++ [q ++ g.map mkOf]) ts
  | [], q => by simp
  | p :: g, q => by
    show runTk (addLast p0 (ps ++ [q]) (p.bar, S p.sgn)).1 (addLast p0 (ps ++ [q]) (p.bar, S p.sgn)).2 (g.map itT ++ ts) = _
    have e : addLast p0 (ps ++ [q]) (p.bar, S p.sgn) = (p0, ps ++ [q ++ [mkOf p]]) := by simp [addLast, mkOf]
    rw [e, run_items ts p0 ps g]
    simp
theorem run_gtoks (p0 : Pc) : ∀ (gs : List (List Pt)) (ps : List Pc), runTk p0 ps (gtoks gs) = (p0, ps ++ gs.map fun g => g.map mkOf)
  | [], ps => by simp [gtoks, runTk]
  | [g], ps => by
    have := run_items [] p0 ps g []
    rw [List.append_nil] at this
    show runTk p0 (ps ++ [[]]) (g.map itT) = _
    rw [this]; simp [runTk]
  | g :: g' :: r, ps => by
    show runTk p0 (ps ++ [[]]) (g.map itT ++ .cls :: gtoks (g' :: r)) = _
    rw [run_items]
    show runTk p0 (ps ++ [[] ++ g.map mkOf]) (gtoks (g' :: r)) = _
    rw [run_gtoks p0 (g' :: r)]
    simp
theorem run_toks (l : List Pt) : runTk [] [] (toksOf l) = ((splitG l).1.map mkOf, (splitG l).2.map fun g => g.map mkOf) := by
  unfold toksOf
  rw [run_front, run_gtoks]
  simp
end -- QPl

section -- QPl2
noncomputable def textOf (l : List Pt) : List Nat := [40, 63, 115, 58] ++ txs (toksOf l) ++ endTx
noncomputable def piecesOf (l : List Pt) : List Piece := (splitG l).1.map mkOf :: (splitG l).2.map fun g => g.map mkOf
theorem tx_len {p : Pt} (h : OkPt p) : p.tx.length ≤ 4 := by
  cases p with
  | star => decide
  | q => decide
  | sg ch =>
    show (if ch ∈ mapKeys then [92, ch] else [ch]).length ≤ 4
    split <;> simp
  | set x =>
    have : ∀ x : List Nat, x ∈ setsOk → (setTxN x).length ≤ 4 := by decide
    exact this x h
theorem toks_len : ∀ gs : List (List Pt), (gtoks gs).length ≤ 2 * gs.length + gs.flatten.length
  | [] => by simp [gtoks]
  | [g] => by simp [gtoks]; omega
  | g :: g' :: r => by
    have := toks_len (g' :: r)
    rw [List.flatten_cons, List.length_append, List.length_cons (a := g)]
    simp only [gtoks, List.length_cons, List.length_append, List.length_map] at this ⊢
    omega
theorem toksOf_len (l : List Pt) : (toksOf l).length ≤ 2 * l.length := by
  have h1 := toks_len (splitG l).2
  have h2 := split_len l
  unfold toksOf
  rw [List.length_append, List.length_map]
  omega
theorem txs_len (n : Nat) : ∀ ts : List Tk, (∀ t ∈ ts, t.tx.length ≤ n) → (txs ts).length ≤ n * ts.length
  | [], _ => by simp [txs]
  | t :: r, h => by
    have h1 := h t (List.mem_cons_self ..)
    have h2 := txs_len n r fun q hq => h q (List.mem_cons_of_mem _ hq)
    rw [show txs (t :: r) = t.tx ++ txs r by simp [txs], List.length_append, List.length_cons, Nat.mul_add]
    omega
theorem itT_len {g : List Pt} (h : ∀ p ∈ g, OkPt p) : ∀ t ∈ g.map itT, t.tx.length ≤ 6 := fun t ht => by
  obtain ⟨p, hp, rfl⟩ := List.mem_map.mp ht
  have := tx_len (h p hp)
  show p.tx.length ≤ 6
  omega
theorem gtoks_len : ∀ gs : List (List Pt), (∀ g ∈ gs, ∀ p ∈ g, OkPt p) → ∀ t ∈ gtoks gs, t.tx.length ≤ 6
  | [], _, t, h => by cases h
  | [g], hg, t, h => by
    rcases List.mem_cons.mp h with rfl | h
    · decide
    · exact itT_len (hg g (List.mem_cons_self ..)) t h
  | g :: g' :: r, hg, t, h => by
    rcases List.mem_cons.mp h with rfl | h
    · decide
    rcases List.mem_append.mp h with h | h
    · exact itT_len (hg g (List.mem_cons_self ..)) t h
    rcases List.mem_cons.mp h with rfl | h
    · decide
    · exact gtoks_len (g' :: r) (fun x hx => hg x (List.mem_cons_of_mem _ hx)) t h
theorem text_len (l : List Pt) (hok : ∀ p ∈ l, OkPt p) : (textOf l).length ≤ 12 * l.length + 7 := by
  obtain ⟨h1, h2⟩ := splitG_ok l hok
  have h3 : ∀ t ∈ toksOf l, t.tx.length ≤ 6 := fun t ht => by
    rcases List.mem_append.mp ht with ht | ht
    · exact itT_len (fun p hp => (h1 p hp).1) t ht
    · exact gtoks_len _ (fun g hg p hp => (h2 g hg p hp).1) t ht
  have h4 := txs_len 6 _ h3
  have h5 := toksOf_len l
  unfold textOf
  simp only [List.length_append, List.length_cons, List.length_nil]
  omega
theorem joinP_con {prog : Program} {w : World} {mg mb : Str → Option Value} (a : Addr) (l : List Pt) (hok : ∀ p ∈ l, OkPt p) (hss : NoSS l) (hl : l.length ≤ 20) :
    Con prog w mg mb 1 (defAt 10) [.lst (l.map fun p => dPt a p.part), .opq (.ref a)] (fun e => e = .str (S (textOf l))) := by
  obtain ⟨h1, h2⟩ := splitG_ok l hok
  have hs : ∀ p, OkPt p → (txS p).length ≤ 20 := fun p hp => by rw [S_length]; have := tx_len hp; omega
  have hc := join_con (prog := prog) (w := w) (mg := mg) (mb := mb) a ((splitG l).1.map txS) ((splitG l).2.map fun g => g.map txS) (split_okG l hss) (by rw [← split_parts, List.length_map]; exact hl) (fun x hx => by
    rcases List.mem_append.mp hx with hx | hx
    · obtain ⟨p, hp, rfl⟩ := List.mem_map.mp hx
      exact hs p (h1 p hp).1
    · obtain ⟨g, hg, hx⟩ := List.mem_flatten.mp hx
      obtain ⟨g', hg', rfl⟩ := List.mem_map.mp hg
      obtain ⟨p, hp, rfl⟩ := List.mem_map.mp hx
      exact hs p (h2 g' hg' p hp).1)
  rw [← split_parts, join_S, List.map_map, show (dPart a ∘ Pt.part) = fun p : Pt => dPt a p.part by funext p; rw [dpt_eq]; rfl] at hc
  exact hc
theorem readP_con {prog : Program} {w : World} {mg mb : Str → Option Value} (l : List Pt) (hok : ∀ p ∈ l, OkPt p) (hl : l.length ≤ 20) :
    Con prog w mg mb 2 (defAt 15) [.str (S (textOf l))] (fun e => e = dPieces (piecesOf l)) := by
  have h1 := text_len l hok
  have h2 := toksOf_len l
  have := read_con (prog := prog) (w := w) (mg := mg) (mb := mb) (toksOf l) (okTk_toks l hok) (textOf l) rfl (by omega) (by omega)
  rw [run_toks] at this
  exact this
theorem pieces_len (l : List Pt) : (piecesOf l).length ≤ l.length + 1 ∧ ∀ p ∈ piecesOf l, p.length ≤ l.length := by
  have h := split_len l
  refine ⟨by simp [piecesOf]; omega, fun p hp => ?_⟩
  rcases List.mem_cons.mp hp with rfl | hp
  · rw [List.length_map]; omega
  · obtain ⟨g, hg, rfl⟩ := List.mem_map.mp hp
    rw [List.length_map]
    have : g.length ≤ (splitG l).2.flatten.length := by
      have := (List.sublist_flatten_of_mem hg).length_le
      exact this
    omega
end -- QPl2

section -- QFor
/-- a for; what stands behind a turn is a letter -/
theorem forT_X {c : Cx} {target : Expr} {body : Sem Flow} {Q : Fl → List (Str × D) → List MO → Prop} {α : Type} (f : α → D) (W : List α → List (Str × D) → List MO → Prop)
    (turn : ∀ x l σ μ, W (x :: l) σ μ → ∀ X : Fl → List (Str × D) → List MO → Prop, (∀ σ₂ μ₂, W l σ₂ μ₂ → X .next σ₂ μ₂) → (∀ d σ₂ μ₂, Q (.ret d) σ₂ μ₂ → X (.ret d) σ₂ μ₂) → AsgT c σ target (f x) (fun σ₁ => TrT c σ₁ μ body X))
    (fin : ∀ σ μ, W [] σ μ → Q .next σ μ) : ∀ (l : List α) (σ : List (Str × D)) (μ : List MO), W l σ μ → ForT c target body Q (l.map f) σ μ
  | [], σ, μ, h => fin σ μ h
  | x :: l, σ, μ, h => turn x l σ μ h (loopK (ForT c target body Q (l.map f)) Q) (fun σ₂ μ₂ h₂ => forT_X f W turn fin l σ₂ μ₂ h₂) (fun d σ₂ μ₂ q => q)
end -- QFor

section -- QDraw
theorem len_app (a b : Str) : (a ++ b).length = a.length + b.length := by show (Str.mk (a.cps ++ b.cps)).cps.size = _; simp [Str.length]
noncomputable def signTbl : Str := Str.ofString "*?[]!-^\\&~|.$() "
noncomputable def signOf (left : Nat) : Nat :=
  if left % 2 = 1 then signTbl.cps.getD (left / 2 % 16) 0
  else if left / 2 % 1112064 < 55296 then left / 2 % 1112064 else left / 2 % 1112064 + 2048

theorem sign_walk {c : Cx} {mg mb : Str → Option Value} (K : c.Ok mg mb) (hsc : c.env.scope = (defAt 18).scope) (left : Nat) :
    TrT c [(Str.ofString "left", .int left)] [] (execs (defAt 18).body c.env) (fun fl _ _ => fl = .ret (.str (S [signOf left]))) := by
  conv at hsc => rhs; whnf
  refine tr_cons ?_
  repeat (ks_step "op")
  refine op_mod (by decide) ?_
  first | refine qi (show (left : Int).fmod 2 = ((left % 2 : Nat) : Int) from fmod_nat left 2) ?_ | refine qs (show (left : Int).fmod 2 = ((left % 2 : Nat) : Int) from fmod_nat left 2) ?_ | refine qt (show (left : Int).fmod 2 = ((left % 2 : Nat) : Int) from fmod_nat left 2) ?_ | refine qb (show (left : Int).fmod 2 = ((left % 2 : Nat) : Int) from fmod_nat left 2) ?_ | refine qm (show (left : Int).fmod 2 = ((left % 2 : Nat) : Int) from fmod_nat left 2) ?_ | refine q1 (show (left : Int).fmod 2 = ((left % 2 : Nat) : Int) from fmod_nat left 2) ?_ | rw [show (left : Int).fmod 2 = ((left % 2 : Nat) : Int) from fmod_nat left 2]
  repeat (ks_step "op")
  by_cases h : left % 2 = 1
  · rw [h]; refine ite_t (by decide) ?_
    repeat (ks_step "op")
    refine op_fdiv (by decide) (by decide) ?_
    first | refine qi (show (left : Int).fdiv 2 = ((left / 2 : Nat) : Int) from fdiv_nat left 2) ?_ | refine qs (show (left : Int).fdiv 2 = ((left / 2 : Nat) : Int) from fdiv_nat left 2) ?_ | refine qt (show (left : Int).fdiv 2 = ((left / 2 : Nat) : Int) from fdiv_nat left 2) ?_ | refine qb (show (left : Int).fdiv 2 = ((left / 2 : Nat) : Int) from fdiv_nat left 2) ?_ | refine qm (show (left : Int).fdiv 2 = ((left / 2 : Nat) : Int) from fdiv_nat left 2) ?_ | refine q1 (show (left : Int).fdiv 2 = ((left / 2 : Nat) : Int) from fdiv_nat left 2) ?_ | rw [show (left : Int).fdiv 2 = ((left / 2 : Nat) : Int) from fdiv_nat left 2]
    repeat (ks_step "op")
    refine op_mod (by decide) ?_
    first | refine qi (show ((left / 2 : Nat) : Int).fmod 16 = ((left / 2 % 16 : Nat) : Int) from fmod_nat (left / 2) 16) ?_ | refine qs (show ((left / 2 : Nat) : Int).fmod 16 = ((left / 2 % 16 : Nat) : Int) from fmod_nat (left / 2) 16) ?_ | refine qt (show ((left / 2 : Nat) : Int).fmod 16 = ((left / 2 % 16 : Nat) : Int) from fmod_nat (left / 2) 16) ?_ | refine qb (show ((left / 2 : Nat) : Int).fmod 16 = ((left / 2 % 16 : Nat) : Int) from fmod_nat (left / 2) 16) ?_ | refine qm (show ((left / 2 : Nat) : Int).fmod 16 = ((left / 2 % 16 : Nat) : Int) from fmod_nat (left / 2) 16) ?_ | refine q1 (show ((left / 2 : Nat) : Int).fmod 16 = ((left / 2 % 16 : Nat) : Int) from fmod_nat (left / 2) 16) ?_ | rw [show ((left / 2 : Nat) : Int).fmod 16 = ((left / 2 % 16 : Nat) : Int) from fmod_nat (left / 2) 16]
    have hl : (Str.ofString "*?[]!-^\\&~|.$() ").length = 16 := by kernel_rfl
    have hlt : left / 2 % 16 < 16 := Nat.mod_lt _ (by decide)
    refine sub_str (ch := signOf left) (by rw [hl]; omega) (by rw [hl]; decide) ?_ ?_
    · rw [hl]
      have e : place ((left / 2 % 16 : Nat) : Int) 16 = left / 2 % 16 := by unfold place; rw [if_neg (by omega)]; omega
      first | refine qi (e) ?_ | refine qs (e) ?_ | refine qt (e) ?_ | refine qb (e) ?_ | refine qm (e) ?_ | refine q1 (e) ?_ | rw [e]
      unfold signOf; rw [if_pos h]
      have : left / 2 % 16 < signTbl.cps.size := by have : signTbl.cps.size = 16 := hl; omega
      show signTbl.cps[_]? = _
      rw [Array.getElem?_eq_getElem this, Array.getD_eq_getD_getElem?, Array.getElem?_eq_getElem this]; rfl
    repeat (ks_step "op")
    rfl
  · refine ite_n (by simp; omega) ?_
    refine tr_nil ?_
    repeat (ks_step "op")
    refine op_fdiv (by decide) (by decide) ?_
    first | refine qi (show (left : Int).fdiv 2 = ((left / 2 : Nat) : Int) from fdiv_nat left 2) ?_ | refine qs (show (left : Int).fdiv 2 = ((left / 2 : Nat) : Int) from fdiv_nat left 2) ?_ | refine qt (show (left : Int).fdiv 2 = ((left / 2 : Nat) : Int) from fdiv_nat left 2) ?_ | refine qb (show (left : Int).fdiv 2 = ((left / 2 : Nat) : Int) from fdiv_nat left 2) ?_ | refine qm (show (left : Int).fdiv 2 = ((left / 2 : Nat) : Int) from fdiv_nat left 2) ?_ | refine q1 (show (left : Int).fdiv 2 = ((left / 2 : Nat) : Int) from fdiv_nat left 2) ?_ | rw [show (left : Int).fdiv 2 = ((left / 2 : Nat) : Int) from fdiv_nat left 2]
    repeat (ks_step "op")
    refine op_mod (by decide) ?_
    first | refine qi (show ((left / 2 : Nat) : Int).fmod 1112064 = ((left / 2 % 1112064 : Nat) : Int) from fmod_nat (left / 2) 1112064) ?_ | refine qs (show ((left / 2 : Nat) : Int).fmod 1112064 = ((left / 2 % 1112064 : Nat) : Int) from fmod_nat (left / 2) 1112064) ?_ | refine qt (show ((left / 2 : Nat) : Int).fmod 1112064 = ((left / 2 % 1112064 : Nat) : Int) from fmod_nat (left / 2) 1112064) ?_ | refine qb (show ((left / 2 : Nat) : Int).fmod 1112064 = ((left / 2 % 1112064 : Nat) : Int) from fmod_nat (left / 2) 1112064) ?_ | refine qm (show ((left / 2 : Nat) : Int).fmod 1112064 = ((left / 2 % 1112064 : Nat) : Int) from fmod_nat (left / 2) 1112064) ?_ | refine q1 (show ((left / 2 : Nat) : Int).fmod 1112064 = ((left / 2 % 1112064 : Nat) : Int) from fmod_nat (left / 2) 1112064) ?_ | rw [show ((left / 2 : Nat) : Int).fmod 1112064 = ((left / 2 % 1112064 : Nat) : Int) from fmod_nat (left / 2) 1112064]
    have hlt : left / 2 % 1112064 < 1112064 := Nat.mod_lt _ (by decide)
    have hs : signOf left = if left / 2 % 1112064 < 55296 then left / 2 % 1112064 else left / 2 % 1112064 + 2048 := by unfold signOf; rw [if_neg h]
    first | refine qi (hs) ?_ | refine qs (hs) ?_ | refine qt (hs) ?_ | refine qb (hs) ?_ | refine qm (hs) ?_ | refine q1 (hs) ?_ | rw [hs]
    clear hs
    generalize left / 2 % 1112064 = m at *
    iterate 9 (ks_step "op")
    with_reducible refine ev_int ?_
    with_reducible refine op_lt ?_
    with_reducible refine ⟨_, rfl, ?_⟩
    generalize hb : decide ((m : Int) < 55296) = b
    cases b with
    | true =>
      have h2 : m < 55296 := by have := of_decide_eq_true hb; omega
      refine ite_t rfl ?_
      repeat (ks_step "op")
      refine op_chr (by omega) (by omega) ?_
      repeat (ks_step "op")
      rw [if_pos h2]; rfl
    | false =>
      have h2 : ¬ m < 55296 := by have := of_decide_eq_false hb; omega
      refine ite_f rfl ?_
      repeat (ks_step "op")
      refine op_chr (by omega) (by omega) ?_
      repeat (ks_step "op")
      rw [if_neg h2]; rfl

theorem sign_con {prog : Program} {w : World} {mg mb : Str → Option Value} (left : Nat) : Con prog w mg mb 1 (defAt 18) [.int left] (fun e => e = .str (S [signOf left])) :=
  con_intro (xs := [Str.ofString "left"]) (by intro pm code doc vs h; obtain ⟨v1, rfl⟩ := len1 h; kernel_rfl) rfl (by decide +kernel) (by decide +kernel) (by decide +kernel) (by decide +kernel) (by kernel_rfl) (by kernel_rfl) (by kernel_rfl)
    fun c h1 h2 h3 h4 _ K => (sign_walk K h3 left).mono fun fl σ' μ' h => ⟨_, _, .inl h, .pure rfl, rfl⟩

structure Item where
  txt : Str
  barred : Option Bool
  signs : Str
deriving DecidableEq
noncomputable def dBar : Option Bool → D
  | none => .none
  | some b => .bool b
noncomputable abbrev dItem (it : Item) : D := .tup [.str it.txt, dBar it.barred, .str it.signs]
noncomputable def dIt : Option Item → D
  | none => .none
  | some it => dItem it
noncomputable def written (sign : Str) : Str := if (!(Builtin.Str.occurrences (Str.ofString "*?[") sign 0 (Str.ofString "*?[").length 1).isEmpty) = true then Str.ofString "[" ++ sign ++ Str.ofString "]" else sign
noncomputable def starI : Item := ⟨Str.ofString "*", none, Str.ofString ""⟩
noncomputable def tabl (sign : Str) : List (Option Item × Str) :=
  [(some starI, Str.ofString ""), (some starI, Str.ofString "a"), (some starI, Str.ofString "b"), (some starI, Str.ofString "ab"),
   (some ⟨Str.ofString "a", some false, Str.ofString "a"⟩, Str.ofString "a"), (some ⟨Str.ofString "b", some false, Str.ofString "b"⟩, Str.ofString "b"),
   (some ⟨Str.ofString "?", some true, Str.ofString ""⟩, Str.ofString "b"), (some ⟨Str.ofString "[ab]", some false, Str.ofString "ab"⟩, Str.ofString "a"),
   (some ⟨Str.ofString "[!a]", some true, Str.ofString "a"⟩, Str.ofString "b"), (some ⟨Str.ofString "[!a]", some true, Str.ofString "a"⟩, sign),
   (some ⟨written sign, some false, sign⟩, sign), (some ⟨written sign, some false, sign⟩, Str.ofString "a"), (none, Str.ofString "a"),
   (some ⟨Str.ofString "?", some true, Str.ofString ""⟩, sign), (some ⟨Str.ofString "[b-a]", some false, Str.ofString ""⟩, Str.ofString "b"),
   (some ⟨Str.ofString "[!b-a]", some true, Str.ofString ""⟩, Str.ofString "a")]
noncomputable def drawn (number : Nat) : Option Item × Str := (tabl (S [signOf (number / 16)])).getD (number % 16) (none, Str.ofString "")
noncomputable def dDrawn (p : Option Item × Str) : D := .tup [dIt p.1, .str p.2]

theorem pure_bar (b : Option Bool) : D.pure (dBar b) = true := by cases b <;> rfl
theorem pure_item (it : Item) : D.pure (dItem it) = true := by simp only [D.pure, Ds.pure, pure_bar, Bool.and_self]
theorem pure_drawn (p : Option Item × Str) : D.pure (dDrawn p) = true := by
  unfold dDrawn
  cases p.1 <;> simp only [D.pure, Ds.pure, dIt, pure_bar, Bool.and_self]

theorem drawn_walk {c : Cx} {mg mb : Str → Option Value} (K : c.Ok mg mb) (hcn : c.n = 1) (hsc : c.env.scope = (defAt 19).scope) (number : Nat) :
    TrT c [(Str.ofString "number", .int number)] [] (execs (defAt 19).body c.env) (fun fl _ _ => fl = .ret (dDrawn (drawn number))) := by
  conv at hsc => rhs; whnf
  refine tr_cons ?_
  repeat (ks_step "op")
  refine ev_fcall nm18 rec18 K (n := 1) (by omega) (by ks_step "kind") rfl ?_
  repeat (ks_step "op")
  refine op_fdiv (by decide) (by decide) ?_
  first | refine qi (show (number : Int).fdiv 16 = ((number / 16 : Nat) : Int) from fdiv_nat number 16) ?_ | refine qs (show (number : Int).fdiv 16 = ((number / 16 : Nat) : Int) from fdiv_nat number 16) ?_ | refine qt (show (number : Int).fdiv 16 = ((number / 16 : Nat) : Int) from fdiv_nat number 16) ?_ | refine qb (show (number : Int).fdiv 16 = ((number / 16 : Nat) : Int) from fdiv_nat number 16) ?_ | refine qm (show (number : Int).fdiv 16 = ((number / 16 : Nat) : Int) from fdiv_nat number 16) ?_ | refine q1 (show (number : Int).fdiv 16 = ((number / 16 : Nat) : Int) from fdiv_nat number 16) ?_ | rw [show (number : Int).fdiv 16 = ((number / 16 : Nat) : Int) from fdiv_nat number 16]
  repeat (ks_step "op")
  refine ⟨rfl, (sign_con (number / 16)).mono fun e he => ?_⟩
  subst he
  refine ⟨rfl, ?_⟩
  iterate 4 (ks_step "op")
  refine EvT.mono (Q := fun d μ => d = .str (written (S [signOf (number / 16)])) ∧ μ = []) ?_ ?_
  · repeat (ks_step "op")
    by_cases h : (!(Builtin.Str.occurrences (Str.ofString "*?[") (S [signOf (number / 16)]) 0 (Str.ofString "*?[").length 1).isEmpty) = true
    · refine ite_t h ?_
      repeat (ks_step "op")
      refine op_adds (by rw [sizeLine_eq, S_length, show (Str.ofString "[").length = 1 by kernel_rfl, List.length_singleton]; decide) ?_
      repeat (ks_step "op")
      refine op_adds (by rw [sizeLine_eq, len_app, S_length, show (Str.ofString "[").length = 1 by kernel_rfl, show (Str.ofString "]").length = 1 by kernel_rfl, List.length_singleton]; decide) ?_
      refine ⟨?_, rfl⟩
      unfold written; rw [if_pos h]
    · refine ite_n h ?_
      repeat (ks_step "op")
      refine ⟨?_, rfl⟩
      unfold written; rw [if_neg h]
  rintro _ _ ⟨rfl, rfl⟩
  generalize hsg : S [signOf (number / 16)] = sign
  have hd : drawn number = (tabl sign).getD (number % 16) (none, Str.ofString "") := by rw [← hsg]; rfl
  repeat (ks_step "op")
  refine ev_list ?_
  repeat (ks_step "op")
  refine op_mod (by decide) ?_
  first | refine qi (show (number : Int).fmod 16 = ((number % 16 : Nat) : Int) from fmod_nat number 16) ?_ | refine qs (show (number : Int).fmod 16 = ((number % 16 : Nat) : Int) from fmod_nat number 16) ?_ | refine qt (show (number : Int).fmod 16 = ((number % 16 : Nat) : Int) from fmod_nat number 16) ?_ | refine qb (show (number : Int).fmod 16 = ((number % 16 : Nat) : Int) from fmod_nat number 16) ?_ | refine qm (show (number : Int).fmod 16 = ((number % 16 : Nat) : Int) from fmod_nat number 16) ?_ | refine q1 (show (number : Int).fmod 16 = ((number % 16 : Nat) : Int) from fmod_nat number 16) ?_ | rw [show (number : Int).fmod 16 = ((number % 16 : Nat) : Int) from fmod_nat number 16]
  refine sub_lst (ds := (tabl sign).map dDrawn) (d := dDrawn (drawn number)) ?_ ?_ ?_ ?_
  · rw [List.length_map, show (tabl sign).length = 16 from rfl]; have := Nat.mod_lt number (show 0 < 16 by decide); omega
  · rw [List.length_map, show (tabl sign).length = 16 from rfl]; decide
  · have hlt := Nat.mod_lt number (show 0 < 16 by decide)
    have e : place ((number % 16 : Nat) : Int) (List.map dDrawn (tabl sign)).length = number % 16 := by unfold place; rw [if_neg (by omega)]; omega
    rw [e, List.getElem?_map, hd, List.getD_eq_getElem?_getD, List.getElem?_eq_getElem (show number % 16 < (tabl sign).length from hlt)]; rfl
  · repeat (ks_step "op")
    rfl

theorem drawn_con {prog : Program} {w : World} {mg mb : Str → Option Value} (number : Nat) : Con prog w mg mb 2 (defAt 19) [.int number] (fun e => e = dDrawn (drawn number)) :=
  con_intro (xs := [Str.ofString "number"]) (by intro pm code doc vs h; obtain ⟨v1, rfl⟩ := len1 h; kernel_rfl) rfl (by decide +kernel) (by decide +kernel) (by decide +kernel) (by decide +kernel) (by kernel_rfl) (by kernel_rfl) (by kernel_rfl)
    fun c h1 h2 h3 h4 _ K => (drawn_walk K h4 h3 number).mono fun fl σ' μ' h => ⟨_, _, .inl h, .pure (pure_drawn _), rfl⟩

theorem tabl_len {sign : Str} (h : sign.length ≤ 1) : ∀ p ∈ tabl sign, p.2.length ≤ 2 := by
  intro p hp
  simp only [tabl, List.mem_cons, List.not_mem_nil, or_false] at hp
  have h0 : (Str.ofString "").length ≤ 2 := by decide +kernel
  have h1 : (Str.ofString "a").length ≤ 2 := by decide +kernel
  have h2 : (Str.ofString "b").length ≤ 2 := by decide +kernel
  have h3 : (Str.ofString "ab").length ≤ 2 := by decide +kernel
  rcases hp with rfl | rfl | rfl | rfl | rfl | rfl | rfl | rfl | rfl | rfl | rfl | rfl | rfl | rfl | rfl | rfl <;> first | assumption | (show sign.length ≤ 2; omega)
theorem drawn_mem (n : Nat) : drawn n ∈ tabl (S [signOf (n / 16)]) := by
  unfold drawn
  have hlt := Nat.mod_lt n (show 0 < 16 by decide)
  rw [List.getD_eq_getElem?_getD, List.getElem?_eq_getElem (show n % 16 < (tabl _).length from hlt)]
  exact List.getElem_mem _
theorem drawn_len (n : Nat) : (drawn n).2.length ≤ 2 := tabl_len (by simp) _ (drawn_mem n)

noncomputable def addItem (items : List Item) : Option Item → List Item
  | none => items
  | some it => if it.barred.isSome || (items.isEmpty || (items.getLast?.getD starI).barred.isSome) then items ++ [it] else items
noncomputable def builtGo : List Nat → List Item → Str → List Item × Str
  | [], items, name => (items, name)
  | n :: r, items, name => builtGo r (addItem items (drawn n).1) (name ++ (drawn n).2)
noncomputable def built (numbers : List Nat) : List Item × Str := ((builtGo numbers [] (Str.ofString "")).1, cutS (builtGo numbers [] (Str.ofString "")).2 none (some 6))

noncomputable abbrev dItems (items : List Item) : D := .lst (items.map dItem)
noncomputable abbrev dNums (ns : List Nat) : D := .lst (ns.map fun n : Nat => D.int (n : Int))
theorem isNone_bar (b : Option Bool) : (dBar b).isNone = some (!b.isSome) := by cases b <;> rfl
end -- QDraw

section -- QMeans
/-- a stretch: its places, and the star behind them -/
noncomputable def stretch {α : Type} (things : List α) (items : List Item) (i j : Nat) : List α :=
  if (items[j]?.elim false fun it => it.barred.isNone) = true then (things.drop i).take (j + 1 - i) else (things.drop i).take (j - i)

theorem stretch_walk {c : Cx} {mg mb : Str → Option Value} (K : c.Ok mg mb) (hsc : c.env.scope = (defAt 21).scope) (things : List D) (items : List Item) (i j : Nat) (hi : i ≤ j) (hj : j ≤ items.length) (hl : items.length ≤ 10) (ht : things.length = items.length) :
    TrT c [(Str.ofString "things", .lst things), (Str.ofString "items", dItems items), (Str.ofString "i", .int i), (Str.ofString "j", .int j)] [] (execs (defAt 21).body c.env) (fun fl _ _ => fl = .ret (.lst (stretch things items i j))) := by
  conv at hsc => rhs; whnf
  have hlo : loC things.length (some (i : Int)) = i := by show clipAt _ _ = _; rw [clipAt_nat]; omega
  have hcut : ∀ k : Nat, i ≤ k → k ≤ items.length → ((things.drop (loC things.length (some (i : Int)))).take (hiC things.length (some (k : Int)) - loC things.length (some (i : Int)))) = (things.drop i).take (k - i) := fun k h1 h2 => by
    rw [hlo, show hiC things.length (some (k : Int)) = k by show clipAt _ _ = _; rw [clipAt_nat]; omega]
  refine tr_cons ?_
  refine tr_if ?_
  refine TsT.mono (Q := fun b μ' => b = (items[j]?.elim false fun it => it.barred.isNone) ∧ μ' = []) ?ts ?rest
  case ts =>
    repeat (ks_step "op")
    refine op_len_lst (by simp; omega) ?_
    simp only [List.length_map]
    repeat (ks_step "op")
    by_cases h : j < items.length
    · refine ite_t (decide_eq_true (by omega)) ?_
      repeat (ks_step "op")
      refine sub_lst (d := dItem items[j]) (by simp; omega) (by simp; omega) (by
        have e : place (j : Int) (items.map dItem).length = j := by unfold place; rw [if_neg (by omega)]; omega
        rw [e, List.getElem?_map, List.getElem?_eq_getElem h]; rfl) ?_
      repeat (ks_step "op")
      refine op_isnone (isNone_of (isNone_bar _)) ?_
      repeat (ks_step "op")
      first | refine qi (List.getElem?_eq_getElem h) ?_ | refine qs (List.getElem?_eq_getElem h) ?_ | refine qt (List.getElem?_eq_getElem h) ?_ | refine qb (List.getElem?_eq_getElem h) ?_ | refine qm (List.getElem?_eq_getElem h) ?_ | refine q1 (List.getElem?_eq_getElem h) ?_ | rw [List.getElem?_eq_getElem h]
      cases hb : items[j].barred with
      | none =>
        refine ite_t (by rfl) ?_
        repeat (ks_step "op")
        exact ⟨by simp [hb], rfl⟩
      | some b =>
        refine ite_n (by simp) ?_
        exact ⟨by simp [hb], rfl⟩
    · refine ite_n (by rw [decide_eq_true_eq]; omega) ?_
      exact ⟨by rw [List.getElem?_eq_none (by omega)]; rfl, rfl⟩
  rintro b μ' ⟨hb, rfl⟩
  cases b with
  | true =>
    refine ite_t rfl ?_
    repeat (ks_step "op")
    refine sl_lst (by omega) ?_
    repeat (ks_step "op")
    have hj' : j < items.length := by
      rcases Nat.lt_or_ge j items.length with h | h
      · exact h
      · rw [List.getElem?_eq_none h] at hb; cases hb
    have := hcut (j + 1) (by omega) (by omega)
    rw [show (((j + 1 : Nat) : Int)) = (j : Int) + 1 by push_cast; rfl] at this
    first | refine qi (this) ?_ | refine qs (this) ?_ | refine qt (this) ?_ | refine qb (this) ?_ | refine qm (this) ?_ | refine q1 (this) ?_ | rw [this]
    unfold stretch; rw [if_pos hb.symm]
  | false =>
    refine ite_f rfl ?_
    refine tr_nil ?_
    repeat (ks_step "op")
    refine sl_lst (by omega) ?_
    repeat (ks_step "op")
    first | refine qi (hcut j (by omega) (by omega)) ?_ | refine qs (hcut j (by omega) (by omega)) ?_ | refine qt (hcut j (by omega) (by omega)) ?_ | refine qb (hcut j (by omega) (by omega)) ?_ | refine qm (hcut j (by omega) (by omega)) ?_ | refine q1 (hcut j (by omega) (by omega)) ?_ | rw [hcut j (by omega) (by omega)]
    unfold stretch; rw [if_neg (by rw [← hb]; decide)]

theorem ds_sub : ∀ {l l' : List D}, (∀ d ∈ l', d ∈ l) → Ds.pure l = true → Ds.pure l' = true := by
  intro l l' h hp
  have hall : ∀ l : List D, Ds.pure l = true → ∀ d ∈ l, D.pure d = true := by
    intro l
    induction l with
    | nil => intro _ d h; cases h
    | cons a r ih =>
      intro hp d hd
      simp only [Ds.pure, Bool.and_eq_true] at hp
      rcases List.mem_cons.mp hd with rfl | hd
      · exact hp.1
      · exact ih hp.2 d hd
  have hmk : ∀ l : List D, (∀ d ∈ l, D.pure d = true) → Ds.pure l = true := by
    intro l
    induction l with
    | nil => intro _; rfl
    | cons a r ih => intro h; simp only [Ds.pure, h a (List.mem_cons_self ..), ih fun d hd => h d (List.mem_cons_of_mem _ hd), Bool.and_self]
  exact hmk l' fun d hd => hall l hp d (h d hd)
theorem stretch_mem {α : Type} {things : List α} {items : List Item} {i j : Nat} : ∀ d ∈ stretch things items i j, d ∈ things := by
  intro d hd
  unfold stretch at hd
  split at hd <;> exact List.mem_of_mem_drop (List.mem_of_mem_take hd)
theorem stretch_map {α β : Type} (f : α → β) (things : List α) (items : List Item) (i j : Nat) : stretch (things.map f) items i j = (stretch things items i j).map f := by
  unfold stretch; split <;> simp [List.map_drop, List.map_take]

theorem stretch_con {prog : Program} {w : World} {mg mb : Str → Option Value} (things : List D) (items : List Item) (i j : Nat) (hi : i ≤ j) (hj : j ≤ items.length) (hl : items.length ≤ 10) (ht : things.length = items.length) (hp : Ds.pure things = true) :
    Con prog w mg mb 1 (defAt 21) [.lst things, dItems items, .int i, .int j] (fun e => e = .lst (stretch things items i j)) :=
  con_intro (xs := [Str.ofString "things", Str.ofString "items", Str.ofString "i", Str.ofString "j"]) (by intro pm code doc vs h; obtain ⟨v1, v2, v3, v4, rfl⟩ := len4 h; kernel_rfl) rfl (by decide +kernel) (by decide +kernel) (by decide +kernel) (by decide +kernel) (by kernel_rfl) (by kernel_rfl) (by kernel_rfl)
    fun c h1 h2 h3 h4 _ K => (stretch_walk K h3 things items i j hi hj hl ht).mono fun fl σ' μ' h => ⟨_, _, .inl h, .pure (by simp only [D.pure]; exact ds_sub stretch_mem hp), rfl⟩
end -- QMeans

section -- QMeans2
noncomputable def inStr (x y : Str) : Bool := !(Builtin.Str.occurrences x y 0 x.length 1).isEmpty
noncomputable def means (st : List Item) (sign : Str) : Bool :=
  if (sign == Str.ofString "") = true then (st.filter fun it => it.barred.isSome).isEmpty
  else match st.filter fun it => it.barred.isSome with
    | [] => decide (0 < st.length)
    | [m] => inStr m.signs sign != m.barred.getD false
    | _ => false

theorem means_walk {c : Cx} {mg mb : Str → Option Value} (K : c.Ok mg mb) (hsc : c.env.scope = (defAt 22).scope) (st : List Item) (sign : Str) (hl : st.length ≤ 10) :
    TrT c [(Str.ofString "stretch", dItems st), (Str.ofString "sign", .str sign)] [] (execs (defAt 22).body c.env) (fun fl _ _ => fl = .ret (.bool (means st sign))) := by
  conv at hsc => rhs; whnf
  refine tr_cons ?_
  refine tr_comp K hsc (by ks_step "kind") [] subc_nil [] rfl (by decide +kernel) (by decide +kernel) (by kernel_rfl) (by decide +kernel) (by kernel_rfl) (by decide +kernel) ?_ (by kernel_rfl!)
  refine it_lst K ?_
  repeat (ks_step "op")
  refine ⟨pure_bools _ pure_item _, Item, st, dItem, fun it => if it.barred.isSome = true then some (dItem it) else none, rfl, by omega, ?_, ?_, ?_⟩
  · intro a _ e h
    dsimp only at h
    split at h <;> cases h
    exact pure_item _
  · intro c' h1 h2 h3 h4 K' a _ acc
    conv at h3 => rhs; whnf
    refine ⟨_, Upd.nil, by ks_step "sub", ?_⟩
    show TsT _ _ _ _ _
    repeat (ks_step "op")
    refine op_isnotnone (isNone_of (isNone_bar _)) ?_
    refine ⟨_, rfl, rfl, ?_⟩
    cases hb : a.barred with
    | none => simp [hb]
    | some b =>
      simp only [Option.isSome_some, Bool.not_not, if_true]
      repeat (ks_step "op")
      simp [hb]
  have hfm : st.filterMap (fun it : Item => if it.barred.isSome = true then some (dItem it) else none) = (st.filter fun it => it.barred.isSome).map dItem := by
    induction st with
    | nil => rfl
    | cons a r ih =>
      have := ih (by simp at hl; omega)
      cases hb : a.barred with
      | none => simp [hb, List.filter_cons, this]
      | some b => simp [hb, List.filter_cons, this]
  first | refine qi (hfm) ?_ | refine qs (hfm) ?_ | refine qt (hfm) ?_ | refine qb (hfm) ?_ | refine qm (hfm) ?_ | refine q1 (hfm) ?_ | rw [hfm]
  have hml : (st.filter fun it => it.barred.isSome).length ≤ 10 := by have := List.length_filter_le (fun it : Item => it.barred.isSome) st; omega
  have hmem : ∀ m ∈ st.filter (fun it => it.barred.isSome), m.barred.isSome = true := fun m hm => (List.mem_filter.mp hm).2
  unfold means
  generalize (st.filter fun it => it.barred.isSome) = marks at *
  refine ⟨_, by ks_step "upd", ?_⟩
  repeat (ks_step "op")
  cases hs : (sign == Str.ofString "") with
  | true =>
    refine ite_t rfl ?_
    repeat (ks_step "op")
    refine tru_lst (by simp; omega) ?_
    repeat (ks_step "op")
    cases marks <;> rfl
  | false =>
    simp only [Bool.false_eq_true, if_false]
    refine ite_f rfl ?_
    refine tr_nil ?_
    repeat (ks_step "op")
    refine tru_lst (by simp; omega) ?_
    cases marks with
    | nil =>
      simp only [List.map_nil, List.isEmpty_nil, Bool.not_true, Bool.not_false]
      refine ite_t rfl ?_
      repeat (ks_step "op")
      refine op_len_lst (by simp; omega) ?_
      repeat (ks_step "op")
      congr 2
      exact decide_eq_decide.mpr (by rw [List.length_map]; omega)
    | cons m ms =>
      refine ite_n (by simp) ?_
      refine tr_nil ?_
      repeat (ks_step "op")
      refine op_len_lst (by simp at hml ⊢; omega) ?_
      repeat (ks_step "op")
      cases ms with
      | cons m2 ms =>
        have e : ((((m :: m2 :: ms).map dItem).length : Int) == 1) = false := by rw [beq_eq_false_iff_ne]; simp only [List.length_map, List.length_cons]; omega
        refine ite_f (e) ?_
        repeat (ks_step "op")
        rfl
      | nil =>
        refine ite_t (by simp) ?_
        repeat (ks_step "op")
        refine sub_lst (d := dItem m) (by simp) (by simp) rfl ?_
        repeat (ks_step "op")
        refine sub_lst (d := dItem m) (by simp) (by simp) rfl ?_
        repeat (ks_step "op")
        obtain ⟨b, hb⟩ := Option.isSome_iff_exists.mp (hmem m (List.mem_cons_self ..))
        first | refine qi (hb) ?_ | refine qs (hb) ?_ | refine qt (hb) ?_ | refine qb (hb) ?_ | refine qm (hb) ?_ | refine q1 (hb) ?_ | rw [hb]
        simp only [dBar]
        repeat (ks_step "op")
        simp only [hb, inStr, Option.getD_some]

theorem means_con {prog : Program} {w : World} {mg mb : Str → Option Value} (st : List Item) (sign : Str) (hl : st.length ≤ 10) :
    Con prog w mg mb 1 (defAt 22) [dItems st, .str sign] (fun e => e = .bool (means st sign)) :=
  con_intro (xs := [Str.ofString "stretch", Str.ofString "sign"]) (by intro pm code doc vs h; obtain ⟨v1, v2, rfl⟩ := len2 h; kernel_rfl) rfl (by decide +kernel) (by decide +kernel) (by decide +kernel) (by decide +kernel) (by kernel_rfl) (by kernel_rfl) (by kernel_rfl)
    fun c h1 h2 h3 h4 _ K => (means_walk K h3 st sign hl).mono fun fl σ' μ' h => ⟨_, _, .inl h, .pure rfl, rfl⟩
end -- QMeans2

section -- QBuilt
theorem built_walk {c : Cx} {mg mb : Str → Option Value} (K : c.Ok mg mb) (hcn : c.n = 2) (hsc : c.env.scope = (defAt 20).scope) (numbers : List Nat) (hl : numbers.length ≤ 10) :
    TrT c [(Str.ofString "numbers", dNums numbers)] [] (execs (defAt 20).body c.env) (fun fl _ μ => fl = .ret (.tup [.ref 0, .str (built numbers).2]) ∧ μ = [.lst ((built numbers).1.map dItem)]) := by
  conv at hsc => rhs; whnf
  refine tr_cons ?_
  repeat (ks_step "op")
  refine ev_listM ?_
  repeat (ks_step "op")
  refine tr_for K ?_
  repeat (ks_step "op")
  refine ⟨pure_bools _ (fun _ => rfl) _, ?_⟩
  show ForT c _ _ _ (numbers.map fun n : Nat => D.int (n : Int)) [(Str.ofString "numbers", dNums numbers), (Str.ofString "items", .ref 0), (Str.ofString "name", .str (Str.ofString ""))] [MO.lst (([] : List Item).map dItem)]
  have hb : ([] : List Item).length + numbers.length ≤ 10 := by simpa using hl
  have hn : (Str.ofString "").length + 2 * numbers.length ≤ 20 := by rw [show (Str.ofString "").length = 0 by kernel_rfl]; omega
  generalize hN : built numbers = res
  have hgo : res = ((builtGo numbers [] (Str.ofString "")).1, cutS (builtGo numbers [] (Str.ofString "")).2 none (some 6)) := by rw [← hN]; rfl
  clear hN
  generalize dNums numbers = D0
  generalize Str.ofString "" = name at hn hgo ⊢
  generalize ([] : List Item) = items at hb hgo ⊢
  induction numbers generalizing items name with
  | nil =>
    simp only [List.map_nil]
    unfold ForT
    repeat (ks_step "op")
    refine sl_str (by omega) ?_
    repeat (ks_step "op")
    subst hgo
    exact ⟨rfl, rfl⟩
  | cons n numbers ih =>
    simp only [List.length_cons] at hb hn
    simp only [List.map_cons]
    unfold ForT
    refine asg_name K (by ks_step "kind") (by ks_step "upd") ?_
    refine tr_cons ?_
    refine tr_tupleN K hsc (xs := [Str.ofString "item", Str.ofString "signs"]) rfl (by ks_step "kinds") ?_ (by kernel_rfl!)
    refine ev_fcall nm19 rec19 K (n := 2) (by omega) (by ks_step "kind") rfl ?_
    repeat (ks_step "op")
    refine ⟨rfl, (drawn_con n).mono fun e he => ?_⟩
    subst he
    refine ⟨pure_drawn _, _, _, rfl, by ks_step "upds", ?_⟩
    repeat (ks_step "op")
    have hdl := drawn_len n
    refine op_iadds (by rw [sizeLine_eq]; omega) ?_
    simp only [builtGo] at hgo
    have hn' : (name ++ (drawn n).2).length + 2 * numbers.length ≤ 20 := by rw [len_app]; omega
    generalize (drawn n).2 = sg at *
    generalize (drawn n).1 = it at *
    generalize name ++ sg = name' at *
    cases it with
    | none =>
      repeat (ks_step "op")
      refine ite_f rfl ?_; refine ite_f rfl ?_
      refine tr_nil ?_
      repeat (ks_step "op")
      refine tr_nilT 3 ?_
      simp only [List.take_succ_cons, List.take_zero]
      refine loop_next ?_
      exact ih (by omega) name' hn' items (by omega) hgo
    | some it =>
      simp only [dIt]
      have happ : ∀ b, b = (it.barred.isSome || (items.isEmpty || (items.getLast?.getD starI).barred.isSome)) → b = true → addItem items (some it) = items ++ [it] := fun b e h => by simp only [addItem]; rw [if_pos (e ▸ h)]
      have hnot : (it.barred.isSome || (items.isEmpty || (items.getLast?.getD starI).barred.isSome)) = false → addItem items (some it) = items := fun h => by simp only [addItem]; rw [if_neg (by rw [h]; decide)]
      iterate 4 (ks_step "op")
      refine TsT.mono (Q := fun b μ' => b = (it.barred.isSome || (items.isEmpty || (items.getLast?.getD starI).barred.isSome)) ∧ μ' = [MO.lst (items.map dItem)]) ?ts ?rest
      case ts =>
        repeat (ks_step "op")
        refine ite_t (by decide) ?_
        repeat (ks_step "op")
        refine op_isnotnone (isNone_of (isNone_bar _)) ?_
        repeat (ks_step "op")
        cases hbr : it.barred with
        | some b =>
          refine ite_t (by rfl) ?_; refine ite_t rfl ?_
          repeat (ks_step "op")
          exact ⟨rfl, rfl⟩
        | none =>
          refine ite_f rfl ?_
          repeat (ks_step "op")
          refine tru_ref rfl (by simp; omega) ?_
          cases items with
          | nil =>
            refine ite_t (by rfl) ?_; refine ite_t rfl ?_
            repeat (ks_step "op")
            exact ⟨rfl, rfl⟩
          | cons i0 items =>
            refine ite_n (by simp) ?_
            repeat (ks_step "op")
            have hlast : (i0 :: items)[items.length]? = some ((i0 :: items).getLast?.getD starI) := by
              rw [List.getLast?_eq_getElem?]; simp
            refine sub_ref (d := dItem ((i0 :: items).getLast?.getD starI)) rfl (by simp only [List.length_map, List.length_cons]; omega) (by simp at hb ⊢; omega) (by
              have e : place (-1) ((i0 :: items).map dItem).length = items.length := by simp [place]; omega
              rw [e, List.getElem?_map, hlast]; rfl) ?_
            repeat (ks_step "op")
            refine op_isnotnone (isNone_of (isNone_bar _)) ?_
            repeat (ks_step "op")
            cases hbl : ((i0 :: items).getLast?.getD starI).barred with
            | some b =>
              refine ite_t (by rfl) ?_; refine ite_t rfl ?_
              repeat (ks_step "op")
              exact ⟨rfl, rfl⟩
            | none =>
              refine ite_f rfl ?_
              repeat (ks_step "op")
              refine ite_f rfl ?_
              exact ⟨rfl, rfl⟩
      rintro b μ' ⟨rfl, rfl⟩
      cases hX : (it.barred.isSome || (items.isEmpty || (items.getLast?.getD starI).barred.isSome)) with
      | true =>
        rw [happ _ rfl hX] at hgo
        refine ite_t rfl ?_
        repeat (ks_step "op")
        repeat (ks_step "op")
        refine ⟨by simp only [List.length_map]; omega, rfl, ?_⟩
        have hset : [MO.lst (items.map dItem)].set 0 (MO.lst (items.map dItem ++ [dItem it])) = [MO.lst ((items ++ [it]).map dItem)] := by simp
        first | refine qi (hset) ?_ | refine qs (hset) ?_ | refine qt (hset) ?_ | refine qb (hset) ?_ | refine qm (hset) ?_ | refine q1 (hset) ?_ | rw [hset]
        refine tr_nil ?_
        repeat (ks_step "op")
        refine tr_nilT 3 ?_
        simp only [List.take_succ_cons, List.take_zero]
        refine loop_next ?_
        exact ih (by omega) name' hn' (items ++ [it]) (by simp; omega) hgo
      | false =>
        rw [hnot hX] at hgo
        refine ite_f rfl ?_
        refine tr_nil ?_
        repeat (ks_step "op")
        refine tr_nilT 3 ?_
        simp only [List.take_succ_cons, List.take_zero]
        refine loop_next ?_
        exact ih (by omega) name' hn' items (by omega) hgo

theorem ress_pure (μ : List MO) {α : Type} (f : α → D) (hf : ∀ a, D.pure (f a) = true) : ∀ l : List α, Ress μ (l.map f) (l.map f)
  | [] => .nil
  | a :: r => .cons (.pure (hf a)) (ress_pure μ f hf r)
theorem built_con {prog : Program} {w : World} {mg mb : Str → Option Value} (numbers : List Nat) (hl : numbers.length ≤ 10) :
    Con prog w mg mb 3 (defAt 20) [dNums numbers] (fun e => e = .tup [dItems (built numbers).1, .str (built numbers).2]) :=
  con_intro (xs := [Str.ofString "numbers"]) (by intro pm code doc vs h; obtain ⟨v1, rfl⟩ := len1 h; kernel_rfl) rfl (by decide +kernel) (by decide +kernel) (by decide +kernel) (by decide +kernel) (by kernel_rfl) (by kernel_rfl) (by kernel_rfl)
    fun c h1 h2 h3 h4 _ K => (built_walk K h4 h3 numbers hl).mono fun fl σ' μ' ⟨h, hμ⟩ => ⟨_, _, .inl h, .tup (.cons (.ref (by rw [hμ]; rfl) (ress_pure _ _ pure_item _)) (.cons (.pure rfl) .nil)), rfl⟩
end -- QBuilt

section -- QTold
noncomputable def toldRow (items : List Item) (sign : Str) (i : Nat) : List Nat := ((List.range (items.length + 1 - i)).map (i + ·)).filter fun j => means (stretch items items i j) sign
noncomputable def told (items : List Item) (sign : Str) : List (List Nat) := (List.range (items.length + 1)).map (toldRow items sign)
noncomputable abbrev dRow (row : List Nat) : D := dNums row
noncomputable abbrev dRows (rows : List (List Nat)) : D := .lst (rows.map dRow)

theorem told_walk {c : Cx} {mg mb : Str → Option Value} (K : c.Ok mg mb) (hcn : c.n = 1) (hro : c.ro = false) (hsc : c.env.scope = (defAt 23).scope) (items : List Item) (sign : Str) (hl : items.length ≤ 10) :
    TrT c [(Str.ofString "items", dItems items), (Str.ofString "sign", .str sign)] [] (execs (defAt 23).body c.env) (fun fl _ μ => fl = .ret (.ref 0) ∧ μ = [.lst ((told items sign).map dRow)]) := by
  conv at hsc => rhs; whnf
  refine tr_cons ?_
  repeat (ks_step "op")
  refine ev_listM ?_
  repeat (ks_step "op")
  refine tr_forI K ?_
  refine it_range1 K (by ks_step "kind") rfl ?_
  repeat (ks_step "op")
  refine op_len_lst (by simp; omega) ?_
  repeat (ks_step "op")
  refine ⟨by simp; omega, ?_⟩
  rw [List.length_map]
  have hgo : ([] : List (List Nat)) ++ (List.range (items.length + 1)).map (toldRow items sign) = told items sign := rfl
  have hall : ∀ i ∈ List.range (items.length + 1), i ≤ items.length := fun i hi => by simp at hi; omega
  have hlen : ([] : List (List Nat)).length + (List.range (items.length + 1)).length ≤ 20 := by simp; omega
  change ForT c _ _ _ ((List.range (items.length + 1)).map fun i : Nat => D.int (i : Int)) [(Str.ofString "items", dItems items), (Str.ofString "sign", .str sign), (Str.ofString "rows", .ref 0)] [.lst (([] : List (List Nat)).map dRow)]
  generalize List.range (items.length + 1) = l at *
  generalize ([] : List (List Nat)) = done at *
  generalize told items sign = res at *
  induction l generalizing done with
  | nil =>
    simp only [List.map_nil]
    unfold ForT
    repeat (ks_step "op")
    refine ⟨rfl, ?_⟩
    rw [← hgo]; simp
  | cons i l ih =>
    simp only [List.map_cons]
    unfold ForT
    refine asg_name K (by ks_step "kind") (by ks_step "upd") ?_
    repeat (ks_step "op")
    have hi := hall i (List.mem_cons_self ..)
    refine ev_comp K hsc [(Str.ofString "i", .int i), (Str.ofString "items", dItems items), (Str.ofString "sign", .str sign)] ?hsub [Str.ofString "i", Str.ofString "items", Str.ofString "sign"] rfl (by decide +kernel) (by decide +kernel) (by kernel_rfl) (by decide +kernel) (by kernel_rfl) (by decide +kernel) ?_
    case hsub =>
      refine subc_cons (by ks_step "has") rfl (by ks_step "kindc") (by kernel_rfl!) ?_
      refine subc_cons (by ks_step "has") (pure_bools _ pure_item _) (by ks_step "kindc") (by kernel_rfl!) ?_
      refine subc_cons (by ks_step "has") rfl (by ks_step "kindc") (by kernel_rfl!) ?_
      exact subc_nil
    refine it_range2 K (by ks_step "kind") rfl rfl ?_
    repeat (ks_step "op")
    refine op_len_lst (by simp; omega) ?_
    repeat (ks_step "op")
    refine ⟨i, items.length + 1 - i, rfl, ?_, by omega, by omega, Nat, (List.range (items.length + 1 - i)).map (i + ·), fun j => .int j, fun j => if means (stretch items items i j) sign = true then some (.int j) else none, ?_, by simp; omega, ?_, ?_, ?_⟩
    · simp only [List.length_map]; congr 1; omega
    · rw [List.map_map]; rfl
    · intro j _ e h
      dsimp only at h
      split at h <;> cases h
      rfl
    · intro c' h1 h2 h3 h4 K' j hj acc
      conv at h3 => rhs; whnf
      refine ⟨_, by ks_step "upd", by ks_step "sub", ?_⟩
      show TsT _ _ _ _ _
      dsimp only
      have hcn' : c'.n = 1 := h4.trans hcn
      obtain ⟨k, hk, rfl⟩ := List.mem_map.mp hj
      rw [List.mem_range] at hk
      refine ts_value ?_ rfl
      refine ev_fcall nm22 rec22 K' (n := 1) (by omega) (by ks_step "kind") rfl ?_
      refine evs_c rfl ?_
      refine ev_fcall nm21 rec21 K' (n := 1) (by omega) (by ks_step "kind") rfl ?_
      repeat (ks_step "op")
      have hpi : Ds.pure (items.map dItem) = true := pure_bools _ pure_item _
      refine ⟨by simp only [Ds.pure, D.pure, hpi, Bool.and_self], (stretch_con (items.map dItem) items i (i + k) (by omega) (by omega) hl (by simp) hpi).mono fun e he => ?_⟩
      subst he
      first | refine qi (stretch_map) ?_ | refine qs (stretch_map) ?_ | refine qt (stretch_map) ?_ | refine qb (stretch_map) ?_ | refine qm (stretch_map) ?_ | refine q1 (stretch_map) ?_ | rw [stretch_map]
      refine ⟨pure_bools _ pure_item _, ?_⟩
      repeat (ks_step "op")
      have hsl : (stretch items items i (i + k)).length ≤ 10 := by
        have : (stretch items items i (i + k)).length ≤ items.length := by unfold stretch; split <;> simp <;> omega
        omega
      refine ⟨by simp only [Ds.pure, D.pure, pure_bools dItem pure_item, Bool.and_self], (means_con _ sign hsl).mono fun e he => ?_⟩
      subst he
      refine ⟨rfl, ?_⟩
      refine tru_bool ?_
      refine ⟨rfl, ?_⟩
      cases hm : means (stretch items items i (i + k)) sign with
      | true =>
        simp only [if_true]
        repeat (ks_step "op")
        exact ⟨rfl, rfl⟩
      | false => simp
    · refine ⟨_, rfl, by simp at hlen ⊢; omega, rfl, ?_⟩
      have hf : ((List.range (items.length + 1 - i)).map (i + ·)).filterMap (fun j => if means (stretch items items i j) sign = true then some (D.int (j : Int)) else none) = (toldRow items sign i).map fun j : Nat => D.int (j : Int) := by
        unfold toldRow
        generalize (List.range (items.length + 1 - i)).map (i + ·) = js
        induction js with
        | nil => rfl
        | cons j js ihj =>
          cases hm : means (stretch items items i j) sign with
          | true => simp [hm, ihj]
          | false => simp [hm, ihj]
      first | refine qi (hf) ?_ | refine qs (hf) ?_ | refine qt (hf) ?_ | refine qb (hf) ?_ | refine qm (hf) ?_ | refine q1 (hf) ?_ | rw [hf]
      have hset : [MO.lst (done.map dRow)].set 0 (MO.lst (done.map dRow ++ [.lst ((toldRow items sign i).map fun j : Nat => D.int (j : Int))])) = [MO.lst ((done ++ [toldRow items sign i]).map dRow)] := by simp
      first | refine qi (hset) ?_ | refine qs (hset) ?_ | refine qt (hset) ?_ | refine qb (hset) ?_ | refine qm (hset) ?_ | refine q1 (hset) ?_ | rw [hset]
      refine tr_nilT 3 ?_
      simp only [List.take_succ_cons, List.take_zero]
      refine loop_next ?_
      exact ih (fun j hj => hall j (List.mem_cons_of_mem _ hj)) (done ++ [toldRow items sign i]) (by simp at hlen ⊢; omega) (by rw [← hgo]; simp)

theorem pure_row (r : List Nat) : D.pure (dRow r) = true := by simp only [D.pure]; exact pure_bools _ (fun _ => rfl) _
theorem told_con {prog : Program} {w : World} {mg mb : Str → Option Value} (items : List Item) (sign : Str) (hl : items.length ≤ 10) :
    Con prog w mg mb 2 (defAt 23) [dItems items, .str sign] (fun e => e = dRows (told items sign)) :=
  con_intro (xs := [Str.ofString "items", Str.ofString "sign"]) (by intro pm code doc vs h; obtain ⟨v1, v2, rfl⟩ := len2 h; kernel_rfl) rfl (by decide +kernel) (by decide +kernel) (by decide +kernel) (by decide +kernel) (by kernel_rfl) (by kernel_rfl) (by kernel_rfl)
    fun c h1 h2 h3 h4 h5 K => (told_walk K h4 h5 h3 items sign hl).mono fun fl σ' μ' ⟨h, hμ⟩ => ⟨_, _, .inl h, .ref (by rw [hμ]; rfl) (ress_pure _ _ pure_row _), rfl⟩
end -- QTold

section -- QFound
noncomputable abbrev dParts (a : Addr) (its : List Pt) : D := .lst (its.map fun p => dPt a p.part)
noncomputable def foundP (its : List Pt) (items : List Item) (name : Str) (i j : Nat) : Bool := takes (piecesOf (stretch its items i j)) name
noncomputable def foundRow (its : List Pt) (items : List Item) (name : Str) (i : Nat) : List Nat := ((List.range (items.length + 1 - i)).map (i + ·)).filter (foundP its items name i)
noncomputable def found (its : List Pt) (items : List Item) (name : Str) : List (List Nat) := (List.range (items.length + 1)).map (foundRow its items name)
theorem noss_drop : ∀ (l : List Pt) (n : Nat), NoSS l → NoSS (l.drop n)
  | [], n, h => by simp; exact h
  | p :: r, 0, h => h
  | p :: r, n + 1, h => noss_drop r n h.2
theorem noss_take : ∀ (l : List Pt) (n : Nat), NoSS l → NoSS (l.take n)
  | [], n, h => by simp; exact h
  | p :: r, 0, h => trivial
  | p :: r, n + 1, h => by
    refine ⟨fun e => ?_, noss_take r n h.2⟩
    have h1 := h.1 e
    cases r with
    | nil => simp
    | cons q r =>
      cases n with
      | zero => simp
      | succ n => simpa using h1
theorem stretch_noss {its : List Pt} (items : List Item) (i j : Nat) (h : NoSS its) : NoSS (stretch its items i j) := by
  unfold stretch
  split
  · exact noss_take _ _ (noss_drop _ _ h)
  · exact noss_take _ _ (noss_drop _ _ h)
theorem stretch_le {α : Type} (l : List α) (items : List Item) (i j : Nat) : (stretch l items i j).length ≤ l.length := by
  unfold stretch
  split <;> exact Nat.le_trans (List.length_take_le' _ _) (by rw [List.length_drop]; exact Nat.sub_le _ _)
theorem stretch_mem' {α : Type} {l : List α} {items : List Item} {i j : Nat} {x : α} (h : x ∈ stretch l items i j) : x ∈ l := by
  unfold stretch at h
  split at h <;> exact List.mem_of_mem_drop (List.mem_of_mem_take h)
theorem pure_pt (a : Addr) (p : Pt) : D.pure (dPt a p.part) = true := by cases p <;> rfl
theorem eqk_parts (a : Addr) (l : List Pt) : D.eqk 1 (dParts a l) = true := by
  first | refine qi (D.eqk) ?_ | refine qs (D.eqk) ?_ | refine qt (D.eqk) ?_ | refine qb (D.eqk) ?_ | refine qm (D.eqk) ?_ | refine q1 (D.eqk) ?_ | rw [D.eqk]
  refine List.all_eq_true.mpr fun d hd => ?_
  obtain ⟨p, _, rfl⟩ := List.mem_map.mp hd
  cases p <;> rfl
noncomputable abbrev fR (n : Nat) : MO := .lst ((List.range n).map fun j : Nat => D.ref (j + 1))
noncomputable abbrev fRow (r : List Nat) : MO := .lst (r.map fun j : Nat => D.int (j : Int))
noncomputable abbrev fS (a : Addr) (its : List Pt) (items : List Item) (name : Str) : List (Str × D) := [(Str.ofString "items", dItems items), (Str.ofString "parts", dParts a its), (Str.ofString "star", .opq (.ref a)), (Str.ofString "name", .str name), (Str.ofString "rows", .ref 0)]
noncomputable abbrev fI (a : Addr) (its : List Pt) (items : List Item) (name : Str) (i k : Nat) : List (Str × D) := [(Str.ofString "items", dItems items), (Str.ofString "parts", dParts a its), (Str.ofString "star", .opq (.ref a)), (Str.ofString "name", .str name), (Str.ofString "rows", .ref 0), (Str.ofString "i", .int i), (Str.ofString "row", .ref k)]
noncomputable abbrev fG (a : Addr) (its : List Pt) (items : List Item) (name : Str) (i k j : Nat) (g : List Pt) : List (Str × D) := [(Str.ofString "items", dItems items), (Str.ofString "parts", dParts a its), (Str.ofString "star", .opq (.ref a)), (Str.ofString "name", .str name), (Str.ofString "rows", .ref 0), (Str.ofString "i", .int i), (Str.ofString "row", .ref k), (Str.ofString "j", .int j), (Str.ofString "given", dParts a g)]
theorem ds_pieces (l : List Piece) : Ds.pure (l.map dPiece) = true :=
  pure_bools dPiece (fun p => by simp only [D.pure]; exact pure_bools _ (fun _ => rfl) _) l
theorem pure_pieces (l : List Piece) : D.pure (dPieces l) = true := by
  simp only [D.pure]
  exact pure_bools dPiece (fun p => by simp only [D.pure]; exact pure_bools _ (fun _ => rfl) _) l
theorem ress_ints (μ : List MO) : ∀ r : List Nat, Ress μ (r.map fun j : Nat => D.int (j : Int)) (r.map fun j : Nat => D.int (j : Int))
  | [] => .nil
  | x :: r => .cons (.pure rfl) (ress_ints μ r)
theorem res_rows (rows : List (List Nat)) : Res (fR rows.length :: rows.map fRow) (.ref 0) (dRows rows) := by
  refine .ref (ds := (List.range rows.length).map fun j : Nat => D.ref (j + 1)) rfl (ress_of (by simp) fun j d e h1 h2 => ?_)
  have hj : j < rows.length := by
    have := (List.getElem?_eq_some_iff.mp h2).1
    simpa using this
  have e1 : d = .ref (j + 1) := by
    rw [List.getElem?_map, List.getElem?_range hj] at h1
    simpa using h1.symm
  have e2 : e = dRow rows[j] := by
    rw [List.getElem?_map, List.getElem?_eq_getElem hj] at h2
    simpa using h2.symm
  subst e1 e2
  exact .ref (ds := rows[j].map fun j : Nat => D.int (j : Int)) (by simp [List.getElem?_eq_getElem hj]) (ress_ints _ _)
theorem found_walk {c : Cx} {mg mb : Str → Option Value} (K : c.Ok mg mb) (hcn : c.n = 2) (hsc : c.env.scope = (defAt 26).scope) (a : Addr) (its : List Pt) (items : List Item) (name : Str)
    (hok : ∀ p ∈ its, OkPt p) (hss : NoSS its) (hl : items.length ≤ 10) (hil : its.length = items.length) (hn : name.length ≤ 20) :
    TrT c [(Str.ofString "items", dItems items), (Str.ofString "parts", dParts a its), (Str.ofString "star", .opq (.ref a)), (Str.ofString "name", .str name)] [] (execs (defAt 26).body c.env)
      (fun fl _ μ => fl = .ret (.ref 0) ∧ μ = fR (found its items name).length :: (found its items name).map fRow) := by
  conv at hsc => rhs; whnf
  have KW : c.OkW mg mb := K.toOkW
  refine tr_cons ?_
  repeat (ks_step "op2")
  refine ev_listM ?_
  repeat (ks_step "op2")
  refine TrT.mono (Q := fun fl σ μ => fl = .next ∧ σ = fS a its items name ∧ μ = fR (found its items name).length :: (found its items name).map fRow) ?lp ?rest
  case rest =>
    rintro _ _ _ ⟨rfl, rfl, rfl⟩
    repeat (ks_step "op2")
    exact ⟨rfl, rfl⟩
  case lp =>
    refine tr_forI K ?_
    refine it_range1 K (by ks_step "kind") rfl ?_
    repeat (ks_step "op2")
    refine op_len_lst (by simp; omega) ?_
    repeat (ks_step "op2")
    refine ⟨by simp; omega, ?_⟩
    rw [List.length_map]
    refine forT_X (fun i : Nat => D.int (i : Int)) (fun l σ μ => ∃ done : List (List Nat), done ++ l.map (foundRow its items name) = found its items name ∧ (∀ i ∈ l, i ≤ items.length) ∧ done.length + l.length ≤ 20 ∧ σ = fS a its items name ∧ μ = fR done.length :: done.map fRow) ?_ ?_ _ _ _ ⟨[], rfl, fun i hi => by simp at hi; omega, by simp; omega, rfl, rfl⟩
    case refine_2 =>
      rintro σ μ ⟨done, h1, _, _, rfl, rfl⟩
      have : done = found its items name := by simpa using h1
      exact ⟨rfl, rfl, by rw [this]⟩
    rintro i l σ μ ⟨done, hd, hi, hdl, rfl, rfl⟩ X hX _
    refine asg_name K (by ks_step "kind") (by ks_step "upd") ?_
    have hil' : i ≤ items.length := hi i (List.mem_cons_self ..)
    obtain ⟨M0, hM⟩ : ∃ M0, M0 = (fR done.length :: done.map fRow : List MO) := ⟨_, rfl⟩
    have hMl : M0.length = done.length + 1 := by rw [hM]; simp
    rw [← hM]
    refine tr_step (σ' := fI a its items name i M0.length) (μ₂ := M0 ++ [fRow []]) ?_ ?_
    · repeat (ks_step "op2")
      refine ev_listM ?_
      repeat (ks_step "op2")
      exact ⟨rfl, rfl, rfl⟩
    refine tr_step (σ' := fI a its items name i M0.length) (μ₂ := M0 ++ [fRow (foundRow its items name i)]) ?_ ?_
    · refine tr_forI K ?_
      refine it_range2 K (by ks_step "kind") rfl rfl ?_
      repeat (ks_step "op2")
      refine op_len_lst (by simp; omega) ?_
      repeat (ks_step "op2")
      refine ⟨i, items.length + 1 - i, rfl, by rw [List.length_map]; congr 1; omega, by omega, by omega, ?_⟩
      have em : (List.range (items.length + 1 - i)).map (fun k : Nat => D.int ((i + k : Nat) : Int)) = ((List.range (items.length + 1 - i)).map (i + ·)).map fun j : Nat => D.int (j : Int) := by rw [List.map_map]; rfl
      first | refine qi (em) ?_ | refine qs (em) ?_ | refine qt (em) ?_ | refine qb (em) ?_ | refine qm (em) ?_ | refine q1 (em) ?_ | rw [em]
      refine forT_X (fun j : Nat => D.int (j : Int)) (fun l σ μ => ∃ cur : List Nat, cur ++ l.filter (foundP its items name i) = foundRow its items name i ∧ (∀ j ∈ l, i ≤ j ∧ j ≤ items.length) ∧ cur.length + l.length ≤ 20 ∧ σ = fI a its items name i M0.length ∧ μ = M0 ++ [fRow cur]) ?_ ?_ _ _ _ ⟨[], rfl, fun j hj => by simp at hj; omega, by simp; omega, rfl, rfl⟩
      case refine_2 =>
        rintro σ μ ⟨cur, h1, _, _, rfl, rfl⟩
        have : cur = foundRow its items name i := by simpa using h1
        exact ⟨rfl, rfl, by rw [this]⟩
      rintro j l σ μ ⟨cur, hc, hj, hcl, rfl, rfl⟩ Y hY _
      obtain ⟨hj1, hj2⟩ := hj j (List.mem_cons_self ..)
      refine asg_name K (by ks_step "kind") (by ks_step "upd") ?_
      obtain ⟨g, hg⟩ : ∃ g, g = stretch its items i j := ⟨_, rfl⟩
      have hgo : ∀ p ∈ g, OkPt p := fun p hp => hok p (stretch_mem' (hg ▸ hp))
      have hgs : NoSS g := hg ▸ stretch_noss items i j hss
      have hgl : g.length ≤ 10 := by have := stretch_le its items i j; rw [hg]; omega
      have hpi : Ds.pure (items.map dItem) = true := pure_bools _ pure_item _
      have hpp : ∀ l : List Pt, Ds.pure (l.map fun p => dPt a p.part) = true := pure_bools _ (pure_pt a)
      refine tr_step (σ' := fG a its items name i M0.length j g) (μ₂ := M0 ++ [fRow cur]) ?_ ?_
      · ks_step "op2"
        refine ev_fcall nm21 rec21 K (n := 1) (by omega) (by ks_step "kind") rfl ?_
        repeat (ks_step "op2")
        refine ⟨by simp only [Ds.pure, D.pure, hpi, hpp, Bool.and_self], (stretch_con _ items i j hj1 hj2 hl (by simpa using hil) (hpp _)).mono fun e he => ?_⟩
        subst he
        rw [stretch_map, ← hg]
        refine ⟨hpp _, ?_⟩
        repeat (ks_step "op2")
        exact ⟨rfl, rfl, rfl⟩
      refine tr_step (σ' := fG a its items name i M0.length j g ++ [(Str.ofString "copied", dParts a g)]) (μ₂ := M0 ++ [fRow cur]) ?_ ?_
      · ks_step "op2"
        ks_step "op2"
        repeat (ks_step "op2")
        refine op_list_copy (by rw [List.length_map]; omega) ?_
        repeat (ks_step "op2")
        exact ⟨rfl, rfl, rfl⟩
      simp only [fG, List.cons_append, List.nil_append]
      refine tr_step (σ' := fG a its items name i M0.length j g ++ [(Str.ofString "copied", dParts a g), (Str.ofString "pieces", dPieces (piecesOf g))]) (μ₂ := M0 ++ [fRow cur]) ?_ ?_
      · ks_step "op2"
        refine ev_fcall nm15 rec15 K (n := 2) (by omega) (by ks_step "kind") rfl ?_
        refine evs_c rfl ?_
        refine ev_fcall nm10 rec10 K (n := 1) (by omega) (by ks_step "kind") rfl ?_
        repeat (ks_step "op2")
        refine ⟨by simp only [Ds.pure, D.pure, hpp, Bool.and_self], (joinP_con a g hgo hgs (by omega)).mono fun e he => ?_⟩
        subst he
        refine ⟨rfl, ?_⟩
        repeat (ks_step "op2")
        refine ⟨rfl, (readP_con g hgo (by omega)).mono fun e he => ?_⟩
        subst he
        refine ⟨pure_pieces _, ?_⟩
        repeat (ks_step "op2")
        exact ⟨rfl, rfl, rfl⟩
      simp only [fG, List.cons_append, List.nil_append]
      refine tr_cons ?_
      refine tr_ifF ?_ ?_
      · repeat (ks_step "op2")
        first | refine ite_f rfl ?_ | skip
        repeat (ks_step "op2")
        refine op_ne_self (n := 1) (eqk_parts a g) (by have := K.units; omega) ?_
        repeat (ks_step "op2")
        first | refine ite_f rfl ?_ | skip
        repeat (ks_step "op2")
        exact ⟨rfl, rfl⟩
      refine tr_nil ?_
      refine after_next ?_
      have hpl := pieces_len g
      have htk := takes_con (prog := c.prog) (w := c.w) (mg := mg) (mb := mb) ((splitG g).1.map mkOf) ((splitG g).2.map fun g => g.map mkOf) name (fun p hp => by have := hpl.2 p hp; omega) (by have := hpl.1; simp only [piecesOf, List.length_cons] at this; omega) hn
      have hpc : dPieces (((splitG g).1.map mkOf) :: ((splitG g).2.map fun g => g.map mkOf)) = dPieces (piecesOf g) := rfl
      have htv : takes (((splitG g).1.map mkOf) :: ((splitG g).2.map fun g => g.map mkOf)) name = foundP its items name i j := by rw [foundP, ← hg]; rfl
      rw [hpc, htv] at htk
      cases hb : foundP its items name i j with
      | true =>
        rw [hb] at htk
        refine tr_cons ?_
        refine tr_ifT ?_ ?_
        · ks_step "op2"
          refine ev_fcall nm17 rec17 K (n := 2) (by omega) (by ks_step "kind") rfl ?_
          repeat (ks_step "op2")
          refine ⟨by simp only [Ds.pure, ds_pieces, D.pure, Bool.and_self], htk.mono fun e he => ?_⟩
          subst he
          refine ⟨rfl, ?_⟩
          repeat (ks_step "op2")
          first | exact ⟨rfl, rfl⟩ | exact rfl
        repeat (ks_step "op2")
        refine ⟨⟨_, get_last _ _⟩, ?_⟩
        repeat (ks_step "op2")
        refine ⟨_, get_last _ _, by rw [List.length_map]; omega, ?_⟩
        first | refine qi (set_last) ?_ | refine qs (set_last) ?_ | refine qt (set_last) ?_ | refine qb (set_last) ?_ | refine qm (set_last) ?_ | refine q1 (set_last) ?_ | rw [set_last]
        repeat (ks_step "op2")
        refine tr_nil ?_
        refine after_next ?_
        refine tr_nilT 7 ?_
        refine hY _ _ ⟨cur ++ [j], by rw [← hc]; simp [hb], fun x hx => hj x (List.mem_cons_of_mem _ hx), by simp only [List.length_append, List.length_cons, List.length_nil] at hcl ⊢; omega, rfl, by simp⟩
      | false =>
        rw [hb] at htk
        refine tr_cons ?_
        refine tr_ifF ?_ ?_
        · ks_step "op2"
          refine ev_fcall nm17 rec17 K (n := 2) (by omega) (by ks_step "kind") rfl ?_
          repeat (ks_step "op2")
          refine ⟨by simp only [Ds.pure, ds_pieces, D.pure, Bool.and_self], htk.mono fun e he => ?_⟩
          subst he
          refine ⟨rfl, ?_⟩
          repeat (ks_step "op2")
          first | exact ⟨rfl, rfl⟩ | exact rfl
        refine tr_nil ?_
        refine after_next ?_
        refine tr_nilT 7 ?_
        refine hY _ _ ⟨cur, by rw [← hc]; simp [hb], fun x hx => hj x (List.mem_cons_of_mem _ hx), by simp only [List.length_cons] at hcl; omega, rfl, rfl⟩
    subst hM
    repeat (ks_step "op2")
    refine ⟨by simp at hdl ⊢; omega, ?_⟩
    repeat (ks_step "op2")
    refine tr_nilT 5 ?_
    refine hX _ _ ⟨done ++ [foundRow its items name i], by rw [← hd]; simp, fun x hx => hi x (List.mem_cons_of_mem _ hx), by simp at hdl ⊢; omega, rfl, ?_⟩
    trace_state
    simp [List.range_succ]
theorem found_con {prog : Program} {w : World} {mg mb : Str → Option Value} (a : Addr) (its : List Pt) (items : List Item) (name : Str)
    (hok : ∀ p ∈ its, OkPt p) (hss : NoSS its) (hl : items.length ≤ 10) (hil : its.length = items.length) (hn : name.length ≤ 20) :
    Con prog w mg mb 3 (defAt 26) [dItems items, dParts a its, .opq (.ref a), .str name] (fun e => e = dRows (found its items name)) :=
  con_intro (xs := [Str.ofString "items", Str.ofString "parts", Str.ofString "star", Str.ofString "name"]) (by intro pm code doc vs h; obtain ⟨v1, v2, v3, v4, rfl⟩ := len4 h; kernel_rfl) rfl (by decide +kernel) (by decide +kernel) (by decide +kernel) (by decide +kernel) (by kernel_rfl) (by kernel_rfl) (by kernel_rfl)
    fun c h1 h2 h3 h4 _ K => (found_walk K h4 h3 a its items name hok hss hl hil hn).mono fun fl σ' μ' ⟨hf, hm⟩ => ⟨_, _, .inl hf, hm ▸ res_rows _, rfl⟩
end -- QFound

section -- QDiff
section
variable {c : Cx} {μ : List MO} {mg mb : Str → Option Value}

theorem skip_walk (K : c.OkW mg mb) (hro : c.ro = false) (HH : Hands c) {L i v : Str} {p1 p2 p3 p4 p5 p6 p7 p8 pos : Pos} {kk : Nat} {ns : List Int} {x : Int} (σ : Nat → List (Str × D))
    (hL : ∀ k, (L, D.lst (ns.map .int)) ∈ σ k) (hi : ∀ k : Nat, (i, D.int (k : Int)) ∈ σ k) (hv : ∀ k, (v, D.int x) ∈ σ k) (hu : ∀ k : Nat, Upd (σ k) i (D.int ((k : Int) + 1)) (σ (k + 1))) (hki : c.st i) (hl : ns.length ≤ 100) (k : Nat) (hk : k ≤ ns.length) :
    TrX c (σ k) μ (exec (.While (.Compare (.Subscript (.Name L p1) (.Name i p2) p3) [.Eq] [.Name v p4] p5) [.AugAssign (.Name i p6) .Add (.Constant (.int 1) kk p7) p8] [] pos) c.env)
      (fun fl σ' μ' => ∃ k', fl = .next ∧ σ' = σ k' ∧ μ' = μ ∧ k ≤ k' ∧ k' < ns.length ∧ ns.drop k' = (ns.drop k).dropWhile (· == x))
      (fun ctx σ' μ' => σ' = σ ns.length ∧ μ' = μ ∧ (ns.drop k).dropWhile (· == x) = [] ∧ (c.A.handled = none → ctx = .none)) := by
  refine trx_while K hro (fun n σ' μ' => ∃ k', σ' = σ k' ∧ μ' = μ ∧ k ≤ k' ∧ k' ≤ ns.length ∧ n = ns.length - k' ∧ (ns.drop k').dropWhile (· == x) = (ns.drop k).dropWhile (· == x)) ?_ (ns.length - k) ⟨k, rfl, rfl, Nat.le_refl _, hk, rfl, rfl⟩
  rintro n _ _ ⟨k', rfl, rfl, hkk, hkl, rfl, hd⟩
  refine tsx_compare ?_ (by with_unfolding_all rfl)
  refine evx_sub K HH (hL k') (hi k') (by simpa using (by omega : ns.length ≤ 1000)) (by omega) (fun d hd' => ?_) (fun hlen ctx hctx => ?_)
  · rw [List.getElem?_map] at hd'
    have hlt : k' < ns.length := by
      rcases Nat.lt_or_ge k' ns.length with h | h
      · exact h
      · rw [List.getElem?_eq_none h] at hd'; cases hd'
    rw [List.getElem?_eq_getElem hlt] at hd'
    cases hd'
    refine ev_name K (hv k') ?_
    refine op_eq ?_
    refine ⟨_, rfl, ?_⟩
    have hdr : ns.drop k' = ns[k'] :: ns.drop (k' + 1) := List.drop_eq_getElem_cons hlt
    by_cases he : ns[k'] = x
    · refine ite_t (by simp [he]) ?_
      refine tr_cons ?_
      refine tr_aug K (hi k') hki ?_
      refine ev_int ?_
      refine op_iadd ?_
      refine ⟨_, hu k', ?_⟩
      refine after_next ?_
      refine tr_nil ?_
      refine loop_next ?_
      refine ⟨_, by omega, k' + 1, rfl, rfl, by omega, hlt, rfl, ?_⟩
      rw [← hd, hdr, List.dropWhile_cons, if_pos (by simp [he])]
    · refine ite_n (by simp [he]) ?_
      refine ⟨k', rfl, rfl, rfl, hkk, hlt, ?_⟩
      rw [← hd, hdr, List.dropWhile_cons, if_neg (by simp [he])]
  · have : k' = ns.length := by simp at hlen; omega
    subst this
    refine ⟨rfl, rfl, ?_, hctx⟩
    rw [← hd]; simp
end
end -- QDiff

section -- QDiff2
theorem dw_len (p : Int → Bool) (l : List Int) : (l.dropWhile p).length ≤ l.length := (List.dropWhile_sublist p).length_le
noncomputable def sldN : Nat → List Int → List Int → List Int → List Int → List Int × List Int
  | 0, ex, ac, mi, un => (mi ++ ex, un ++ ac)
  | n + 1, ex, ac, mi, un => match ex, ac with
    | e :: ex, a :: ac =>
      if e < a then sldN n (ex.dropWhile (· == e)) (a :: ac) (mi ++ [e]) un
      else if a < e then sldN n (e :: ex) (ac.dropWhile (· == a)) mi (un ++ [a])
      else sldN n (ex.dropWhile (· == e)) (ac.dropWhile (· == a)) mi un
    | ex, ac => (mi ++ ex, un ++ ac)
noncomputable def sldL (ex ac mi un : List Int) : List Int × List Int := sldN (ex.length + ac.length) ex ac mi un
theorem dw1 (p : Int → Bool) (ex ac : List Int) (a : Int) : (ex.dropWhile p).length + (a :: ac).length ≤ ex.length + ac.length + 1 :=
  Nat.add_le_add_right (dw_len p ex) (ac.length + 1)
theorem dw2 (p : Int → Bool) (ex ac : List Int) (e : Int) : (e :: ex).length + (ac.dropWhile p).length ≤ ex.length + ac.length + 1 :=
  Nat.le_trans (Nat.add_le_add_left (dw_len p ac) _) (Nat.le_of_eq (Nat.succ_add _ _))
theorem dw3 (p q : Int → Bool) (ex ac : List Int) : (ex.dropWhile p).length + (ac.dropWhile q).length ≤ ex.length + ac.length + 1 :=
  Nat.le_succ_of_le (Nat.add_le_add (dw_len p ex) (dw_len q ac))
theorem sldLen (ex ac : List Int) (e a : Int) : (e :: ex).length + (a :: ac).length = ex.length + ac.length + 1 + 1 := congrArg Nat.succ (Nat.succ_add _ _)
theorem sldN_le : ∀ (n m : Nat) (ex ac mi un : List Int), ex.length + ac.length ≤ n → n ≤ m → sldN n ex ac mi un = sldN m ex ac mi un
  | 0, 0, _, _, _, _, _, _ => rfl
  | 0, _ + 1, [], _, _, _, _, _ => rfl
  | 0, _ + 1, _ :: _, [], _, _, _, _ => rfl
  | 0, _ + 1, e :: ex, a :: ac, _, _, h, _ => absurd (sldLen ex ac e a ▸ h) (Nat.not_succ_le_zero _)
  | _ + 1, 0, _, _, _, _, _, h => absurd h (Nat.not_succ_le_zero _)
  | _ + 1, _ + 1, [], _, _, _, _, _ => rfl
  | _ + 1, _ + 1, _ :: _, [], _, _, _, _ => rfl
  | n + 1, m + 1, e :: ex, a :: ac, mi, un, h, hm => by
    have h := Nat.le_of_succ_le_succ (sldLen ex ac e a ▸ h)
    have hm := Nat.le_of_succ_le_succ hm
    show (if e < a then sldN n _ _ _ _ else if a < e then sldN n _ _ _ _ else sldN n _ _ _ _) = (if e < a then sldN m _ _ _ _ else if a < e then sldN m _ _ _ _ else sldN m _ _ _ _)
    rw [sldN_le n m _ _ _ _ (Nat.le_trans (dw1 _ _ _ _) h) hm, sldN_le n m _ _ _ _ (Nat.le_trans (dw2 _ _ _ _) h) hm, sldN_le n m _ _ _ _ (Nat.le_trans (dw3 _ _ _ _) h) hm]
theorem sldL_c (e a : Int) (ex ac mi un : List Int) : sldL (e :: ex) (a :: ac) mi un = if e < a then sldL (ex.dropWhile (· == e)) (a :: ac) (mi ++ [e]) un
    else if a < e then sldL (e :: ex) (ac.dropWhile (· == a)) mi (un ++ [a]) else sldL (ex.dropWhile (· == e)) (ac.dropWhile (· == a)) mi un := by
  unfold sldL
  rw [sldLen ex ac e a, sldN_le _ _ _ _ _ _ (Nat.le_refl _) (dw1 (· == e) ex ac a), sldN_le _ _ _ _ _ _ (Nat.le_refl _) (dw2 (· == a) ex ac e), sldN_le _ _ _ _ _ _ (Nat.le_refl _) (dw3 (· == e) (· == a) ex ac)]
  rfl
theorem sldL_l (ac mi un : List Int) : sldL [] ac mi un = (mi, un ++ ac) := by
  unfold sldL
  rw [sldN_le _ (([] : List Int).length + ac.length + 1) _ _ _ _ (Nat.le_refl _) (Nat.le_succ _)]
  exact congrArg (·, _) (List.append_nil _)
theorem sldL_r (ex mi un : List Int) : sldL ex [] mi un = (mi ++ ex, un) := by
  unfold sldL
  rw [sldN_le _ (ex.length + 1) _ _ _ _ (Nat.le_refl _) (Nat.le_succ _)]
  cases ex <;> exact congrArg (_, ·) (List.append_nil _)

noncomputable abbrev dInts (ns : List Int) : D := .lst (ns.map .int)

noncomputable abbrev sdS (ex ac : List Int) (i j : Nat) : List (Str × D) := [(Str.ofString "expected", dInts ex), (Str.ofString "actual", dInts ac), (Str.ofString "i", .int (i : Int)), (Str.ofString "j", .int (j : Int)), (Str.ofString "missing", .ref 0), (Str.ofString "unexpected", .ref 1)]
noncomputable abbrev sdM (mi un : List Int) : List MO := [.lst (mi.map .int), .lst (un.map .int)]
inductive sdW (ex ac : List Int) (res : List Int × List Int) : Nat → List (Str × D) → List MO → Prop
  | mk (i j : Nat) (mi un : List Int) (n : Nat) (h1 : i ≤ ex.length) (h2 : j ≤ ac.length) (hn : n = (ex.length - i) + (ac.length - j)) (h4 : mi.length + (ex.length - i) ≤ 40) (h5 : un.length + (ac.length - j) ≤ 40) (h6 : sldL (ex.drop i) (ac.drop j) mi un = res) :
      sdW ex ac res n (sdS ex ac i j) (sdM mi un)
noncomputable abbrev sdA (res : List Int × List Int) : KS := fun fl σ' μ' => fl = .next ∧ (∀ p ∈ [(Str.ofString "missing", D.ref 0), (Str.ofString "unexpected", D.ref 1)], p ∈ σ') ∧ μ' = sdM res.1 res.2
inductive sdQ (ex ac : List Int) (n : Nat) (res : List Int × List Int) : Fl → List (Str × D) → List MO → Prop
  | mk (i j : Nat) (mi un : List Int) (σ' : List (Str × D)) (hs : ∀ p ∈ sdS ex ac i j, p ∈ σ') (h1 : i ≤ ex.length) (h2 : j ≤ ac.length) (h3 : (ex.length - i) + (ac.length - j) < n) (h4 : mi.length + (ex.length - i) ≤ 40) (h5 : un.length + (ac.length - j) ≤ 40) (h6 : sldL (ex.drop i) (ac.drop j) mi un = res) :
      sdQ ex ac n res .next σ' (sdM mi un)
inductive sdX (ex ac : List Int) (res : List Int × List Int) : Value → List (Str × D) → List MO → Prop
  | mk (i j : Nat) (mi un : List Int) (ctx : Value) (σ' : List (Str × D)) (hs : ∀ p ∈ sdS ex ac i j, p ∈ σ') (h1 : i ≤ ex.length) (h2 : j ≤ ac.length) (h4 : mi.length + (ex.length - i) ≤ 40) (h5 : un.length + (ac.length - j) ≤ 40) (h6 : (mi ++ ex.drop i, un ++ ac.drop j) = res) :
      sdX ex ac res ctx σ' (sdM mi un)
theorem sd_m1 {x y i k j : Nat} (h : i + 1 ≤ k) (h2 : k < x) : x - k + (y - j) < x - i + (y - j) := Nat.add_lt_add_right (Nat.sub_lt_sub_left (Nat.lt_trans h h2) h) _
theorem sd_m2 {x y i k j : Nat} (h : j + 1 ≤ k) (h2 : k < y) : x - i + (y - k) < x - i + (y - j) := Nat.add_lt_add_left (Nat.sub_lt_sub_left (Nat.lt_trans h h2) h) _
theorem sd_m3 {x y i k j k2 : Nat} (h : i + 1 ≤ k) (h2 : k < x) (h3 : j + 1 ≤ k2) : x - k + (y - k2) < x - i + (y - j) := Nat.add_lt_add_of_lt_of_le (Nat.sub_lt_sub_left (Nat.lt_trans h h2) h) (Nat.sub_le_sub_left (Nat.le_of_lt h3) y)
theorem sd_b {m : List Int} {e : Int} {x i k : Nat} (h : m.length + (x - i) ≤ 40) (h1 : i + 1 ≤ k) (h2 : k ≤ x) : (m ++ [e]).length + (x - k) ≤ 40 := by rw [List.length_append, List.length_singleton]; omega
theorem sd_c {m x i k : Nat} (h : m + (x - i) ≤ 40) (h1 : i + 1 ≤ k) : m + (x - k) ≤ 40 := Nat.le_trans (Nat.add_le_add_left (Nat.sub_le_sub_left (Nat.le_of_lt h1) x) m) h
theorem sld_walk {c : Cx} {mg mb : Str → Option Value} (K : c.Ok mg mb) (hro : c.ro = false) (hsc : c.env.scope = (defAt 12).scope) (ex ac : List Int) (hex : ex.length ≤ 40) (hac : ac.length ≤ 40) :
    TrT c [(Str.ofString "expected", dInts ex), (Str.ofString "actual", dInts ac)] [] (execs (defAt 12).body c.env)
      (fun fl _ μ => fl = .ret (.tup [.ref 0, .ref 1]) ∧ μ = [.lst ((sldL ex ac [] []).1.map .int), .lst ((sldL ex ac [] []).2.map .int)]) := by
  conv at hsc => rhs; whnf
  refine tr_cons ?_
  refine tr_assign2 K.toOkW hsc (by ks_step "kind") (by ks_step "kind") ?_ (by kernel_rfl!)
  refine ev_int ?_
  refine ⟨_, _, by ks_step "upd", by ks_step "upd", ?_⟩
  repeat (ks_step "op")
  refine ev_listM ?_
  repeat (ks_step "op")
  refine ev_listM ?_
  iterate 5 (ks_step "op")
  generalize hres : sldL ex ac [] [] = res
  refine TrT.mono (Q := sdA res) ?wh ?after
  case after =>
    rintro _ σ' _ ⟨rfl, hs, rfl⟩
    refine TrT.forget hs ?_
    repeat (ks_step "op")
    exact ⟨rfl, rfl⟩
  case wh =>
    refine tr_while (sdW ex ac res) ?_ (ex.length + ac.length) ⟨0, 0, [], [], _, Nat.zero_le _, Nat.zero_le _, rfl, by simpa using hex, by simpa using hac, by simpa using hres⟩
    rintro n _ _ ⟨i, j, mi, un, _, hi, hj, rfl, hmi, hun, hr⟩
    refine ts_value ?_ rfl
    refine ev_bool ?_
    refine tru_bool ?_
    refine ite_t rfl ?_
    refine tr_cons ?_
    refine tr_try_except K.toOkW hro (by ks_step "kind") ?_
    refine TrX.mono (Q := sdQ ex ac ((ex.length - i) + (ac.length - j)) res) (X := sdX ex ac res) ?body ?ok ?exc
    case ok =>
      rintro _ _ _ ⟨i', j', mi', un', σ', hs, h1, h2, h3, h4, h5, h6⟩
      refine after_next ?_
      refine TrT.forget hs ?_
      refine tr_nil ?_
      refine loop_next ?_
      exact ⟨_, h3, i', j', mi', un', _, h1, h2, rfl, h4, h5, h6⟩
    case exc =>
      rintro _ _ _ ⟨i', j', mi', un', _, σ', hs, h1, h2, h4, h5, h6⟩ cm hcm
      have hscm := (congrArg Env.scope hcm.env).trans hsc
      refine TrT.forget hs ?_
      have hcut : ∀ (l : List Int) (k : Nat), k ≤ l.length → (((l.map D.int).drop (loC (l.map D.int).length (some (k : Int)))).take (hiC (l.map D.int).length none - loC (l.map D.int).length (some (k : Int)))) = (l.drop k).map D.int := fun l k hk => by
        have e1 : loC (l.map D.int).length (some (k : Int)) = k := by show clipAt _ _ = _; rw [clipAt_nat, List.length_map]; omega
        rw [e1, show hiC (l.map D.int).length none = l.length by show (l.map D.int).length = _; rw [List.length_map], ← List.map_drop, ← List.map_take, List.take_of_length_le (by simp)]
      refine tr_cons ?_
      refine tr_expr (hs := by with_unfolding_all rfl) hcm.ok (ev_extend ?_ rfl rfl rfl)
      refine ev_name hcm.ok (by ks_step "has") ?_
      refine ⟨0, rfl, ⟨_, rfl⟩, ?_⟩
      refine ev_slice ?_
      refine ev_name hcm.ok (by ks_step "has") ?_
      refine part_some (ev_name hcm.ok (by ks_step "has") ⟨_, rfl, part_none ?_⟩)
      refine sl_lst (by simp; omega) ?_
      first | refine qi (hcut ex i' h1) ?_ | refine qs (hcut ex i' h1) ?_ | refine qt (hcut ex i' h1) ?_ | refine qb (hcut ex i' h1) ?_ | refine qm (hcut ex i' h1) ?_ | refine q1 (hcut ex i' h1) ?_ | rw [hcut ex i' h1]
      refine ⟨_, _, rfl, rfl, by simp; omega, rfl, ?_⟩
      refine after_next ?_
      refine tr_cons ?_
      refine tr_expr (hs := by with_unfolding_all rfl) hcm.ok (ev_extend ?_ rfl rfl rfl)
      refine ev_name hcm.ok (by ks_step "has") ?_
      refine ⟨1, rfl, ⟨_, rfl⟩, ?_⟩
      refine ev_slice ?_
      refine ev_name hcm.ok (by ks_step "has") ?_
      refine part_some (ev_name hcm.ok (by ks_step "has") ⟨_, rfl, part_none ?_⟩)
      refine sl_lst (by simp; omega) ?_
      first | refine qi (hcut ac j' h2) ?_ | refine qs (hcut ac j' h2) ?_ | refine qt (hcut ac j' h2) ?_ | refine qb (hcut ac j' h2) ?_ | refine qm (hcut ac j' h2) ?_ | refine q1 (hcut ac j' h2) ?_ | rw [hcut ac j' h2]
      refine ⟨_, _, rfl, rfl, by simp; omega, rfl, ?_⟩
      refine after_next ?_
      refine tr_cons ?_
      refine tr_brk ?_
      refine after_brk ?_
      refine after_brk ?_
      refine loop_brk ?_
      refine ⟨rfl, by ks_step "sub", ?_⟩
      rw [← h6]
      simp [sdM]
    case body =>
      refine trx_cons ?_
      refine trx_assign K.toOkW (by ks_step "kind") ?_
      refine evx_sub K.toOkW (.inl K.handled) (ds := ex.map .int) (k := i) (by ks_step "has") (by ks_step "has") (by simp; omega) (by omega) (fun d hd => ?_) (fun hlen ctx hctx => ?_)
      rotate_left
      · rw [List.length_map] at hlen
        refine ⟨i, j, mi, un, _, _, by ks_step "sub", hi, hj, hmi, hun, ?_⟩
        rw [← hr, List.drop_eq_nil_of_le hlen]
        rw [sldL_l]; simp
      obtain ⟨hli, rfl⟩ : ∃ h : i < ex.length, d = .int ex[i] := by
        rw [List.getElem?_map] at hd
        rcases Nat.lt_or_ge i ex.length with h | h
        · rw [List.getElem?_eq_getElem h] at hd; exact ⟨h, (Option.some.inj hd).symm⟩
        · rw [List.getElem?_eq_none h] at hd; cases hd
      clear hd
      refine ⟨_, by ks_step "upd", ?_⟩
      show TrX _ _ _ _ _ _
      refine trx_cons ?_
      refine trx_assign K.toOkW (by ks_step "kind") ?_
      refine evx_sub K.toOkW (.inl K.handled) (ds := ac.map .int) (k := j) (by ks_step "has") (by ks_step "has") (by simp; omega) (by omega) (fun d hd => ?_) (fun hlen ctx hctx => ?_)
      rotate_left
      · rw [List.length_map] at hlen
        refine ⟨i, j, mi, un, _, _, by ks_step "sub", hi, hj, hmi, hun, ?_⟩
        rw [← hr, List.drop_eq_nil_of_le hlen]
        rw [sldL_r]; simp
      obtain ⟨hlj, rfl⟩ : ∃ h : j < ac.length, d = .int ac[j] := by
        rw [List.getElem?_map] at hd
        rcases Nat.lt_or_ge j ac.length with h | h
        · rw [List.getElem?_eq_getElem h] at hd; exact ⟨h, (Option.some.inj hd).symm⟩
        · rw [List.getElem?_eq_none h] at hd; cases hd
      clear hd
      refine ⟨_, by ks_step "upd", ?_⟩
      show TrX _ _ _ _ _ _
      have hde := List.drop_eq_getElem_cons hli
      have hda := List.drop_eq_getElem_cons hlj
      rw [hde, hda] at hr
      generalize ex[i] = e at hr hde ⊢
      generalize ac[j] = a at hr hda ⊢
      refine trx_cons ?_
      refine trx_if ?_
      repeat (ks_step "op")
      have hc1 : ∀ k : Nat, (k : Int) + 1 = ((k + 1 : Nat) : Int) := fun k => by push_cast; rfl
      by_cases hlt : e < a
      · refine ite_t (decide_eq_true hlt) ?_
        refine trx_cons (.lift ?_)
        refine tr_expr (hs := by with_unfolding_all rfl) K.toOkW (ev_append ?_ rfl rfl rfl)
        repeat (ks_step "op")
        refine ⟨by simp; omega, rfl, ?_⟩
        show TrX _ _ _ _ _ _
        have hset : (sdM mi un).set 0 (MO.lst (mi.map D.int ++ [D.int e])) = sdM (mi ++ [e]) un := by simp [sdM]
        first | refine qi (hset) ?_ | refine qs (hset) ?_ | refine qt (hset) ?_ | refine qb (hset) ?_ | refine qm (hset) ?_ | refine q1 (hset) ?_ | rw [hset]
        refine trx_cons (.lift ?_)
        refine tr_aug K.toOkW (by ks_step "has") (by ks_step "kind") ?_
        refine ev_int (op_iadd (qi (hc1 _) ⟨_, by ks_step "upd", ?_⟩))
        show TrX _ _ _ _ _ _
        refine trx_cons ?_
        refine (skip_walk (ns := ex) (x := e) K.toOkW hro (.inl K.handled) (fun k => [(Str.ofString "expected", dInts ex), (Str.ofString "actual", dInts ac), (Str.ofString "i", .int (k : Int)), (Str.ofString "j", .int (j : Int)), (Str.ofString "missing", .ref 0), (Str.ofString "unexpected", .ref 1), (Str.ofString "e", .int e), (Str.ofString "a", .int a)])
          (fun k => by ks_step "has") (fun k => by ks_step "has") (fun k => by ks_step "has") (fun k => by rw [hc1]; ks_step "upd") (by ks_step "kind") (by omega) (i + 1) (by omega)).mono ?_ ?_
        · rintro _ _ _ ⟨k', rfl, rfl, rfl, h1, h2, h3⟩
          show TrX _ _ _ _ _ _
          refine trx_nil ?_
          show TrX _ _ _ _ _ _
          refine trx_nil ⟨k', j, mi ++ [e], un, _, by ks_step "sub", Nat.le_of_lt h2, hj, sd_m1 h1 h2, sd_b hmi h1 (Nat.le_of_lt h2), hun, ?_⟩
          rw [← hr, h3, hda]
          conv => rhs; rw [sldL_c]
          rw [if_pos hlt]
        · rintro _ _ _ ⟨rfl, rfl, h3, _⟩
          refine ⟨ex.length, j, mi ++ [e], un, _, _, by ks_step "sub", Nat.le_refl _, hj, sd_b hmi hli (Nat.le_refl _), hun, ?_⟩
          rw [← hr, sldL_c, if_pos hlt, h3, hda, sldL_l]
          simp
      · refine ite_n (by simpa using hlt) ?_
        refine trx_cons ?_
        refine trx_if ?_
        repeat (ks_step "op")
        by_cases hgt : a < e
        · refine ite_t (decide_eq_true hgt) ?_
          refine trx_cons (.lift ?_)
          refine tr_expr (hs := by with_unfolding_all rfl) K.toOkW (ev_append ?_ rfl rfl rfl)
          repeat (ks_step "op")
          refine ⟨by simp; omega, rfl, ?_⟩
          show TrX _ _ _ _ _ _
          have hset : (sdM mi un).set 1 (MO.lst (un.map D.int ++ [D.int a])) = sdM mi (un ++ [a]) := by simp [sdM]
          first | refine qi (hset) ?_ | refine qs (hset) ?_ | refine qt (hset) ?_ | refine qb (hset) ?_ | refine qm (hset) ?_ | refine q1 (hset) ?_ | rw [hset]
          refine trx_cons (.lift ?_)
          refine tr_aug K.toOkW (by ks_step "has") (by ks_step "kind") ?_
          refine ev_int (op_iadd (qi (hc1 _) ⟨_, by ks_step "upd", ?_⟩))
          show TrX _ _ _ _ _ _
          refine trx_cons ?_
          refine (skip_walk (ns := ac) (x := a) K.toOkW hro (.inl K.handled) (fun k => [(Str.ofString "expected", dInts ex), (Str.ofString "actual", dInts ac), (Str.ofString "i", .int (i : Int)), (Str.ofString "j", .int (k : Int)), (Str.ofString "missing", .ref 0), (Str.ofString "unexpected", .ref 1), (Str.ofString "e", .int e), (Str.ofString "a", .int a)])
            (fun k => by ks_step "has") (fun k => by ks_step "has") (fun k => by ks_step "has") (fun k => by rw [hc1]; ks_step "upd") (by ks_step "kind") (by omega) (j + 1) (by omega)).mono ?_ ?_
          · rintro _ _ _ ⟨k', rfl, rfl, rfl, h1, h2, h3⟩
            show TrX _ _ _ _ _ _
            refine trx_nil ?_
            show TrX _ _ _ _ _ _
            refine trx_nil ?_
            show TrX _ _ _ _ _ _
            refine trx_nil ⟨i, k', mi, un ++ [a], _, by ks_step "sub", hi, Nat.le_of_lt h2, sd_m2 h1 h2, hmi, sd_b hun h1 (Nat.le_of_lt h2), ?_⟩
            rw [← hr, h3, hde]
            conv => rhs; rw [sldL_c]
            rw [if_neg hlt, if_pos hgt]
          · rintro _ _ _ ⟨rfl, rfl, h3, _⟩
            refine ⟨i, ac.length, mi, un ++ [a], _, _, by ks_step "sub", hi, Nat.le_refl _, hmi, sd_b hun hlj (Nat.le_refl _), ?_⟩
            rw [← hr, sldL_c, if_neg hlt, if_pos hgt, h3, hde, sldL_r]
            simp
        · refine ite_n (by simpa using hgt) ?_
          refine trx_cons (.lift ?_)
          refine tr_aug K.toOkW (by ks_step "has") (by ks_step "kind") ?_
          refine ev_int (op_iadd (qi (hc1 _) ⟨_, by ks_step "upd", ?_⟩))
          show TrX _ _ _ _ _ _
          have hrr : sldL ((ex.drop (i + 1)).dropWhile (· == e)) ((ac.drop (j + 1)).dropWhile (· == a)) mi un = res := by
            rw [← hr]
            conv => rhs; rw [sldL_c]
            rw [if_neg hlt, if_neg hgt]
          refine trx_cons ?_
          refine trx_try_finally K.toOkW hro ?_
          refine trx_cons ?_
          refine (skip_walk (ns := ex) (x := e) K.toOkW hro (.inl K.handled) (fun k => [(Str.ofString "expected", dInts ex), (Str.ofString "actual", dInts ac), (Str.ofString "i", .int (k : Int)), (Str.ofString "j", .int (j : Int)), (Str.ofString "missing", .ref 0), (Str.ofString "unexpected", .ref 1), (Str.ofString "e", .int e), (Str.ofString "a", .int a)])
            (fun k => by ks_step "has") (fun k => by ks_step "has") (fun k => by ks_step "has") (fun k => by rw [hc1]; ks_step "upd") (by ks_step "kind") (by omega) (i + 1) (by omega)).mono ?_ ?_
          · rintro _ _ _ ⟨k', rfl, rfl, rfl, h1, h2, h3⟩
            show TrX _ _ _ _ _ _
            refine trx_nil ⟨rfl, ?_⟩
            refine trx_cons (.lift ?_)
            refine tr_aug K.toOkW (by ks_step "has") (by ks_step "kind") ?_
            refine ev_int (op_iadd (qi (hc1 _) ⟨_, by ks_step "upd", ?_⟩))
            show TrX _ _ _ _ _ _
            refine trx_cons ?_
            refine (skip_walk (ns := ac) (x := a) K.toOkW hro (.inl K.handled) (fun k => [(Str.ofString "expected", dInts ex), (Str.ofString "actual", dInts ac), (Str.ofString "i", .int (k' : Int)), (Str.ofString "j", .int (k : Int)), (Str.ofString "missing", .ref 0), (Str.ofString "unexpected", .ref 1), (Str.ofString "e", .int e), (Str.ofString "a", .int a)])
              (fun k => by ks_step "has") (fun k => by ks_step "has") (fun k => by ks_step "has") (fun k => by rw [hc1]; ks_step "upd") (by ks_step "kind") (by omega) (j + 1) (by omega)).mono ?_ ?_
            · rintro _ _ _ ⟨k2, rfl, rfl, rfl, g1, g2, g3⟩
              show TrX _ _ _ _ _ _
              refine trx_nil ⟨rfl, ?_⟩
              show TrX _ _ _ _ _ _
              refine trx_nil ?_
              show TrX _ _ _ _ _ _
              refine trx_nil ?_
              show TrX _ _ _ _ _ _
              refine trx_nil ⟨k', k2, mi, un, _, by ks_step "sub", Nat.le_of_lt h2, Nat.le_of_lt g2, sd_m3 h1 h2 g1, sd_c hmi h1, sd_c hun g1, ?_⟩
              rw [h3, g3]; exact hrr
            · rintro _ _ _ ⟨rfl, rfl, g3, _⟩
              refine ⟨k', ac.length, mi, un, _, _, by ks_step "sub", Nat.le_of_lt h2, Nat.le_refl _, sd_c hmi h1, sd_c hun hlj, ?_⟩
              rw [← hrr, g3, sldL_r, h3]; simp
          · rintro ctx _ _ ⟨rfl, rfl, h3, hctx⟩
            refine ⟨hctx K.handled, fun cm M => ?_⟩
            have hscm := (congrArg Env.scope M.env).trans hsc
            have hrm : cm.ro = false := M.ro.trans hro
            have KM := M.ok
            refine trx_cons (.lift ?_)
            refine tr_aug KM (by ks_step "has") (by ks_step "kind") ?_
            refine ev_int (op_iadd (qi (hc1 _) ⟨_, by ks_step "upd", ?_⟩))
            show TrX _ _ _ _ _ _
            refine trx_cons ?_
            refine (skip_walk (ns := ac) (x := a) KM hrm M.hands (fun k => [(Str.ofString "expected", dInts ex), (Str.ofString "actual", dInts ac), (Str.ofString "i", .int (ex.length : Int)), (Str.ofString "j", .int (k : Int)), (Str.ofString "missing", .ref 0), (Str.ofString "unexpected", .ref 1), (Str.ofString "e", .int e), (Str.ofString "a", .int a)])
              (fun k => by ks_step "has") (fun k => by ks_step "has") (fun k => by ks_step "has") (fun k => by rw [hc1]; ks_step "upd") (by ks_step "kind") (by omega) (j + 1) (by omega)).mono ?_ ?_
            · rintro _ _ _ ⟨k2, rfl, rfl, rfl, g1, g2, g3⟩
              show TrX _ _ _ _ _ _
              refine trx_nil ⟨rfl, ex.length, k2, mi, un, _, _, by ks_step "sub", Nat.le_refl _, Nat.le_of_lt g2, sd_c hmi hli, sd_c hun g1, ?_⟩
              rw [← hrr, h3, sldL_l, ← g3]; simp
            · rintro _ _ _ ⟨rfl, rfl, g3, _⟩
              refine ⟨ex.length, ac.length, mi, un, _, _, by ks_step "sub", Nat.le_refl _, Nat.le_refl _, sd_c hmi hli, sd_c hun hlj, ?_⟩
              rw [← hrr, g3, sldL_r, h3]; simp
end -- QDiff2

section -- QRed
section
variable {c : Cx} {σ σ' : List (Str × D)} {μ : List MO} {P : Facts} {φ : List Addr} {s : Shared} {mg mb : Str → Option Value} {Q : D → List MO → Prop}

theorem op_iter {ds : List D} (h : Q (.ref μ.length) (μ ++ [.itr ds 0])) : OpT c σ μ [.lst ds] (fun vs => call (.builtin "iter") vs) Q :=
  fun P φ s vs I rs => by
    (have hx := rs.inv; clear rs; obtain ⟨_, _, rfl, r, rs⟩ := hx)
    · (first | obtain rfl := rs.inv | obtain ⟨_, rfl⟩ := rs.inv); obtain ⟨ax, o, vs, n, rfl, hP, hc, hdat, hrs⟩ := r.inv
      refine PySem.Calls.call_function_entry (by decide +kernel) (by decide +kernel) kdk_entry_iter (kdk_args_iter _) ?_
      unfold Builtin.«iter»
      refine wpAny_bind (m := someArgs "iter" 1 2 _) (wpAny_of_eq (a := [Value.ref ax]) (by first | rfl | kernel_rfl!) ?_)
      show wpAny _ _ (pyIter (.ref ax) >>= _) _ _ _
      refine wpAny_bind (wpAny_pyIter_list ⟨o, I.fz _ _ hP, hc, n, hdat⟩ ?_)
      have J := I.pushMu (o := { cls := .type "list_iterator", data := .fields #[.ref ax, .int 0 0] }) (m := .itr ds 0) (.itr rfl rfl hP hc hdat hrs) rfl s.toks
      exact wpAny_pure ⟨_, rfl, _, _, P, _, Le.rfl, List.prefix_append _ _, .ref (by rw [List.getElem?_append_right (by rw [I.len]; exact Nat.le_refl _), I.len]; simp), J, h⟩

theorem op_next {k : Nat} {ds : List D} {i : Nat} {d : D} (hk : μ[k]? = some (.itr ds i)) (hd : ds[i]? = some d) (h : Q d (μ.set k (.itr ds (i + 1)))) : OpT c σ μ [.ref k] (fun vs => call (.builtin "next") vs) Q :=
  fun P φ s vs I rs => by
    (have hx := rs.inv; clear rs; obtain ⟨_, _, rfl, r, rs⟩ := hx)
    · (first | obtain rfl := rs.inv | obtain ⟨_, rfl⟩ := rs.inv); obtain ⟨ad, rfl, hφ⟩ := r.inv
      obtain ⟨o, ho, hm⟩ := I.mu _ _ _ hφ hk
      cases hm with
      | @itr _ oax ax vs n _ _ h1 h2 h3 h4 h5 h6 =>
        have hit : s.heap.IsListIter ad ax i := ⟨o, ho, h1, h2⟩
        obtain ⟨x, hx, hr⟩ := h6.get hd
        have hx' : vs[i]? = some x := by simpa using hx
        refine PySem.Calls.call_function_entry (by decide +kernel) (by decide +kernel) kdk_entry_next (kdk_args_next _) ?_
        unfold Builtin.«next»
        refine wpAny_bind (m := someArgs "next" 1 2 _) (wpAny_of_eq (a := [Value.ref ad]) (by first | rfl | kernel_rfl!) ?_)
        dsimp only
        refine wpAny_bind (wpAny_specialOf (name := Str.ofString "__next__") hit.typeIs slot_listiter_next.lookup ?_)
        refine wpAny_ite_split (fun hab => absurd hab (by decide)) (fun _ => ?_)
        refine wpAny_bind (wpAny_callSpecial?_slot (name := Str.ofString "__next__") hit.typeIs slot_listiter_next
          (wpAny_call_entry slot_listiter_next hit.typeIs entry_listiter_next ?_ (args_listiter_next _)))
        show wpAny _ _ (field (.ref ad) 0 >>= _) _ _ s
        refine wpAny_bind (wpAny_field ho h2 (x := .ref ax) rfl ?_)
        show wpAny _ _ (if (Value.ref ax == Value.none) = true then _ else _) _ _ s
        rw [if_neg (show ¬ ((Value.ref ax == Value.none) = true) from Bool.false_ne_true)]
        show wpAny _ _ (field (.ref ad) 1 >>= _) _ _ s
        refine wpAny_bind (wpAny_field ho h2 (x := .int i 0) rfl ?_)
        show wpAny _ _ (seqItems? (.ref ax) >>= _) _ _ s
        refine wpAny_bind (wpAny_seqItems (I.fz _ _ h3) h5 ?_)
        simp only [Int.toNat_natCast, hx']
        have ho' := Heap.get?_update_self (Obj.mapFields (·.setIfInBounds 1 (rawInt ((i : Int) + 1)))) ho (Obj.isFreed_of_fields (Obj.data_mapFields h2 _))
        have J := I.setMu (t := s.toks) (m := .itr ds (i + 1)) hφ (Heap.SameBut.update ..) ho' (.itr ((Obj.cls_mapFields ..).trans h1) (by rw [Obj.data_mapFields h2]; simp [rawInt]) h3 h4 h5 h6)
        exact wpAny_bind (wpAny_setField ho h2 (by simp) (wpAny_pure ⟨x, rfl, wpAny_pure ⟨_, rfl, _, _, P, φ, Le.rfl, List.prefix_refl _, hr, J, h⟩⟩))

theorem Walks.shift {prog : Program} {w : World} {A : Around} {I : Addr} {fp wr : List Addr} {n : Nat} {Pv : Nat → Value → Prop} {St : Nat → Heap → Prop} (W : PySem.Walks prog w A I fp wr n Pv St) (i : Nat) (hi : i ≤ n) :
    PySem.Walks prog w A I fp wr (n - i) (fun j v => Pv (i + j) v) (fun j h => St (i + j) h) where
  sub := W.sub
  frame := fun j h h' st k => W.frame _ h h' st k
  item := fun j s Q E hj st hQ => W.item (i + j) s Q E (by omega) st fun v h' tk hv hs => hQ v h' tk hv (by rw [show i + (j + 1) = i + j + 1 by omega]; exact hs)
  done := fun s Q E st hQ => W.done s Q E (by rw [show i + (n - i) = n by omega] at st; exact st) hQ
  self := fun j s Q E st hQ => W.self (i + j) s Q E st hQ

/-- for x in an iterator that was begun -/
theorem tr_for_itr {x it : Str} {px p pos : Pos} {body : List Stmt} {ds : List D} {i : Nat} {Q : Fl → List (Str × D) → List MO → Prop} (K : c.Ok mg mb) (hit : (it, D.ref 0) ∈ σ) (σ₀ : List (Str × D)) (hσ : ∀ p ∈ σ₀, p ∈ σ ∧ D.pure p.2 = true)
    (hi : i ≤ ds.length) (hds : Ds.pure ds = true) (hF : ForT c (.Name x px) (execs body c.env) Q (ds.drop i) σ₀ [])
    (hs : ∀ x, foldedSetIterable (.Name it p) c.env x = pure x := by intro _; rfl) : TrT c σ [.itr ds i] (exec (.For (.Name x px) (.Name it p) body [] pos) c.env) Q :=
  fun P φ s I => wpAny_For ((ev_name (Q := fun d μ' => d = .ref 0 ∧ μ' = [.itr ds i]) K.toOkW hit ⟨rfl, rfl⟩).at I fun v s₁ d μ₁ P₁ φ₁ l₁ f₁ r₁ I₁ ⟨hd, hμ⟩ => by
    subst hd hμ
    obtain ⟨ad, rfl, hφ⟩ := r₁.inv
    obtain ⟨o, ho, hm⟩ := I₁.mu _ _ _ hφ rfl
    have hlen1 := I₁.len
    have hφ1 : φ₁ = [ad] := by
      match φ₁, hlen1, hφ with
      | [a], _, h => cases h; rfl
    subst hφ1
    cases hm with
    | @itr _ oax ax vs n _ _ h1 h2 h3 h4 h5 h6 =>
      have hit : s₁.heap.IsListIter ad ax i := ⟨o, ho, h1, h2⟩
      refine wpAny_pyIter_listiter hit ?_
      have hown : ad ∈ own c [ad] := List.mem_append_right _ (List.mem_cons_self ..)
      have hnd := List.nodup_append.mp I₁.nd
      have J : Inv c σ₀ [] P₁ [] s₁ := ⟨I₁.fz, I₁.base, I₁.src, I₁.gens, I₁.os, I₁.ns, I₁.cells, fun y e hy => by
          obtain ⟨hy1, hy2⟩ := hσ _ hy
          obtain ⟨v, H, r⟩ := I₁.vars _ _ hy1
          exact ⟨v, H, r.pure hy2⟩, rfl, fun k a m h => by simp at h, by simpa using hnd.1, fun a ha => I₁.apart a (List.mem_append_left _ (by simpa using ha)), fun a ha => I₁.apart₀ a (List.mem_append_left _ (by simpa using ha)), I₁.lt⟩
      have hlen : vs.size = ds.length := by have := h6.length; simpa using this
      have hax : ax ≠ ad := fun e => I₁.apart ad hown _ (e ▸ h3)
      have hl : s₁.heap.IsList ax vs := ⟨oax, I₁.fz _ _ h3, h4, n, h5⟩
      have W := Walks.shift (PySem.Walks.list (prog := c.prog) (w := c.w) K.handled ad ax hax vs) i (by omega)
      rw [show vs.size - i = (ds.drop i).length by simp [hlen]] at W
      refine forLoop_walk K W (fun j h st => inert_listiter st.1) (fun j s v Q E st hq => wpAny_pure hq) (fun b hb => ?_) (fun j v d hv hd => ?_) (I₁.apart₀ _ hown) (fun f s' hf => ?_) J ⟨hit, hl⟩
        (fun h => ?_) (fun o => I₁.apart _ hown o) hF
      · simp at hb
        rcases hb with rfl | rfl
        · exact .inl rfl
        · exact .inr ⟨oax, h3⟩
      · rw [List.getElem?_drop] at hd
        obtain ⟨v', hv', r⟩ := h6.get hd
        have : v = v' := by
          have e : vs.toList[i + j]? = some v := by simpa using hv
          rw [hv'] at e; cases e; rfl
        subst this
        exact r.pure (ds_pure_get _ _ _ hds hd)
      · obtain ⟨fl, σ', μ', P', φ', l, r, I', q⟩ := hf
        exact ⟨fl, σ', μ', P', φ', l₁.trans l, r, I', q⟩
      · exact hnd.2.2 ad (by simpa [own] using h) ad (List.mem_cons_self ..) rfl) hs

/-- a try whose suite comes to its end -/
theorem tr_try {body : List Stmt} {h₀ : ExceptHandler} {hs : List ExceptHandler} {pos : Pos} {Q : Fl → List (Str × D) → List MO → Prop} (h : TrT c σ μ (execs body c.env) (fun fl σ' μ' => fl = .next ∧ Q .next σ' μ')) :
    TrT c σ μ (exec (.Try body (h₀ :: hs) [] [] pos) c.env) Q :=
  fun P φ s I => wpAny_Try_except (h.at I fun f s' fl σ' μ' P' φ' l r I' ⟨e, q⟩ => by
    subst e; (first | obtain rfl := r.inv | obtain ⟨_, rfl⟩ := r.inv)
    exact wpAny_execs_nil ⟨.next, σ', μ', P', φ', l, .next, I', q⟩)

theorem op_is_self {a : Addr} (h : Q (.bool true) μ) : OpT c σ μ [.opq (.ref a), .opq (.ref a)] (op2 (compareOp .Is)) Q :=
  op2_of fun P φ s v w I r1 r2 => by (first | obtain rfl := r1.inv | obtain ⟨_, rfl⟩ := r1.inv); (first | obtain rfl := r2.inv | obtain ⟨_, rfl⟩ := r2.inv); exact wpAny_is_ref_self (fin_same I (.bool _) h)
theorem op_is_lst {a : Addr} {ds : List D} (hm : IsMiss a c.h₀) (h : Q (.bool false) μ) : OpT c σ μ [.lst ds, .opq (.ref a)] (op2 (compareOp .Is)) Q :=
  op2_of fun P φ s v w I r1 r2 => by
    (first | obtain rfl := r2.inv | obtain ⟨_, rfl⟩ := r2.inv)
    obtain ⟨ax, o, vs, n, rfl, hP, hc, hdat, hrs⟩ := r1.inv
    obtain ⟨oi, h1, h2⟩ := hm
    obtain ⟨oi', h3, h4⟩ := I.base.data h1
    have hne : ax ≠ a := fun e => by
      have := I.fz _ _ hP
      rw [e, h3] at this; cases this
      rw [h4, h2] at hdat; cases hdat
    exact kto_is (I.fz _ _ hP) h3 hne (by rw [hc]; decide) (fin_same I (.bool _) h)

/-- a call of a def that a variable holds -/
theorem ev_vcall {f : Str} {i n : Nat} {p pos : Pos} {e : Expr} {args : List Expr} {a : Addr} (K : c.Ok mg mb) (hn : n ≤ c.n) (hf : (f, D.opq (.ref a)) ∈ σ) (hF : IsFn c.h₀ a (defAt i)) (hs : notStar e = true)
    (h : EvsT c σ μ (spliced (backTo pos (starEach (e :: args) c.env))) (kCon c mg mb n (defAt i) Q)) :
    EvT c σ μ (eval (.Call (.Name f p) (e :: args) [] pos) c.env) Q :=
  ev_call_def K hn (ev_name K.toOkW hf ⟨a, rfl, hF, h⟩) name_call (star_of hs)
end
end -- QRed

section -- QRed2
theorem reduce_walk {c : Cx} {mg mb : Str → Option Value} (K : c.Ok mg mb) (hsc : c.env.scope = (defAt 3).scope) {im fa : Addr} {i n : Nat} (hn : n ≤ c.n) (him : mg (Str.ofString "_initial_missing") = some (.ref im)) (hmiss : IsMiss im c.h₀) (hF : IsFn c.h₀ fa (defAt i))
    {α β : Type} (gα : α → D) (gβ : β → D) (f : α → β → α) (Ok : α → Prop) (hpα : ∀ a, D.pure (gα a) = true) (hpβ : ∀ b, D.pure (gβ b) = true) (l : List β) (hl : l.length ≤ 100)
    (hstep : ∀ a, Ok a → ∀ b ∈ l, Con c.prog c.w mg mb n (defAt i) [gα a, gβ b] (fun r => r = gα (f a b)) ∧ Ok (f a b)) (ini : D) (hini : D.pure ini = true) (res : α)
    (hcase : (∃ a es, Ok a ∧ ini = .lst es ∧ gα a = ini ∧ res = l.foldl f a) ∨ (ini = .opq (.ref im) ∧ ∃ b r a, l = b :: r ∧ Ok a ∧ gα a = gβ b ∧ res = r.foldl f a)) :
    TrT c [(Str.ofString "function", .opq (.ref fa)), (Str.ofString "sequence", .lst (l.map gβ)), (Str.ofString "initial", ini)] [] (execs (defAt 3).body c.env) (fun fl _ _ => fl = .ret (gα res)) := by
  conv at hsc => rhs; whnf
  have hpl : Ds.pure (l.map gβ) = true := pure_bools _ hpβ _
  refine tr_cons ?_
  repeat (ks_step "op")
  refine op_iter ?_
  iterate 3 (ks_step "op")
  refine TrT.mono (Q := fun fl σ' μ' => ∃ a j, fl = .next ∧ Ok a ∧ j ≤ l.length ∧ res = (l.drop j).foldl f a ∧
    σ' = [(Str.ofString "function", .opq (.ref fa)), (Str.ofString "sequence", .lst (l.map gβ)), (Str.ofString "initial", ini), (Str.ofString "it", .ref 0), (Str.ofString "value", gα a)] ∧ μ' = [.itr (l.map gβ) j]) ?first ?rest
  case first =>
    repeat (ks_step "op")
    refine ev_global K (by ks_step "kind") him ?_
    rcases hcase with ⟨a, es, ha, rfl, hga, hres⟩ | ⟨rfl, b, r, a, rfl, ha, hga, hres⟩
    · refine op_is_lst hmiss ?_
      repeat (ks_step "op")
      refine ite_f rfl ?_
      repeat (ks_step "op")
      refine tr_nil ?_
      exact ⟨a, 0, rfl, ha, Nat.zero_le _, hres, by rw [hga]; rfl, rfl⟩
    · refine op_is_self ?_
      repeat (ks_step "op")
      refine ite_t rfl ?_
      repeat (ks_step "op")
      refine tr_try ?_
      repeat (ks_step "op")
      refine op_next (i := 0) (d := gβ b) rfl rfl ?_
      repeat (ks_step "op")
      refine tr_nil ?_
      refine ⟨rfl, ?_⟩
      repeat (ks_step "op")
      refine tr_nil ?_
      exact ⟨a, 1, rfl, ha, by simp, hres, by rw [hga]; rfl, rfl⟩
  rintro _ _ _ ⟨a, j, rfl, ha, hj, rfl, rfl, rfl⟩
  repeat (ks_step "op")
  refine tr_for_itr K (by ks_step "has") [(Str.ofString "function", .opq (.ref fa)), (Str.ofString "sequence", .lst (l.map gβ)), (Str.ofString "initial", ini), (Str.ofString "value", gα a)] ?_ (by simpa using hj) hpl ?_
  · intro p hp
    simp only [List.mem_cons, List.not_mem_nil, or_false] at hp ⊢
    rcases hp with rfl | rfl | rfl | rfl
    · exact ⟨.inl rfl, rfl⟩
    · exact ⟨.inr (.inl rfl), hpl⟩
    · exact ⟨.inr (.inr (.inl rfl)), hini⟩
    · exact ⟨.inr (.inr (.inr (.inr rfl))), hpα a⟩
  rw [← List.map_drop]
  have hmem : ∀ b ∈ l.drop j, b ∈ l := fun b hb => List.mem_of_mem_drop hb
  generalize l.drop j = r at hmem
  clear hcase
  generalize D.lst (l.map gβ) = D0
  induction r generalizing a with
  | nil =>
    simp only [List.map_nil]
    unfold ForT
    repeat (ks_step "op")
    rfl
  | cons b r ih =>
    simp only [List.map_cons]
    unfold ForT
    refine asg_name K (by ks_step "kind") (by ks_step "upd") ?_
    repeat (ks_step "op")
    obtain ⟨hcon, hok⟩ := hstep a ha b (hmem b (List.mem_cons_self ..))
    refine ev_vcall K hn (by ks_step "has") hF rfl ?_
    repeat (ks_step "op")
    refine ⟨by simp only [Ds.pure, hpα, hpβ, Bool.and_self], hcon.mono fun e he => ?_⟩
    subst he
    refine ⟨hpα _, ?_⟩
    repeat (ks_step "op")
    refine tr_nilT 4 ?_
    simp only [List.take_succ_cons, List.take_zero]
    refine loop_next ?_
    exact ih (f a b) hok (fun b hb => hmem b (List.mem_cons_of_mem _ hb))

/-- the contract of reduce -/
noncomputable def RCon (prog : Program) (w : World) (mg mb : Str → Option Value) (n : Nat) (im : Addr) (ds : List D) (Q : D → Prop) : Prop :=
  ∀ (A : Around) (s : Shared) (a : Addr) (vs : List Value) (P : Facts), Base mg mb s.heap → IsRed im s.heap a (defAt 3) → IsMiss im s.heap → AllBare s.gens → A.depth + n < 1000 → A.units + 20 * n < 9900 → A.handled = none → FrOk A s.heap P →
    (∀ a o, P a o → s.heap.get? a = some o) → Rs P [] vs ds →
    codeAny (model prog w) A (.call (.ref a) ⟨vs, []⟩) (PC A s P Q) s

theorem sc3_kind : ∀ x ∈ [Str.ofString "function", Str.ofString "sequence", Str.ofString "initial"], (defAt 3).scope.names.lookup x = some .local ∨ (defAt 3).scope.names.lookup x = some .cell := by decide +kernel
theorem sc3_nm : ((defAt 3).scope.names.all fun p => !(p.1 == ("__debug__" : Str)) && !(p.1 == ("__classdict__" : Str))) = true := by decide +kernel
theorem sc3_cn : ((cellsFrom 0 (defAt 3).scope.names []).map (·.1)).Nodup := by decide +kernel
theorem sc3_co : (defAt 3).scope.isCoroutine = false := by kernel_rfl
theorem sc3_gen : (defAt 3).scope.isGenerator = false := by kernel_rfl
theorem sc3_k : (defAt 3).scope.kind = .function := by kernel_rfl

theorem reduce_con3 {prog : Program} {w : World} {mg mb : Str → Option Value} {im fa : Addr} {i n : Nat} (him : mg (Str.ofString "_initial_missing") = some (.ref im)) (hfa : mg (defAt i).name = some (.ref fa)) {k : Nat} (hi : (recsOf PySem.Challenge.pw_in0050_01)[k]? = some (defAt i))
    {α β : Type} (gα : α → D) (gβ : β → D) (f : α → β → α) (Ok : α → Prop) (hpα : ∀ a, D.pure (gα a) = true) (hpβ : ∀ b, D.pure (gβ b) = true) (l : List β) (hl : l.length ≤ 100)
    (hstep : ∀ a, Ok a → ∀ b ∈ l, Con prog w mg mb n (defAt i) [gα a, gβ b] (fun r => r = gα (f a b)) ∧ Ok (f a b)) (a : α) (ha : Ok a) (es : List D) (hes : gα a = .lst es) :
    RCon prog w mg mb (n + 1) im [.opq (.ref fa), .lst (l.map gβ), gα a] (fun e => e = gα (l.foldl f a)) := fun A s ra vs P B F M hg hd hu hh hfr hp hr => by
  obtain ⟨o, pm, code, doc, dt, od, nd, ho, hdat, hcd, hod, hods⟩ := F
  obtain ⟨v1, v2, v3, rfl⟩ := len3 (show vs.length = 3 from hr.length)
  refine call_intro (fd := { Calls.docDef (defAt 3).name (defAt 3).params (defAt 3).body (defAt 3).scope pm code doc with defaults := .ref dt }) (vs := [v1, v2, v3]) (xs := [Str.ofString "function", Str.ofString "sequence", Str.ofString "initial"]) B ho hdat hcd rfl rfl rfl rfl ?_ rfl (by decide +kernel) hg hd hu hh hfr hp hr
    sc3_kind sc3_nm sc3_cn sc3_co sc3_gen sc3_k (fun c h1 h2 h3 h4 _ K => ?_)
  · intro A Q E h
    exact BindsTo.of_defaults (T := dt) (items := #[.ref im]) (o := od) rfl hod hods rfl rfl _ A E Q h
  · obtain ⟨fa', hfa', hF⟩ := K.base.fn _ (List.mem_of_getElem? hi)
    rw [hfa] at hfa'; cases hfa'
    obtain ⟨ra', im', h5, h6, h7, h8⟩ := K.base.red
    rw [him] at h6; cases h6
    subst h1 h2
    exact (reduce_walk K h3 (Nat.le_of_eq h4.symm) him h8 hF gα gβ f Ok hpα hpβ l hl hstep (gα a) (hpα a) (l.foldl f a) (.inl ⟨a, es, ha, hes, rfl, rfl⟩)).mono fun fl σ' μ' h => ⟨_, _, .inl h, .pure (hpα _), rfl⟩

theorem reduce_con2 {prog : Program} {w : World} {mg mb : Str → Option Value} {im fa : Addr} {i n : Nat} (him : mg (Str.ofString "_initial_missing") = some (.ref im)) (hfa : mg (defAt i).name = some (.ref fa)) {k : Nat} (hi : (recsOf PySem.Challenge.pw_in0050_01)[k]? = some (defAt i))
    {α : Type} (gα : α → D) (f : α → α → α) (Ok : α → Prop) (hpα : ∀ a, D.pure (gα a) = true) (b : α) (l : List α) (hl : (b :: l).length ≤ 100)
    (hstep : ∀ a, Ok a → ∀ x ∈ b :: l, Con prog w mg mb n (defAt i) [gα a, gα x] (fun r => r = gα (f a x)) ∧ Ok (f a x)) (ha : Ok b) :
    RCon prog w mg mb (n + 1) im [.opq (.ref fa), .lst ((b :: l).map gα)] (fun e => e = gα (l.foldl f b)) := fun A s ra vs P B F M hg hd hu hh hfr hp hr => by
  obtain ⟨o, pm, code, doc, dt, od, nd, ho, hdat, hcd, hod, hods⟩ := F
  obtain ⟨v1, v2, rfl⟩ := len2 (show vs.length = 2 from hr.length)
  have hr' : Rs P [] [v1, v2, .ref im] ([.opq (.ref fa), .lst ((b :: l).map gα)] ++ [.opq (.ref im)]) := hr.snoc (.opq _)
  refine call_intro (fd := { Calls.docDef (defAt 3).name (defAt 3).params (defAt 3).body (defAt 3).scope pm code doc with defaults := .ref dt }) (vs := [v1, v2, .ref im]) (xs := [Str.ofString "function", Str.ofString "sequence", Str.ofString "initial"]) B ho hdat hcd rfl rfl rfl rfl ?_ rfl (by decide +kernel) hg hd hu hh hfr hp hr'
    sc3_kind sc3_nm sc3_cn sc3_co sc3_gen sc3_k (fun c h1 h2 h3 h4 _ K => ?_)
  · intro A Q E h
    exact BindsTo.of_defaults (T := dt) (items := #[.ref im]) (o := od) rfl hod hods rfl rfl _ A E Q h
  · obtain ⟨fa', hfa', hF⟩ := K.base.fn _ (List.mem_of_getElem? hi)
    rw [hfa] at hfa'; cases hfa'
    obtain ⟨ra', im', h5, h6, h7, h8⟩ := K.base.red
    rw [him] at h6; cases h6
    subst h1 h2
    exact (reduce_walk K h3 (Nat.le_of_eq h4.symm) him h8 hF gα gα f Ok hpα hpα (b :: l) hl hstep (.opq (.ref im)) rfl (l.foldl f b) (.inr ⟨rfl, b, l, b, rfl, ha, rfl, rfl⟩)).mono fun fl σ' μ' h => ⟨_, _, .inl h, .pure (hpα _), rfl⟩
end -- QRed2

section -- QRed3
section
variable {c : Cx} {σ σ' : List (Str × D)} {μ : List MO} {P : Facts} {φ : List Addr} {s : Shared} {mg mb : Str → Option Value} {Q : D → List MO → Prop}

theorem frok_of (K : c.Ok mg mb) (I : Inv c σ μ P φ s) : FrOk c.A s.heap P := by
  obtain ⟨outer, e, ho⟩ := K.fr
  have hout : ∀ env ∈ outer, env.scope.kind ≠ .module ∧ ∃ L, env.frame = some L ∧ (∃ o es ep, s.heap.get? L = some o ∧ o.data = .dict es ep ∧ StrKeys es) ∧ ∀ o, ¬ P L o := fun env he => by
    obtain ⟨h1, L, hL, h2⟩ := ho env he
    obtain ⟨⟨o', es, ep, e1, d, kd⟩, hP⟩ := K.upOk L hL
    obtain ⟨o'', e2, d2⟩ := I.base.data e1
    refine ⟨h1, L, h2, ⟨o'', es, ep, e2, d2.trans d, kd⟩, fun o3 h3 => ?_⟩
    rcases I.src L o3 h3 with q | q
    · exact hP o3 q
    · rw [e1] at q; cases q
  refine ⟨_, e, fun env he => ?_⟩
  by_cases hro : c.ro = true
  · rw [if_pos hro] at he; exact hout env he
  · rw [if_neg hro] at he
    rcases List.mem_cons.mp he with rfl | he
    · obtain ⟨m, o', es, ep, e1, d, kd, _⟩ := I.ns
      exact ⟨by rw [K.kind]; decide, _, K.fl (by simpa using hro), ⟨o', es, ep, e1, d, kd⟩, I.apart _ (List.mem_cons_self ..)⟩
    · exact hout env he

/-- a call of reduce -/
theorem ev_rcall {e : Expr} {args : List Expr} {p pos : Pos} {n : Nat} (K : c.Ok mg mb) (hn : n ≤ c.n) (hk : c.env.kindOf (Str.ofString "reduce") = some .globalImplicit) (hs : notStar e = true)
    (h : ∀ im, mg (Str.ofString "_initial_missing") = some (.ref im) → EvsT c σ μ (spliced (backTo pos (starEach (e :: args) c.env))) (fun ds μ₂ => Ds.pure ds = true ∧ RCon c.prog c.w mg mb n im ds (fun r => D.pure r = true ∧ Q r μ₂))) :
    EvT c σ μ (eval (.Call (.Name (Str.ofString "reduce") p) (e :: args) [] pos) c.env) Q := by
  obtain ⟨a, im, hra, him, hF, hM⟩ := K.base.red
  have hev : EvT c σ μ (eval (.Name (Str.ofString "reduce") p) c.env) (fun d μ' => d = .opq (.ref a) ∧ μ' = μ) := ev_global K hk hra ⟨rfl, rfl⟩
  exact fun P φ s I => Call_ (hev.at I fun v s₁ d' μ₁ P₁ φ₁ l₁ f₁ r₁ I₁ ⟨hd, hμ⟩ => by
    subst hd hμ; (first | obtain rfl := r₁.inv | obtain ⟨_, rfl⟩ := r₁.inv)
    obtain ⟨o, pm, code, doc, dt, od, nd, ho, hdat, hcd, hod, hods⟩ := id hF
    have hup : ∀ L ∈ c.up, ∃ o, c.h₀.get? L = some o := fun L hL => let ⟨⟨o, _, _, e, _, _⟩, _⟩ := K.upOk L hL; ⟨o, e⟩
    have hna : a ∉ c.up := fun hm => by
      obtain ⟨⟨o', es, ep, e, d, _⟩, _⟩ := K.upOk a hm
      rw [ho] at e; cases e; rw [hdat] at d; cases d
    refine callWith_def hdat ((h im him).at I₁ fun vs s₂ ds μ₂ P₂ φ₂ l₂ f₂ r₂ I₂ ⟨hpure, hcon⟩ => ⟨I₂.base.out ho hna, wpAny_call ?_⟩) (star_of hs)
    obtain ⟨hF2, hM2⟩ := red_kp I₂.base ⟨hF, hM⟩
    refine codeAny_mono (hcon c.A s₂ a vs P₂ (K.base.kp I₂.base K.tabs) hF2 hM2 I₂.gens ?_ ?_ K.handled (frok_of K I₂) I₂.fz (r₂.pure hpure)) fun r s' ⟨v, e, P', h1, h2, h3, h4, h5, h6, h7, h8, h9, h10⟩ => ?_
    · have := K.depth; omega
    · have := K.units; omega
    · subst h1
      exact ⟨e, μ₂, P', φ₂, (l₁.trans l₂).trans h5, f₁.trans f₂, h8.pure h9, I₂.growK h3 h4 h2 (frs_own K) hup h5 h6 h7, h10⟩) name_call
end
end -- QRed3

section -- QBoth
theorem ress_pure' (μ : List MO) {α : Type} (f : α → D) (hf : ∀ a, D.pure (f a) = true) : ∀ l : List α, Ress μ (l.map f) (l.map f)
  | [] => .nil
  | a :: r => .cons (.pure (hf a)) (ress_pure' μ f hf r)
theorem pure_int (n : Int) : D.pure (.int n) = true := rfl
theorem pure_ints (l : List Int) : D.pure (dInts l) = true := pure_bools _ pure_int _
theorem sld_con {prog : Program} {w : World} {mg mb : Str → Option Value} (ex ac : List Int) (hex : ex.length ≤ 40) (hac : ac.length ≤ 40) :
    Con prog w mg mb 1 (defAt 12) [dInts ex, dInts ac] (fun e => e = .tup [dInts (sldL ex ac [] []).1, dInts (sldL ex ac [] []).2]) :=
  con_intro (xs := [Str.ofString "expected", Str.ofString "actual"]) (by intro pm code doc vs h; obtain ⟨v1, v2, rfl⟩ := len2 h; kernel_rfl) rfl (by decide +kernel) (by decide +kernel) (by decide +kernel) (by decide +kernel) (by kernel_rfl) (by kernel_rfl) (by kernel_rfl)
    fun c h1 h2 h3 h4 h5 K => (sld_walk K h5 h3 ex ac hex hac).mono fun fl σ' μ' ⟨h, hμ⟩ => ⟨_, _, .inl h, .tup (.cons (.ref (by rw [hμ]; rfl) (ress_pure' _ _ pure_int _)) (.cons (.ref (by rw [hμ]; rfl) (ress_pure' _ _ pure_int _)) .nil)), rfl⟩

/-- the union of two sorted rows, as _law_both makes it: sorted(one + what of the other is not in it) -/
theorem both_walk {c : Cx} {mg mb : Str → Option Value} (K : c.Ok mg mb) (hcn : c.n = 1) (hsc : c.env.scope = (defAt 24).scope) (one other : List Int) (h1 : one.length ≤ 20) (h2 : other.length ≤ 20) (hlen : (sldL one other [] []).2.length ≤ 20)
    (res : List Int) (hres : ∀ l : List Int, l.Perm (one ++ (sldL one other [] []).2) → l.Pairwise (· ≤ ·) → l = res) :
    TrT c [(Str.ofString "one", dInts one), (Str.ofString "other", dInts other)] [] (execs (defAt 24).body c.env) (fun fl _ _ => fl = .ret (dInts res)) := by
  conv at hsc => rhs; whnf
  refine tr_cons ?_
  repeat (ks_step "op")
  refine ev_fcall nm12 rec12 K (n := 1) (by omega) (by ks_step "kind") rfl ?_
  repeat (ks_step "op")
  refine ⟨by simp only [Ds.pure, pure_ints, Bool.and_self], (sld_con one other (by omega) (by omega)).mono fun e he => ?_⟩
  subst he
  refine ⟨by simp only [D.pure, Ds.pure, pure_bools D.int pure_int, Bool.and_self], ?_⟩
  refine ev_int ?_
  refine sub_tup (d := dInts (sldL one other [] []).2) ⟨by decide, by simp⟩ (by simp) rfl ?_
  refine op_addl (by simp; omega) ?_
  rw [← List.map_append]
  repeat (ks_step "op")
  refine op_sorted (by simp; omega) fun ns' hp hs => ?_
  repeat (ks_step "op")
  rw [hres ns' hp hs]

theorem both_con {prog : Program} {w : World} {mg mb : Str → Option Value} (one other : List Int) (h1 : one.length ≤ 20) (h2 : other.length ≤ 20) (hlen : (sldL one other [] []).2.length ≤ 20)
    (res : List Int) (hres : ∀ l : List Int, l.Perm (one ++ (sldL one other [] []).2) → l.Pairwise (· ≤ ·) → l = res) :
    Con prog w mg mb 2 (defAt 24) [dInts one, dInts other] (fun e => e = dInts res) :=
  con_intro (xs := [Str.ofString "one", Str.ofString "other"]) (by intro pm code doc vs h; obtain ⟨v1, v2, rfl⟩ := len2 h; kernel_rfl) rfl (by decide +kernel) (by decide +kernel) (by decide +kernel) (by decide +kernel) (by kernel_rfl) (by kernel_rfl) (by kernel_rfl)
    fun c e1 e2 e3 e4 _ K => (both_walk K e4 e3 one other h1 h2 hlen res hres).mono fun fl σ' μ' h => ⟨_, _, .inl h, .pure (pure_ints _), rfl⟩
end -- QBoth

section -- QUni
theorem dw_self {e : Int} {l : List Int} (h : (e :: l).Pairwise (· < ·)) : l.dropWhile (· == e) = l := by
  cases l with
  | nil => rfl
  | cons a r =>
    have : e < a := (List.pairwise_cons.mp h).1 a (List.mem_cons_self ..)
    rw [List.dropWhile_cons, if_neg (by simp; omega)]

theorem sldL_snd : ∀ (n : Nat) (ex ac mi un : List Int), ex.length + ac.length ≤ n → ex.Pairwise (· < ·) → ac.Pairwise (· < ·) → (sldL ex ac mi un).2 = un ++ ac.filter fun x => !ex.contains x := by
  intro n
  induction n with
  | zero =>
    intro ex ac mi un hn _ _
    have h1 : ex = [] := List.length_eq_zero_iff.mp (by omega)
    have h2 : ac = [] := List.length_eq_zero_iff.mp (by omega)
    subst h1 h2
    rw [sldL_l]; simp
  | succ n ih =>
    intro ex ac mi un hn h1 h2
    cases ex with
    | nil => rw [sldL_l]; simp [List.filter_eq_self.mpr]
    | cons e ex =>
      cases ac with
      | nil => rw [sldL_r]; simp
      | cons a ac =>
        rw [sldL_c, dw_self h1, dw_self h2]
        have p1 := List.pairwise_cons.mp h1
        have p2 := List.pairwise_cons.mp h2
        simp only [List.length_cons] at hn
        by_cases hlt : e < a
        · rw [if_pos hlt, ih ex (a :: ac) _ _ (by simp only [List.length_cons]; omega) p1.2 h2]
          congr 1
          refine List.filter_congr fun x hx => ?_
          have hne : x ≠ e := by
            rcases List.mem_cons.mp hx with rfl | hx
            · omega
            · have := p2.1 x hx; omega
          simp [List.contains_cons, hne]
        · rw [if_neg hlt]
          by_cases hgt : a < e
          · rw [if_pos hgt, ih (e :: ex) ac _ _ (by simp only [List.length_cons]; omega) h1 p2.2]
            have hna : (e :: ex).contains a = false := by
              rw [Bool.eq_false_iff]; intro hc
              rcases List.mem_cons.mp (by simpa using hc) with h | h
              · omega
              · have := p1.1 a h; omega
            rw [List.filter_cons, hna]; simp
          · have hea : e = a := by omega
            subst hea
            rw [if_neg hgt, ih ex ac _ _ (by omega) p1.2 p2.2, List.filter_cons]
            have : (!(e :: ex).contains e) = false := by simp
            rw [this]
            simp only [Bool.false_eq_true, if_false]
            congr 1
            refine List.filter_congr fun x hx => ?_
            have := p2.1 x hx
            have hne : x ≠ e := by omega
            simp [List.contains_cons, hne]

/-- a row: places in order, none twice -/
noncomputable def Can (r : List Nat) : Prop := r.Pairwise (· < ·) ∧ ∀ x ∈ r, x < 20
noncomputable def uni (a b : List Nat) : List Nat := (List.range 20).filter fun x => a.contains x || b.contains x
theorem can_range (p : Nat → Bool) : Can ((List.range 20).filter p) :=
  ⟨List.Pairwise.filter _ (List.pairwise_lt_range), fun x hx => by simp at hx; exact hx.1⟩
theorem can_uni (a b : List Nat) : Can (uni a b) := can_range _
theorem mem_uni {a b : List Nat} (ha : Can a) (hb : Can b) (x : Nat) : x ∈ uni a b ↔ x ∈ a ∨ x ∈ b := by
  simp only [uni, List.mem_filter, List.mem_range, Bool.or_eq_true, List.contains_iff_mem]
  constructor
  · exact fun h => h.2
  · rintro (h | h)
    · exact ⟨ha.2 x h, .inl h⟩
    · exact ⟨hb.2 x h, .inr h⟩
theorem inc_len : ∀ (l : List Nat) (lo hi : Nat), l.Pairwise (· < ·) → (∀ x ∈ l, lo ≤ x ∧ x < hi) → l.length ≤ hi - lo
  | [], _, _, _, _ => Nat.zero_le _
  | a :: r, lo, hi, h, hb => by
    have p := List.pairwise_cons.mp h
    have h1 := hb a (List.mem_cons_self ..)
    have := inc_len r (a + 1) hi p.2 fun x hx => ⟨p.1 x hx, (hb x (List.mem_cons_of_mem _ hx)).2⟩
    simp only [List.length_cons]; omega
theorem can_len {a : List Nat} (h : Can a) : a.length ≤ 20 := inc_len a 0 20 h.1 fun x hx => ⟨Nat.zero_le _, h.2 x hx⟩
noncomputable abbrev toI (r : List Nat) : List Int := r.map fun n : Nat => (n : Int)
theorem toI_lt {r : List Nat} (h : r.Pairwise (· < ·)) : (toI r).Pairwise (· < ·) := by
  rw [List.pairwise_map]; exact h.imp fun h => by omega
theorem dInts_toI (r : List Nat) : dInts (toI r) = dNums r := by simp [toI, Function.comp_def]

theorem both_con' {prog : Program} {w : World} {mg mb : Str → Option Value} (a b : List Nat) (ha : Can a) (hb : Can b) :
    Con prog w mg mb 2 (defAt 24) [dNums a, dNums b] (fun e => e = dNums (uni a b)) := by
  rw [← dInts_toI, ← dInts_toI, ← dInts_toI]
  have hs := sldL_snd _ (toI a) (toI b) [] [] (Nat.le_refl _) (toI_lt ha.1) (toI_lt hb.1)
  have hd : (toI b).filter (fun x => !(toI a).contains x) = toI (b.filter fun x => !a.contains x) := by
    rw [toI, List.filter_map]
    congr 1
    refine List.filter_congr fun x _ => ?_
    have : (toI a).contains (x : Int) = a.contains x := by
      rw [Bool.eq_iff_iff]
      simp only [toI, List.contains_iff_mem, List.mem_map]
      constructor
      · rintro ⟨y, hy, e⟩
        have : y = x := by omega
        exact this ▸ hy
      · exact fun h => ⟨x, h, rfl⟩
    simp only [Function.comp_def]
    rw [this]
  rw [hd, List.nil_append] at hs
  refine both_con (toI a) (toI b) (by simpa using can_len ha) (by simpa using can_len hb) (by
    rw [hs]; simp; exact Nat.le_trans (List.length_filter_le _ _) (can_len hb)) (toI (uni a b)) fun l hp hl => ?_
  rw [hs] at hp
  have hp2 : (toI (uni a b)).Perm (toI a ++ toI (b.filter fun x => !a.contains x)) := by
    rw [toI, toI, toI, ← List.map_append]
    refine List.Perm.map _ ((List.perm_ext_iff_of_nodup ((can_uni a b).1.imp fun h => Nat.ne_of_lt h) ?_).mpr fun x => ?_)
    · refine List.nodup_append.mpr ⟨ha.1.imp fun h => Nat.ne_of_lt h, (List.Pairwise.filter _ hb.1).imp fun h => Nat.ne_of_lt h, fun x hx y hy e => ?_⟩
      subst e
      have := (List.mem_filter.mp hy).2
      simp at this; exact this hx
    · rw [mem_uni ha hb]
      simp only [List.mem_append, List.mem_filter, Bool.not_eq_true', List.contains_eq_mem, decide_eq_false_iff_not]
      constructor
      · rintro (h | h)
        · exact .inl h
        · by_cases hx : x ∈ a
          · exact .inl hx
          · exact .inr ⟨h, hx⟩
      · rintro (h | h)
        · exact .inl h
        · exact .inr h.1
  exact List.Perm.eq_of_pairwise (le := (· ≤ ·)) (fun x y _ _ h1 h2 => Int.le_antisymm h1 h2) hl ((toI_lt (can_uni a b).1).imp fun h => Int.le_of_lt h) (hp.trans hp2.symm)
end -- QUni

section -- QThen
noncomputable def thenRow (second : List (List Nat)) (row : List Nat) : List Nat := (row.map fun j => second.getD j []).foldl uni []
noncomputable def thenR (first second : List (List Nat)) : List (List Nat) := first.map (thenRow second)
theorem pure_rows (r : List (List Nat)) : D.pure (dRows r) = true := by simp only [D.pure]; exact pure_bools _ pure_row _
theorem can_nil : Can [] := ⟨List.Pairwise.nil, fun x h => by cases h⟩
theorem foldl_can (l : List (List Nat)) : ∀ a, Can a → Can (l.foldl uni a) := by
  induction l with
  | nil => exact fun a h => h
  | cons b r ih => exact fun a h => ih _ (can_uni a b)
theorem filterMap_some {α β : Type} (f : α → β) (l : List α) : l.filterMap (fun a => some (f a)) = l.map f := by
  induction l with
  | nil => rfl
  | cons a r ih => simp

theorem then_walk {c : Cx} {mg mb : Str → Option Value} (K : c.Ok mg mb) (hcn : c.n = 3) (hro : c.ro = false) (hsc : c.env.scope = (defAt 25).scope) (first second : List (List Nat)) (h1 : first.length ≤ 20) (h2 : second.length ≤ 20)
    (hf : ∀ row ∈ first, row.length ≤ 20 ∧ ∀ j ∈ row, j < second.length) (hs : ∀ row ∈ second, Can row) :
    TrT c [(Str.ofString "first", dRows first), (Str.ofString "second", dRows second)] [] (execs (defAt 25).body c.env) (fun fl _ _ => fl = .ret (dRows (thenR first second))) := by
  conv at hsc => rhs; whnf
  refine tr_cons ?_
  refine tr_ret ?_
  refine ev_comp K hsc [(Str.ofString "second", dRows second)] ?hsub [Str.ofString "second"] rfl (by decide +kernel) (by decide +kernel) (by kernel_rfl) (by decide +kernel) (by kernel_rfl) (by decide +kernel) ?_
  case hsub => exact subc_cons (by ks_step "has") (pure_rows _) (by ks_step "kindc") (by kernel_rfl!) subc_nil
  refine it_lst K ?_
  repeat (ks_step "op")
  refine ⟨pure_bools _ pure_row _, List Nat, first, dRow, fun row => some (dRow (thenRow second row)), rfl, by omega, ?_, ?_, ?_⟩
  · intro a _ e h
    cases h; exact pure_row _
  · intro c' e1 e2 e3 e4 K' row hrow acc
    conv at e3 => rhs; whnf
    obtain ⟨hr1, hr2⟩ := hf row hrow
    refine ⟨_, by ks_step "upd", by ks_step "sub", ?_⟩
    show EvT _ _ _ _ _
    obtain ⟨fa, hfa, hF⟩ := K'.base.fn _ (List.mem_of_getElem? rec24)
    refine ev_rcall (n := 3) K' (by rw [e4, hcn]; exact Nat.le_refl _) (by ks_step "kind") rfl fun im him => ?_
    refine evs_c rfl ?_
    refine ev_global K' (by ks_step "kind") (nm24 ▸ hfa) ?_
    refine evs_c rfl ?_
    refine ev_comp K' e3 [(Str.ofString "second", dRows second)] ?hsub [Str.ofString "second"] rfl (by decide +kernel) (by decide +kernel) (by kernel_rfl) (by decide +kernel) (by kernel_rfl) (by decide +kernel) ?_
    case hsub => exact subc_cons (by ks_step "has") (pure_rows _) (by ks_step "kindc") (by kernel_rfl!) subc_nil
    refine it_lst K' ?_
    repeat (ks_step "op")
    refine ⟨pure_bools _ (fun _ => rfl) _, Nat, row, fun j : Nat => D.int (j : Int), fun j => some (dRow (second.getD j [])), rfl, by omega, ?_, ?_, ?_⟩
    · intro a _ e h
      cases h; exact pure_row _
    · intro c2 g1 g2 g3 g4 K2 j hj acc2
      conv at g3 => rhs; whnf
      refine ⟨_, by ks_step "upd", by ks_step "sub", ?_⟩
      show EvT _ _ _ _ _
      repeat (ks_step "op")
      have hjl := hr2 j hj
      refine sub_lst (d := dRow second[j]) (by simp; omega) (by simp; omega) (by
        have e : place (j : Int) (second.map dRow).length = j := by unfold place; rw [if_neg (by omega)]; omega
        rw [e, List.getElem?_map, List.getElem?_eq_getElem hjl]; rfl) ?_
      refine ⟨rfl, ?_⟩
      simp [hjl]
    · refine evs_c rfl ?_
      refine ev_list ?_
      repeat (ks_step "op")
      have e0 : row.filterMap (fun j => some (dRow (second.getD j []))) = (row.map fun j => second.getD j []).map dNums := by rw [filterMap_some, List.map_map]; rfl
      first | refine qi (e0) ?_ | refine qs (e0) ?_ | refine qt (e0) ?_ | refine qb (e0) ?_ | refine qm (e0) ?_ | refine q1 (e0) ?_ | rw [e0]
      have hmem : ∀ b ∈ row.map (fun j => second.getD j []), Can b := fun b hb => by
        obtain ⟨j, hj, rfl⟩ := List.mem_map.mp hb
        have hjl := hr2 j hj
        rw [List.getD_eq_getElem?_getD, List.getElem?_eq_getElem hjl]
        exact hs _ (List.getElem_mem hjl)
      have hpr : Ds.pure ((row.map fun j => second.getD j []).map dNums) = true := pure_bools _ pure_row _
      have hcon := reduce_con3 (prog := c'.prog) (w := c'.w) (mg := mg) (mb := mb) (n := 2) him hfa rec24 (fun r : List Nat => dNums r) (fun r : List Nat => dNums r) uni Can pure_row pure_row (row.map fun j => second.getD j []) (by simp; omega)
        (fun a ha b hb => ⟨both_con' a b ha (hmem b hb), can_uni a b⟩) [] can_nil [] rfl
      refine ⟨by simp only [Ds.pure, D.pure, hpr, Bool.and_self], fun A s a vs P B F M hg hd hu hh hfr hp hr => codeAny_mono (hcon A s a vs P B F M hg hd hu hh hfr hp hr) fun r s' ⟨v, e, P', b1, b2, b3, b4, b5, b6, b7, b8, b9⟩ => ⟨v, e, P', b1, b2, b3, b4, b5, b6, b7, b8, ?_⟩⟩
      subst b9
      exact ⟨pure_row _, rfl, rfl⟩
  · rw [filterMap_some]
    repeat (ks_step "op")
    simp [thenR]

theorem then_con {prog : Program} {w : World} {mg mb : Str → Option Value} (first second : List (List Nat)) (h1 : first.length ≤ 20) (h2 : second.length ≤ 20)
    (hf : ∀ row ∈ first, row.length ≤ 20 ∧ ∀ j ∈ row, j < second.length) (hs : ∀ row ∈ second, Can row) :
    Con prog w mg mb 4 (defAt 25) [dRows first, dRows second] (fun e => e = dRows (thenR first second)) :=
  con_intro (xs := [Str.ofString "first", Str.ofString "second"]) (by intro pm code doc vs h; obtain ⟨v1, v2, rfl⟩ := len2 h; kernel_rfl) rfl (by decide +kernel) (by decide +kernel) (by decide +kernel) (by decide +kernel) (by kernel_rfl) (by kernel_rfl) (by kernel_rfl)
    fun c e1 e2 e3 e4 e5 K => (then_walk K e4 e5 e3 first second h1 h2 hf hs).mono fun fl σ' μ' h => ⟨_, _, .inl h, .pure (pure_rows _), rfl⟩
end -- QThen

section -- QRows
/-! ### rows: for each place i, the places j up to which a stretch from i goes -/
noncomputable def Rows (n : Nat) (a : List (List Nat)) : Prop := a.length = n + 1 ∧ ∀ row ∈ a, Can row ∧ ∀ j ∈ row, j ≤ n
theorem mem_foldl : ∀ (l : List (List Nat)) (a : List Nat), Can a → (∀ r ∈ l, Can r) → ∀ y, y ∈ l.foldl uni a ↔ y ∈ a ∨ ∃ r ∈ l, y ∈ r
  | [], a, _, _, y => by simp
  | b :: l, a, ha, hl, y => by
    have hb := hl b (List.mem_cons_self ..)
    rw [List.foldl_cons, mem_foldl l (uni a b) (can_uni a b) (fun r hr => hl r (List.mem_cons_of_mem _ hr)), mem_uni ha hb]
    simp only [List.mem_cons, exists_eq_or_imp]
    constructor
    · rintro ((h | h) | h)
      · exact .inl h
      · exact .inr (.inl h)
      · exact .inr (.inr h)
    · rintro (h | h | h)
      · exact .inl (.inl h)
      · exact .inl (.inr h)
      · exact .inr h
theorem getD_can {n : Nat} {x : List (List Nat)} (hx : Rows n x) (j : Nat) : Can (x.getD j []) := by
  rw [List.getD_eq_getElem?_getD]
  by_cases hj : j < x.length
  · rw [List.getElem?_eq_getElem hj]
    exact (hx.2 _ (List.getElem_mem hj)).1
  · rw [List.getElem?_eq_none (by omega)]; exact can_nil
theorem getD_le {n : Nat} {x : List (List Nat)} (hx : Rows n x) {j y : Nat} (h : y ∈ x.getD j []) : y ≤ n := by
  rw [List.getD_eq_getElem?_getD] at h
  by_cases hj : j < x.length
  · rw [List.getElem?_eq_getElem hj] at h
    exact (hx.2 _ (List.getElem_mem hj)).2 y h
  · rw [List.getElem?_eq_none (by omega)] at h
    cases h
theorem mem_thenRow {n : Nat} {x : List (List Nat)} (hx : Rows n x) (row : List Nat) (y : Nat) : y ∈ thenRow x row ↔ ∃ j ∈ row, y ∈ x.getD j [] := by
  unfold thenRow
  rw [mem_foldl _ _ can_nil (fun r hr => by obtain ⟨j, _, rfl⟩ := List.mem_map.mp hr; exact getD_can hx j)]
  simp only [List.not_mem_nil, false_or, List.mem_map]
  constructor
  · rintro ⟨r, ⟨j, hj, rfl⟩, hy⟩; exact ⟨j, hj, hy⟩
  · rintro ⟨j, hj, hy⟩; exact ⟨_, ⟨j, hj, rfl⟩, hy⟩
theorem rows_then {n : Nat} {a x : List (List Nat)} (ha : Rows n a) (hx : Rows n x) : Rows n (thenR a x) := by
  refine ⟨by rw [thenR, List.length_map]; exact ha.1, fun row hr => ?_⟩
  obtain ⟨r, hr', rfl⟩ := List.mem_map.mp hr
  refine ⟨foldl_can _ _ can_nil, fun j hj => ?_⟩
  obtain ⟨k, _, hk⟩ := (mem_thenRow hx r j).mp hj
  exact getD_le hx hk
theorem rows_told {items : List Item} (sign : Str) (hl : items.length ≤ 10) : Rows items.length (told items sign) := by
  refine ⟨by simp [told], fun row hr => ?_⟩
  obtain ⟨i, hi, rfl⟩ := List.mem_map.mp hr
  rw [List.mem_range] at hi
  have hm : ∀ j ∈ toldRow items sign i, j ≤ items.length := fun j hj => by
    have := (List.mem_filter.mp hj).1
    obtain ⟨k, hk, rfl⟩ := List.mem_map.mp this
    rw [List.mem_range] at hk
    omega
  refine ⟨⟨?_, fun j hj => by have := hm j hj; omega⟩, hm⟩
  refine List.Pairwise.filter _ ?_
  rw [List.pairwise_map]
  exact List.pairwise_lt_range.imp fun h => by omega
theorem rows_found {its : List Pt} {items : List Item} (name : Str) (hl : items.length ≤ 10) : Rows items.length (found its items name) := by
  refine ⟨by simp [found], fun row hr => ?_⟩
  obtain ⟨i, hi, rfl⟩ := List.mem_map.mp hr
  rw [List.mem_range] at hi
  have hm : ∀ j ∈ foundRow its items name i, j ≤ items.length := fun j hj => by
    have := (List.mem_filter.mp hj).1
    obtain ⟨k, hk, rfl⟩ := List.mem_map.mp this
    rw [List.mem_range] at hk
    omega
  refine ⟨⟨?_, fun j hj => by have := hm j hj; omega⟩, hm⟩
  refine List.Pairwise.filter _ ?_
  rw [List.pairwise_map]
  exact List.pairwise_lt_range.imp fun h => by omega
/-- the signs of a name, the empty one ahead -/
noncomputable def sgsOf (name : List Nat) : List Str := Str.ofString "" :: name.map fun ch => S [ch]
noncomputable def foldedR (items : List Item) (name : List Nat) : List (List Nat) := ((name.map fun ch => S [ch]).map (told items)).foldl thenR (told items (Str.ofString ""))
end -- QRows

section -- QGlob
/-! ### what a stretch of a pattern takes -/
noncomputable def Pt.isStar : Pt → Bool
  | .star => true
  | _ => false
noncomputable def okc (p : Pt) (ch : Nat) : Bool := p.sgn.contains ch != p.bar
noncomputable def Mt : List Pt → List Nat → Prop
  | [], x => x = []
  | p :: r, x => if p.isStar = true then ∃ k, Mt r (x.drop k) else ∃ ch y, x = ch :: y ∧ okc p ch = true ∧ Mt r y
theorem isStar_of {p : Pt} (h : p.isStar = true) : p = .star := by cases p <;> first | rfl | cases h
theorem mt_star {p : Pt} (h : p.isStar = true) (r : List Pt) (x : List Nat) : Mt (p :: r) x ↔ ∃ k, Mt r (x.drop k) := by rw [Mt, if_pos h]
theorem mt_mark {p : Pt} (h : p.isStar = false) (r : List Pt) (x : List Nat) : Mt (p :: r) x ↔ ∃ ch y, x = ch :: y ∧ okc p ch = true ∧ Mt r y := by rw [Mt, if_neg (by rw [h]; decide)]
theorem mt_app : ∀ (a : List Pt) {b : List Pt} {x y : List Nat}, Mt a x → Mt b y → Mt (a ++ b) (x ++ y)
  | [], b, x, y, h1, h2 => by
    have h1 : x = [] := h1
    subst h1; exact h2
  | p :: a, b, x, y, h1, h2 => by
    rw [List.cons_append]
    cases hp : p.isStar with
    | true =>
      obtain ⟨k, hk⟩ := (mt_star hp _ _).mp h1
      refine (mt_star hp _ _).mpr ⟨min k x.length, ?_⟩
      rw [List.drop_append_of_le_length (Nat.min_le_right _ _)]
      have : x.drop (min k x.length) = x.drop k := by
        by_cases hk : k ≤ x.length
        · rw [Nat.min_eq_left hk]
        · rw [Nat.min_eq_right (by omega), List.drop_eq_nil_of_le (by omega), List.drop_eq_nil_of_le (by omega)]
      rw [this]
      exact mt_app a hk h2
    | false =>
      obtain ⟨ch, z, rfl, h3, h4⟩ := (mt_mark hp _ _).mp h1
      exact (mt_mark hp _ _).mpr ⟨ch, z ++ y, rfl, h3, mt_app a h4 h2⟩
theorem mt_nil_star : Mt [.star] [] := (mt_star rfl _ _).mpr ⟨0, rfl⟩
theorem mt_one_star (x : List Nat) : Mt [.star] x := (mt_star rfl _ _).mpr ⟨x.length, by simp [Mt]⟩
theorem mt_split : ∀ (l : List Pt) {x y : List Nat}, Mt l (x ++ y) → (∃ a b, l = a ++ b ∧ Mt a x ∧ Mt b y) ∨ (∃ a b, l = a ++ .star :: b ∧ Mt (a ++ [.star]) x ∧ Mt (.star :: b) y)
  | [], x, y, h => by
    have h : x ++ y = [] := h
    obtain ⟨h1, h2⟩ := List.append_eq_nil_iff.mp h
    exact .inl ⟨[], [], rfl, h1, h2⟩
  | p :: r, x, y, h => by
    cases hp : p.isStar with
    | true =>
      obtain ⟨k, hk⟩ := (mt_star hp _ _).mp h
      have hps := isStar_of hp
      by_cases hkx : k ≤ x.length
      · rw [List.drop_append_of_le_length hkx] at hk
        rcases mt_split r hk with ⟨a, b, rfl, h1, h2⟩ | ⟨a, b, rfl, h1, h2⟩
        · exact .inl ⟨p :: a, b, rfl, (mt_star hp _ _).mpr ⟨k, h1⟩, h2⟩
        · exact .inr ⟨p :: a, b, rfl, (mt_star hp _ _).mpr ⟨k, h1⟩, h2⟩
      · refine .inr ⟨[], r, by rw [hps]; rfl, mt_one_star x, (mt_star rfl _ _).mpr ⟨k - x.length, ?_⟩⟩
        have : (x ++ y).drop k = y.drop (k - x.length) := by
          rw [List.drop_append, List.drop_eq_nil_of_le (by omega), List.nil_append]
        rw [← this]; exact hk
    | false =>
      obtain ⟨ch, z, he, h3, h4⟩ := (mt_mark hp _ _).mp h
      cases x with
      | nil => exact .inl ⟨[], p :: r, rfl, rfl, by rw [List.nil_append] at h; exact h⟩
      | cons c x =>
        rw [List.cons_append] at he
        injection he with e1 e2
        subst e1 e2
        rcases mt_split r h4 with ⟨a, b, rfl, h1, h2⟩ | ⟨a, b, rfl, h1, h2⟩
        · exact .inl ⟨p :: a, b, rfl, (mt_mark hp _ _).mpr ⟨c, x, rfl, h3, h1⟩, h2⟩
        · exact .inr ⟨p :: a, b, rfl, (mt_mark hp _ _).mpr ⟨c, x, rfl, h3, h1⟩, h2⟩
theorem mt_dup : ∀ (a : List Pt) {r : List Pt} {x : List Nat}, Mt (a ++ .star :: .star :: r) x → Mt (a ++ .star :: r) x
  | [], r, x, h => by
    obtain ⟨k, hk⟩ := (mt_star rfl _ _).mp h
    obtain ⟨k', hk'⟩ := (mt_star rfl _ _).mp hk
    rw [List.drop_drop] at hk'
    exact (mt_star rfl _ _).mpr ⟨k + k', hk'⟩
  | p :: a, r, x, h => by
    rw [List.cons_append] at h ⊢
    cases hp : p.isStar with
    | true =>
      obtain ⟨k, hk⟩ := (mt_star hp _ _).mp h
      exact (mt_star hp _ _).mpr ⟨k, mt_dup a hk⟩
    | false =>
      obtain ⟨ch, z, he, h3, h4⟩ := (mt_mark hp _ _).mp h
      exact (mt_mark hp _ _).mpr ⟨ch, z, he, h3, mt_dup a h4⟩
/-! ### one sign, and none -/
noncomputable abbrev marks (l : List Pt) : List Pt := l.filter fun p => !p.isStar
theorem mt_none : ∀ l : List Pt, Mt l [] ↔ marks l = []
  | [] => ⟨fun _ => rfl, fun _ => rfl⟩
  | p :: r => by
    cases hp : p.isStar with
    | true =>
      rw [mt_star hp, marks, List.filter_cons_of_neg (by rw [hp]; decide), ← mt_none r]
      simp
    | false =>
      rw [mt_mark hp, marks, List.filter_cons_of_pos (by rw [hp]; decide)]
      simp
theorem mt_one (ch : Nat) : ∀ l : List Pt, Mt l [ch] ↔ match marks l with | [] => l ≠ [] | [m] => okc m ch = true | _ => False
  | [] => ⟨fun h => (by cases h), fun h => absurd rfl h⟩
  | p :: r => by
    have ih := mt_one ch r
    have h0 := mt_none r
    cases hp : p.isStar with
    | true =>
      have h1 : Mt (p :: r) [ch] ↔ Mt r [ch] ∨ Mt r [] := by
        rw [mt_star hp]
        constructor
        · rintro ⟨k, hk⟩
          cases k with
          | zero => exact .inl hk
          | succ k => exact .inr (by simpa using hk)
        · rintro (h | h)
          · exact ⟨0, h⟩
          · exact ⟨1, h⟩
      rw [h1, ih, h0, show marks (p :: r) = marks r from List.filter_cons_of_neg (by rw [hp]; decide)]
      cases hm : marks r with
      | nil => simp
      | cons m ms => cases ms <;> simp
    | false =>
      have h1 : Mt (p :: r) [ch] ↔ okc p ch = true ∧ Mt r [] := by
        rw [mt_mark hp]
        constructor
        · rintro ⟨c, y, he, h3, h4⟩
          injection he with e1 e2
          subst e1 e2
          exact ⟨h3, h4⟩
        · rintro ⟨h3, h4⟩
          exact ⟨ch, [], rfl, h3, h4⟩
      rw [h1, h0, show marks (p :: r) = p :: marks r from List.filter_cons_of_pos (by rw [hp]; decide)]
      cases hm : marks r with
      | nil => simp
      | cons m ms => simp
/-! ### items -/
noncomputable def toItem (p : Pt) : Item := ⟨S p.pat, if p.isStar = true then none else some p.bar, S p.sgn⟩
theorem marks_map (l : List Pt) : (l.map toItem).filter (fun it => it.barred.isSome) = (marks l).map toItem := by
  rw [List.filter_map]
  congr 1
  refine List.filter_congr fun p _ => ?_
  show (if p.isStar = true then (none : Option Bool) else some p.bar).isSome = !p.isStar
  cases p.isStar <;> rfl
theorem means_none (l : List Pt) : means (l.map toItem) (Str.ofString "") = true ↔ Mt l [] := by
  unfold means
  rw [if_pos (beq_self_eq_true _), marks_map, mt_none]
  simp
theorem means_one (l : List Pt) (ch : Nat) : means (l.map toItem) (S [ch]) = true ↔ Mt l [ch] := by
  unfold means
  rw [if_neg (by rw [show Str.ofString "" = S [] by decide +kernel, S_beq]; simp), marks_map, mt_one]
  cases hm : marks l with
  | nil => simp [List.length_pos_iff]
  | cons m ms =>
    cases ms with
    | nil =>
      have hms : m.isStar = false := by
        have : m ∈ marks l := by rw [hm]; exact List.mem_cons_self ..
        have := (List.mem_filter.mp this).2
        simpa using this
      have hin : inStr (toItem m).signs (S [ch]) = m.sgn.contains ch := in_sign (S m.sgn) ch
      show (inStr (toItem m).signs (S [ch]) != (toItem m).barred.getD false) = true ↔ _
      rw [hin]
      show (m.sgn.contains ch != (if m.isStar = true then (none : Option Bool) else some m.bar).getD false) = true ↔ _
      rw [hms]
      exact Iff.rfl
    | cons m2 ms => simp
end -- QGlob

section -- QGlob2
/-! ### stretches -/
noncomputable def sb (its : List Pt) (j : Nat) : Nat := if (its[j]?.elim false fun p => p.isStar) = true then 1 else 0
noncomputable abbrev St (its : List Pt) (i j : Nat) : List Pt := stretch its (its.map toItem) i j
theorem sb_le (its : List Pt) (j : Nat) : sb its j ≤ 1 := by unfold sb; split <;> omega
theorem st_eq (its : List Pt) {i j : Nat} (h : i ≤ j) : St its i j = (its.drop i).take (j - i + sb its j) := by
  unfold St stretch sb
  have e : ((its.map toItem)[j]?.elim false fun it => it.barred.isNone) = (its[j]?.elim false fun p => p.isStar) := by
    rw [List.getElem?_map]
    cases its[j]? with
    | none => rfl
    | some p =>
      show (if p.isStar = true then (none : Option Bool) else some p.bar).isNone = p.isStar
      cases p.isStar <;> rfl
  rw [e]
  split
  · congr 1; omega
  · rfl
theorem st_take (its : List Pt) {i k j : Nat} (h1 : i ≤ k) (h2 : k ≤ j) : St its i k = (St its i j).take (k - i + sb its k) := by
  rw [st_eq its h1, st_eq its (Nat.le_trans h1 h2), List.take_take]
  congr 1
  refine (Nat.min_eq_left ?_).symm
  rcases Nat.eq_or_lt_of_le h2 with hk | hk
  · subst hk; exact Nat.le_refl _
  · exact Nat.le_trans (Nat.add_le_add_left (sb_le its k) _) (Nat.le_trans (Nat.sub_lt_sub_right h1 hk) (Nat.le_add_right _ _))
theorem st_drop (its : List Pt) {i k j : Nat} (h1 : i ≤ k) (h2 : k ≤ j) : St its k j = (St its i j).drop (k - i) := by
  rw [st_eq its h2, st_eq its (Nat.le_trans h1 h2), List.drop_take, List.drop_drop]
  congr 1
  · rw [Nat.sub_add_comm (Nat.sub_le_sub_right h2 i), Nat.sub_sub_sub_cancel_right h1]
  · congr 1; exact (Nat.add_sub_cancel' h1).symm
theorem st_get (its : List Pt) {i j m : Nat} (h : i ≤ j) (hm : m < (St its i j).length) : (St its i j)[m]? = its[i + m]? := by
  rw [st_eq its h] at hm ⊢
  rw [List.length_take] at hm
  rw [List.getElem?_take_of_lt (by omega), List.getElem?_drop]
theorem st_len (its : List Pt) {i j : Nat} (h : i ≤ j) : (St its i j).length ≤ j - i + 1 := by
  rw [st_eq its h, List.length_take]
  have := sb_le its j
  omega
/-- the last sign of a name is taken from some place on -/
theorem st_snoc (its : List Pt) {i j : Nat} (h : i ≤ j) (x : List Nat) (ch : Nat) : Mt (St its i j) (x ++ [ch]) ↔ ∃ k, i ≤ k ∧ k ≤ j ∧ Mt (St its i k) x ∧ Mt (St its k j) [ch] := by
  constructor
  · intro hm
    have star : ∀ a b, St its i j = a ++ .star :: b → Mt (a ++ [.star]) x → Mt (.star :: b) [ch] → ∃ k, i ≤ k ∧ k ≤ j ∧ Mt (St its i k) x ∧ Mt (St its k j) [ch] := fun a b e h1 h2 => by
      have hl := st_len its h
      have hal : a.length < (St its i j).length := by rw [e]; simp
      have hk : i + a.length ≤ j := by omega
      have hg := st_get its h hal
      rw [e] at hg
      simp at hg
      have hs : sb its (i + a.length) = 1 := by unfold sb; rw [← hg]; rfl
      refine ⟨i + a.length, by omega, hk, ?_, ?_⟩
      · rw [st_take its (k := i + a.length) (by omega) hk, hs, e, show i + a.length - i + 1 = (a ++ [Pt.star]).length by rw [List.length_append, List.length_singleton]; omega, show a ++ Pt.star :: b = (a ++ [Pt.star]) ++ b by simp, List.take_left]
        exact h1
      · rw [st_drop its (i := i) (k := i + a.length) (by omega) hk, e, show i + a.length - i = a.length by omega, List.drop_left]
        exact h2
    rcases mt_split _ hm with ⟨a, b, e, h1, h2⟩ | ⟨a, b, e, h1, h2⟩
    · cases b with
      | nil => cases h2
      | cons p b =>
        cases hp : p.isStar with
        | true =>
          have := isStar_of hp
          subst this
          refine star a b e ?_ h2
          have := mt_app a h1 mt_nil_star
          simpa using this
        | false =>
          have hl := st_len its h
          have hal : a.length < (St its i j).length := by rw [e]; simp
          have hk : i + a.length ≤ j := by omega
          have hg := st_get its h hal
          rw [e] at hg
          simp at hg
          have hs : sb its (i + a.length) = 0 := by unfold sb; rw [← hg]; simp [hp]
          refine ⟨i + a.length, by omega, hk, ?_, ?_⟩
          · rw [st_take its (k := i + a.length) (by omega) hk, hs, e, show i + a.length - i + 0 = a.length by omega, List.take_left]
            exact h1
          · rw [st_drop its (i := i) (k := i + a.length) (by omega) hk, e, show i + a.length - i = a.length by omega, List.drop_left]
            exact h2
    · exact star a b e h1 h2
  · rintro ⟨k, h1, h2, h3, h4⟩
    have hm := mt_app _ h3 h4
    have e1 := st_take its h1 h2
    have e2 := st_drop its h1 h2
    rw [e1, e2] at hm
    by_cases hs : sb its k = 0
    · rw [hs, Nat.add_zero, List.take_append_drop] at hm
      exact hm
    · have hs1 : sb its k = 1 := by have := sb_le its k; omega
      rw [hs1] at hm
      have hst : its[k]? = some .star := by
        unfold sb at hs
        cases hx : its[k]? with
        | none => rw [hx] at hs; exact absurd rfl hs
        | some p =>
          rw [hx] at hs
          cases hp : p.isStar with
          | true => rw [isStar_of hp]
          | false => simp [hp] at hs
      have hkl : k < its.length := (List.getElem?_eq_some_iff.mp hst).1
      have hll : k - i < (St its i j).length := by
        rw [st_eq its h, List.length_take, List.length_drop]
        by_cases hkj : k = j
        · subst hkj; omega
        · omega
      have hg := st_get its h hll
      rw [show i + (k - i) = k by omega, hst] at hg
      obtain ⟨l, hl⟩ : ∃ l, l = St its i j := ⟨_, rfl⟩
      rw [← hl] at hm hg hll ⊢
      generalize k - i = m at hm hg hll
      have hd : l.drop m = .star :: l.drop (m + 1) := by
        rw [List.drop_eq_getElem_cons hll]
        congr 1
        rw [List.getElem?_eq_getElem hll] at hg
        exact Option.some.inj hg
      have ht : l.take (m + 1) = l.take m ++ [.star] := by
        rw [List.take_succ, hg]; rfl
      rw [ht, hd, List.append_assoc] at hm
      have := mt_dup _ hm
      rw [← hd, List.take_append_drop] at this
      exact this
/-! ### the folded rows -/
theorem can_ext {a b : List Nat} (ha : Can a) (hb : Can b) (h : ∀ y, y ∈ a ↔ y ∈ b) : a = b := by
  have hp : a.Perm b := (List.perm_ext_iff_of_nodup (ha.1.imp fun h => Nat.ne_of_lt h) (hb.1.imp fun h => Nat.ne_of_lt h)).mpr h
  exact List.Perm.eq_of_pairwise (le := (· ≤ ·)) (fun x y _ _ h1 h2 => Nat.le_antisymm h1 h2) (ha.1.imp fun h => Nat.le_of_lt h) (hb.1.imp fun h => Nat.le_of_lt h) hp
theorem rows_ext {n : Nat} {a b : List (List Nat)} (ha : Rows n a) (hb : Rows n b) (h : ∀ i, i ≤ n → ∀ y, y ∈ a.getD i [] ↔ y ∈ b.getD i []) : a = b := by
  refine List.ext_getElem (by rw [ha.1, hb.1]) fun i h1 h2 => ?_
  have e1 : a.getD i [] = a[i] := by rw [List.getD_eq_getElem?_getD, List.getElem?_eq_getElem h1]; rfl
  have e2 : b.getD i [] = b[i] := by rw [List.getD_eq_getElem?_getD, List.getElem?_eq_getElem h2]; rfl
  have := h i (by have := ha.1; omega)
  rw [e1, e2] at this
  exact can_ext (ha.2 _ (List.getElem_mem h1)).1 (hb.2 _ (List.getElem_mem h2)).1 this
theorem mem_told (its : List Pt) (sign : Str) {i : Nat} (hi : i ≤ its.length) (j : Nat) : j ∈ (told (its.map toItem) sign).getD i [] ↔ i ≤ j ∧ j ≤ its.length ∧ means ((St its i j).map toItem) sign = true := by
  have hl : (its.map toItem).length = its.length := by simp
  rw [List.getD_eq_getElem?_getD, told, List.getElem?_map, List.getElem?_range (by rw [hl]; omega)]
  show j ∈ toldRow (its.map toItem) sign i ↔ _
  rw [toldRow, List.mem_filter, stretch_map, hl]
  simp only [List.mem_map, List.mem_range]
  constructor
  · rintro ⟨⟨k, hk, rfl⟩, h⟩
    exact ⟨by omega, by omega, h⟩
  · rintro ⟨h1, h2, h3⟩
    exact ⟨⟨j - i, by omega, by omega⟩, h3⟩
theorem mem_found (its : List Pt) (name : Str) {i : Nat} (hi : i ≤ its.length) (j : Nat) : j ∈ (found its (its.map toItem) name).getD i [] ↔ i ≤ j ∧ j ≤ its.length ∧ takes (piecesOf (St its i j)) name = true := by
  have hl : (its.map toItem).length = its.length := by simp
  rw [List.getD_eq_getElem?_getD, found, List.getElem?_map, List.getElem?_range (by rw [hl]; omega)]
  show j ∈ foundRow its (its.map toItem) name i ↔ _
  rw [foundRow, List.mem_filter, hl]
  simp only [List.mem_map, List.mem_range, foundP]
  constructor
  · rintro ⟨⟨k, hk, rfl⟩, h⟩
    exact ⟨by omega, by omega, h⟩
  · rintro ⟨h1, h2, h3⟩
    exact ⟨⟨j - i, by omega, by omega⟩, h3⟩
theorem folded_spec (its : List Pt) (hl : its.length ≤ 10) : ∀ (n : Nat) (name : List Nat), name.length = n →
    Rows its.length (foldedR (its.map toItem) name) ∧ ∀ i, i ≤ its.length → ∀ j, j ∈ (foldedR (its.map toItem) name).getD i [] ↔ i ≤ j ∧ j ≤ its.length ∧ Mt (St its i j) name
  | 0, name, h0 => by
    have : name = [] := List.length_eq_zero_iff.mp h0
    subst this
    have hr := rows_told (items := its.map toItem) (Str.ofString "") (by simpa using hl)
    rw [List.length_map] at hr
    refine ⟨hr, fun i hi j => ?_⟩
    rw [show foldedR (its.map toItem) [] = told (its.map toItem) (Str.ofString "") from rfl, mem_told its _ hi, means_none]
  | n + 1, name, hn => by
    rcases List.eq_nil_or_concat name with rfl | ⟨x, ch, rfl⟩
    · cases hn
    rw [List.concat_eq_append] at *
    obtain ⟨ih1, ih2⟩ := folded_spec its hl n x (by simpa using hn)
    have ht := rows_told (items := its.map toItem) (S [ch]) (by simpa using hl)
    rw [List.length_map] at ht
    have hf : foldedR (its.map toItem) (x ++ [ch]) = thenR (foldedR (its.map toItem) x) (told (its.map toItem) (S [ch])) := by
      unfold foldedR
      rw [List.map_append, List.map_append, List.foldl_append]
      rfl
    rw [hf]
    refine ⟨rows_then ih1 ht, fun i hi j => ?_⟩
    have hg : (thenR (foldedR (its.map toItem) x) (told (its.map toItem) (S [ch]))).getD i [] = thenRow (told (its.map toItem) (S [ch])) ((foldedR (its.map toItem) x).getD i []) := by
      have hil : i < (foldedR (its.map toItem) x).length := by rw [ih1.1]; omega
      rw [thenR, List.getD_eq_getElem?_getD, List.getElem?_map, List.getD_eq_getElem?_getD, List.getElem?_eq_getElem hil]
      rfl
    rw [hg, mem_thenRow ht]
    constructor
    · rintro ⟨k, h1, h2⟩
      obtain ⟨a1, a2, a3⟩ := (ih2 i hi k).mp h1
      obtain ⟨b1, b2, b3⟩ := (mem_told its _ a2 j).mp h2
      rw [means_one] at b3
      exact ⟨by omega, b2, (st_snoc its (by omega) x ch).mpr ⟨k, a1, b1, a3, b3⟩⟩
    · rintro ⟨h1, h2, h3⟩
      obtain ⟨k, c1, c2, c3, c4⟩ := (st_snoc its h1 x ch).mp h3
      exact ⟨k, (ih2 i hi k).mpr ⟨c1, by omega, c3⟩, (mem_told its _ (by omega) j).mpr ⟨c2, h2, (means_one _ _).mpr c4⟩⟩
end -- QGlob2

section -- QGlob3
/-! ### pieces, and what they take -/
noncomputable def AllM (g : List Pt) : Prop := ∀ p ∈ g, p.isStar = false
noncomputable def uns (gs : List (List Pt)) : List Pt := (gs.map fun g => Pt.star :: g).flatten
theorem uns_cons (g : List Pt) (gs : List (List Pt)) : uns (g :: gs) = .star :: (g ++ uns gs) := by simp [uns]
theorem split_uns : ∀ l : List Pt, l = (splitG l).1 ++ uns (splitG l).2 ∧ AllM (splitG l).1 ∧ ∀ g ∈ (splitG l).2, AllM g
  | [] => ⟨rfl, fun p h => (by cases h), fun g h => (by cases h)⟩
  | p :: r => by
    obtain ⟨h1, h2, h3⟩ := split_uns r
    cases hp : p.isStar with
    | true =>
      have := isStar_of hp
      subst this
      rw [splitG_star, uns_cons]
      refine ⟨by rw [← h1]; rfl, fun p h => (by cases h), fun g hg => ?_⟩
      rcases List.mem_cons.mp hg with rfl | hg
      · exact h2
      · exact h3 g hg
    | false =>
      have hs : p ≠ .star := fun e => by rw [e] at hp; cases hp
      rw [splitG_mark hs]
      refine ⟨by show p :: r = p :: ((splitG r).1 ++ uns (splitG r).2); rw [← h1], fun q hq => ?_, h3⟩
      rcases List.mem_cons.mp hq with rfl | hq
      · exact hp
      · exact h2 q hq
theorem mt_len : ∀ {g : List Pt} {x : List Nat}, AllM g → Mt g x → x.length = g.length
  | [], x, _, h => by rw [show x = [] from h]; rfl
  | p :: g, x, hg, h => by
    obtain ⟨ch, y, rfl, _, h4⟩ := (mt_mark (hg p (List.mem_cons_self ..)) _ _).mp h
    have := mt_len (fun q hq => hg q (List.mem_cons_of_mem _ hq)) h4
    simp [this]
theorem mt_marks_app : ∀ {g : List Pt} (r : List Pt) {x : List Nat}, AllM g → Mt (g ++ r) x → g.length ≤ x.length ∧ Mt g (x.take g.length) ∧ Mt r (x.drop g.length)
  | [], r, x, _, h => ⟨Nat.zero_le _, by simp [Mt], by simpa using h⟩
  | p :: g, r, x, hg, h => by
    have hp := hg p (List.mem_cons_self ..)
    obtain ⟨ch, y, rfl, h3, h4⟩ := (mt_mark hp _ _).mp h
    obtain ⟨i1, i2, i3⟩ := mt_marks_app r (fun q hq => hg q (List.mem_cons_of_mem _ hq)) h4
    refine ⟨by simpa using i1, ?_, by simpa using i3⟩
    rw [List.length_cons, List.take_succ_cons]
    exact (mt_mark hp _ _).mpr ⟨ch, _, rfl, h3, i2⟩
theorem fitsGo_spec (nm : List Nat) : ∀ (g : List Pt) (i : Nat), AllM g → i + g.length ≤ nm.length → (fitsGo (S nm) (g.map mkOf) i = true ↔ Mt g ((nm.drop i).take g.length))
  | [], i, _, _ => by simp [fitsGo, Mt]
  | p :: g, i, hg, hi => by
    have hp := hg p (List.mem_cons_self ..)
    rw [List.length_cons] at hi
    have hil : i < nm.length := by omega
    have hd : nm.drop i = nm[i] :: nm.drop (i + 1) := List.drop_eq_getElem_cons hil
    have ih := fitsGo_spec nm g (i + 1) (fun q hq => hg q (List.mem_cons_of_mem _ hq)) (by omega)
    rw [hd, List.length_cons, List.take_succ_cons, mt_mark hp]
    have hget : (S nm).cps[i]? = some nm[i] := by show nm.toArray[i]? = _; simp [hil]
    show (match (S nm).cps[i]? with | some ch => if (S p.sgn).cps.toList.contains ch == p.bar then false else fitsGo (S nm) (g.map mkOf) (i + 1) | none => false) = true ↔ _
    rw [hget]
    show (if p.sgn.contains nm[i] == p.bar then false else fitsGo (S nm) (g.map mkOf) (i + 1)) = true ↔ _
    constructor
    · intro h
      by_cases hc : (p.sgn.contains nm[i] == p.bar) = true
      · rw [if_pos hc] at h; cases h
      · rw [if_neg hc] at h
        refine ⟨_, _, rfl, ?_, ih.mp h⟩
        unfold okc
        rw [bne]
        simpa using hc
    · rintro ⟨ch, y, he, h3, h4⟩
      injection he with e1 e2
      subst e1 e2
      have hc : ¬ (p.sgn.contains nm[i] == p.bar) = true := by
        unfold okc at h3
        rw [bne] at h3
        simpa using h3
      rw [if_neg hc]
      exact ih.mpr h4
noncomputable def Fit (nm : List Nat) (g : List Pt) (i : Nat) : Prop := i + g.length ≤ nm.length ∧ Mt g ((nm.drop i).take g.length)
theorem fits_spec (nm : List Nat) (g : List Pt) (i : Nat) (hg : AllM g) : fits (g.map mkOf) (S nm) i = true ↔ Fit nm g i := by
  unfold fits Fit
  rw [List.length_map, S_length]
  by_cases h : i + g.length > nm.length
  · rw [if_pos h]
    constructor
    · intro e; cases e
    · rintro ⟨h1, _⟩; omega
  · rw [if_neg h, fitsGo_spec nm g i hg (by omega)]
    exact ⟨fun e => ⟨by omega, e⟩, fun e => e.2⟩
theorem srch_spec (nm : List Nat) (g : List Pt) (hg : AllM g) : ∀ (n i : Nat), nm.length + 1 - i = n → i ≤ srch (g.map mkOf) (S nm) i ∧ (∀ k, i ≤ k → k < srch (g.map mkOf) (S nm) i → ¬ Fit nm g k) ∧ (srch (g.map mkOf) (S nm) i ≤ nm.length → Fit nm g (srch (g.map mkOf) (S nm) i)) := by
  intro n
  induction n with
  | zero =>
    intro i hi
    rw [srch_eq, S_length, if_neg (by omega)]
    exact ⟨Nat.le_refl _, fun k h1 h2 => absurd h2 (by omega), fun h => absurd h (by omega)⟩
  | succ n ih =>
    intro i hi
    rw [srch_eq, S_length]
    by_cases hf : fits (g.map mkOf) (S nm) i = false
    · rw [if_pos ⟨by omega, hf⟩]
      obtain ⟨h1, h2, h3⟩ := ih (i + 1) (by omega)
      refine ⟨by omega, fun k k1 k2 => ?_, h3⟩
      by_cases hk : k = i
      · subst hk
        intro hF
        rw [(fits_spec nm g _ hg).mpr hF] at hf
        cases hf
      · exact h2 k (by omega) k2
    · rw [if_neg (fun h => hf h.2)]
      have hF := (fits_spec nm g i hg).mp (by simpa using hf)
      exact ⟨Nat.le_refl _, fun k h1 h2 => absurd h2 (by omega), fun _ => hF⟩
theorem mt_later {r : List Pt} {nm : List Nat} {a b : Nat} (h : a ≤ b) (hm : Mt (.star :: r) (nm.drop b)) : Mt (.star :: r) (nm.drop a) := by
  obtain ⟨k, hk⟩ := (mt_star rfl _ _).mp hm
  rw [List.drop_drop] at hk
  refine (mt_star rfl _ _).mpr ⟨b - a + k, ?_⟩
  rw [List.drop_drop, show a + (b - a + k) = b + k by omega]
  exact hk
theorem mt_g_star {g R : List Pt} {nm : List Nat} {i : Nat} (hg : AllM g) (hi : i ≤ nm.length) : Mt (.star :: (g ++ R)) (nm.drop i) ↔ ∃ m, i ≤ m ∧ Fit nm g m ∧ Mt R (nm.drop (m + g.length)) := by
  rw [mt_star rfl]
  constructor
  · rintro ⟨k, hk⟩
    rw [List.drop_drop] at hk
    obtain ⟨h1, h2, h3⟩ := mt_marks_app R hg hk
    rw [List.drop_drop] at h3
    rw [List.length_drop] at h1
    by_cases hk2 : i + k ≤ nm.length
    · exact ⟨i + k, by omega, ⟨by omega, h2⟩, h3⟩
    · have hg0 : g = [] := List.length_eq_zero_iff.mp (by omega)
      subst hg0
      refine ⟨nm.length, hi, ⟨by simp, by simp [Mt]⟩, ?_⟩
      rw [List.drop_eq_nil_of_le (by simp)]
      rw [List.drop_eq_nil_of_le (by simp; omega)] at h3
      exact h3
  · rintro ⟨m, h1, ⟨h2, h3⟩, h4⟩
    refine ⟨m - i, ?_⟩
    rw [List.drop_drop, show i + (m - i) = m by omega]
    have := mt_app g h3 h4
    rw [show nm.drop (m + g.length) = (nm.drop m).drop g.length by rw [List.drop_drop], List.take_append_drop] at this
    exact this
theorem tail_spec (nm : List Nat) : ∀ (gs : List (List Pt)), gs ≠ [] → (∀ g ∈ gs, AllM g) → ∀ i, i ≤ nm.length →
    ((match takesMid (S nm) (gs.map fun g => g.map mkOf).dropLast i with
      | none => false
      | some i => decide (i + ((gs.map fun g => g.map mkOf).getLast?.getD []).length ≤ (S nm).length) && fits ((gs.map fun g => g.map mkOf).getLast?.getD []) (S nm) ((S nm).length - ((gs.map fun g => g.map mkOf).getLast?.getD []).length)) = true ↔ Mt (uns gs) (nm.drop i))
  | [], h, _, _, _ => absurd rfl h
  | [g], _, hg, i, hi => by
    have hgm := hg g (List.mem_cons_self ..)
    show ((decide (i + (g.map mkOf).length ≤ (S nm).length) && fits (g.map mkOf) (S nm) ((S nm).length - (g.map mkOf).length)) = true) ↔ _
    rw [uns_cons, show uns [] = [] from rfl, mt_g_star hgm hi, Bool.and_eq_true, decide_eq_true_iff, List.length_map, S_length, fits_spec nm g _ hgm]
    constructor
    · rintro ⟨h1, h2⟩
      refine ⟨nm.length - g.length, by omega, h2, ?_⟩
      rw [List.drop_eq_nil_of_le (by omega)]; rfl
    · rintro ⟨m, h1, h2, h3⟩
      have h3 : nm.drop (m + g.length) = [] := h3
      have h4 := List.drop_eq_nil_iff.mp h3
      have h5 := h2.1
      have hm : nm.length - g.length = m := by omega
      rw [hm]
      exact ⟨by omega, h2⟩
  | g :: g' :: r, _, hg, i, hi => by
    have hgm := hg g (List.mem_cons_self ..)
    obtain ⟨s1, s2, s3⟩ := srch_spec nm g hgm _ i rfl
    have hm : takesMid (S nm) ((g :: g' :: r).map fun g => g.map mkOf).dropLast i = if srch (g.map mkOf) (S nm) i > (S nm).length then none else takesMid (S nm) ((g' :: r).map fun g => g.map mkOf).dropLast (srch (g.map mkOf) (S nm) i + (g.map mkOf).length) := rfl
    have hlast : ((g :: g' :: r).map fun g => g.map mkOf).getLast? = ((g' :: r).map fun g => g.map mkOf).getLast? := rfl
    rw [hm, hlast, uns_cons, mt_g_star hgm hi]
    rw [S_length, List.length_map]
    generalize srch (g.map mkOf) (S nm) i = s at s1 s2 s3 ⊢
    by_cases hs : s > nm.length
    · rw [if_pos hs]
      constructor
      · intro e; cases e
      · rintro ⟨m, h1, h2, h3⟩
        exact absurd h2 (s2 m h1 (by have := h2.1; omega))
    · rw [if_neg hs]
      have hF := s3 (by omega)
      have ih := tail_spec nm (g' :: r) (by simp) (fun x hx => hg x (List.mem_cons_of_mem _ hx)) (s + g.length) hF.1
      rw [S_length] at ih
      rw [ih]
      constructor
      · intro h
        exact ⟨s, s1, hF, h⟩
      · rintro ⟨m, h1, h2, h3⟩
        have hsm : s ≤ m := by
          rcases Nat.lt_or_ge m s with h | h
          · exact absurd h2 (s2 m h1 h)
          · exact h
        rw [uns_cons] at h3 ⊢
        exact mt_later (by omega) h3
theorem takes_mt (nm : List Nat) (l : List Pt) : takes (piecesOf l) (S nm) = true ↔ Mt l nm := by
  obtain ⟨h1, h2, h3⟩ := split_uns l
  have hL : Mt l nm ↔ Mt ((splitG l).1 ++ uns (splitG l).2) nm := by rw [← h1]
  rw [hL]
  unfold piecesOf takes
  generalize (splitG l).1 = fr at h2
  generalize (splitG l).2 = gs at h3
  have hff : fits (fr.map mkOf) (S nm) 0 = true ↔ Fit nm fr 0 := fits_spec nm fr 0 h2
  have hfn : Mt (fr ++ uns gs) nm ↔ Fit nm fr 0 ∧ Mt (uns gs) (nm.drop fr.length) := by
    constructor
    · intro h
      obtain ⟨a1, a2, a3⟩ := mt_marks_app _ h2 h
      exact ⟨⟨by omega, a2⟩, a3⟩
    · rintro ⟨⟨_, a2⟩, a3⟩
      have := mt_app fr a2 a3
      rw [List.drop_zero, List.take_append_drop] at this
      exact this
  rw [hfn]
  by_cases hf : fits (fr.map mkOf) (S nm) 0 = false
  · show (if fits (fr.map mkOf) (S nm) 0 = false then false else _) = true ↔ _
    rw [if_pos hf]
    constructor
    · intro e; cases e
    · rintro ⟨a, _⟩
      rw [hff.mpr a] at hf; cases hf
  · show (if fits (fr.map mkOf) (S nm) 0 = false then false else _) = true ↔ _
    rw [if_neg hf]
    have hF := hff.mp (by simpa using hf)
    cases gs with
    | nil =>
      show ((fr.map mkOf).length == (S nm).length) = true ↔ _
      rw [List.length_map, S_length]
      constructor
      · intro h
        have h : fr.length = nm.length := by simpa using h
        exact ⟨hF, by rw [List.drop_eq_nil_of_le (by omega)]; rfl⟩
      · rintro ⟨_, h⟩
        have h : nm.drop fr.length = [] := h
        have h4 := List.drop_eq_nil_iff.mp h
        have := hF.1
        have : fr.length = nm.length := by omega
        simpa using this
    | cons g r =>
      have ht := tail_spec nm (g :: r) (by simp) h3 fr.length (by have := hF.1; omega)
      show (match takesMid (S nm) ((g :: r).map fun g => g.map mkOf).dropLast (fr.map mkOf).length with
        | none => false
        | some i => _) = true ↔ _
      rw [List.length_map]
      rw [ht]
      exact ⟨fun h => ⟨hF, h⟩, fun h => h.2⟩
/-- the law, with no program in sight -/
theorem plain_law (its : List Pt) (hl : its.length ≤ 10) (name : List Nat) : found its (its.map toItem) (S name) = foldedR (its.map toItem) name := by
  obtain ⟨h1, h2⟩ := folded_spec its hl _ name rfl
  have h3 := rows_found (its := its) (items := its.map toItem) (S name) (by simpa using hl)
  rw [List.length_map] at h3
  refine rows_ext h3 h1 fun i hi y => ?_
  rw [mem_found its _ hi, h2 i hi, takes_mt]
end -- QGlob3

section -- QGood
theorem S_self (x : Str) : S x.cps.toList = x := by show Str.mk _ = x; simp
theorem noss_snoc : ∀ (l : List Pt) (p : Pt), NoSS l → (l.getLast? = some .star → p ≠ .star) → NoSS (l ++ [p])
  | [], p, _, _ => ⟨fun _ => by simp, trivial⟩
  | [q], p, h, hl => ⟨fun e => by
      subst e
      have := hl rfl
      simpa using this, ⟨fun _ => by simp, trivial⟩⟩
  | q :: q' :: r, p, h, hl => ⟨fun e => h.1 e, noss_snoc (q' :: r) p h.2 hl⟩
theorem tabl_good (ch : Nat) (it : Item) (s : Str) (h : (some it, s) ∈ tabl (S [ch])) : ∃ p, OkPt p ∧ it = toItem p := by
  have e : ∀ (a b c : Str) (o : Option Bool) (p : Pt), OkPt p → a = S p.pat → b = S p.sgn → o = (if p.isStar = true then none else some p.bar) → ∃ p, OkPt p ∧ (⟨a, o, b⟩ : Item) = toItem p := fun a b c o p h1 h2 h3 h4 => ⟨p, h1, by rw [h2, h3, h4]; rfl⟩
  have hw : ∀ o, o = some false → ∃ p, OkPt p ∧ (⟨written (S [ch]), o, S [ch]⟩ : Item) = toItem p := fun o ho => by
    subst ho
    have hin : (!(Builtin.Str.occurrences (Str.ofString "*?[") (S [ch]) 0 (Str.ofString "*?[").length 1).isEmpty) = [42, 63, 91].contains ch := by
      have := in_sign (Str.ofString "*?[") ch
      rw [show (Str.ofString "*?[").cps.toList = [42, 63, 91] by decide +kernel] at this
      exact this
    unfold written
    rw [hin]
    by_cases hc : ch ∈ [42, 63, 91]
    · rw [if_pos (List.contains_iff_mem.mpr hc)]
      have e1 : Str.ofString "[" = S [91] := by decide +kernel
      have e2 : Str.ofString "]" = S [93] := by decide +kernel
      rw [e1, e2, S_app, S_app]
      simp only [List.mem_cons, List.not_mem_nil, or_false] at hc
      rcases hc with rfl | rfl | rfl
      · exact e _ _ (S []) _ (.set [42]) (by show _ ∈ setsOk; decide) rfl rfl rfl
      · exact e _ _ (S []) _ (.set [63]) (by show _ ∈ setsOk; decide) rfl rfl rfl
      · exact e _ _ (S []) _ (.set [91]) (by show _ ∈ setsOk; decide) rfl rfl rfl
    · rw [if_neg (by simpa using hc)]
      exact e _ _ (S []) _ (.sg ch) hc rfl rfl rfl
  unfold tabl at h
  simp only [List.mem_cons, List.not_mem_nil, or_false, Prod.mk.injEq, Option.some.injEq, starI, reduceCtorEq, false_and, or_false, false_or] at h
  rcases h with ⟨rfl, _⟩ | ⟨rfl, _⟩ | ⟨rfl, _⟩ | ⟨rfl, _⟩ | ⟨rfl, _⟩ | ⟨rfl, _⟩ | ⟨rfl, _⟩ | ⟨rfl, _⟩ | ⟨rfl, _⟩ | ⟨rfl, _⟩ | ⟨rfl, _⟩ | ⟨rfl, _⟩ | ⟨rfl, _⟩ | ⟨rfl, _⟩ | ⟨rfl, _⟩
  · exact e _ _ (S []) _ .star trivial (by decide +kernel) (by decide +kernel) rfl
  · exact e _ _ (S []) _ .star trivial (by decide +kernel) (by decide +kernel) rfl
  · exact e _ _ (S []) _ .star trivial (by decide +kernel) (by decide +kernel) rfl
  · exact e _ _ (S []) _ .star trivial (by decide +kernel) (by decide +kernel) rfl
  · exact e _ _ (S []) _ (.sg 97) (by show _ ∉ _; decide) (by decide +kernel) (by decide +kernel) rfl
  · exact e _ _ (S []) _ (.sg 98) (by show _ ∉ _; decide) (by decide +kernel) (by decide +kernel) rfl
  · exact e _ _ (S []) _ .q trivial (by decide +kernel) (by decide +kernel) rfl
  · exact e _ _ (S []) _ (.set [97, 98]) (by show _ ∈ setsOk; decide) (by decide +kernel) (by decide +kernel) rfl
  · exact e _ _ (S []) _ (.set [33, 97]) (by show _ ∈ setsOk; decide) (by decide +kernel) (by decide +kernel) rfl
  · exact e _ _ (S []) _ (.set [33, 97]) (by show _ ∈ setsOk; decide) (by decide +kernel) (by decide +kernel) rfl
  · exact hw _ rfl
  · exact hw _ rfl
  · exact e _ _ (S []) _ .q trivial (by decide +kernel) (by decide +kernel) rfl
  · exact e _ _ (S []) _ (.set [98, 45, 97]) (by show _ ∈ setsOk; decide) (by decide +kernel) (by decide +kernel) rfl
  · exact e _ _ (S []) _ (.set [33, 98, 45, 97]) (by show _ ∈ setsOk; decide) (by decide +kernel) (by decide +kernel) rfl
theorem drawn_good (n : Nat) (it : Item) (h : (drawn n).1 = some it) : ∃ p, OkPt p ∧ it = toItem p := by
  unfold drawn at h
  rw [List.getD_eq_getElem?_getD] at h
  cases hx : (tabl (S [signOf (n / 16)]))[n % 16]? with
  | none => rw [hx] at h; cases h
  | some x =>
    rw [hx] at h
    obtain ⟨a, b⟩ := x
    have h : a = some it := h
    subst h
    exact tabl_good _ it b (List.mem_of_getElem? hx)
theorem builtGo_good : ∀ (l : List Nat) (its : List Pt) (name : Str), NoSS its → (∀ p ∈ its, OkPt p) → ∃ its', (builtGo l (its.map toItem) name).1 = its'.map toItem ∧ NoSS its' ∧ (∀ p ∈ its', OkPt p) ∧ its'.length ≤ its.length + l.length
  | [], its, name, h1, h2 => ⟨its, rfl, h1, h2, Nat.le_refl _⟩
  | n :: r, its, name, h1, h2 => by
    have key : ∃ its1, addItem (its.map toItem) (drawn n).1 = its1.map toItem ∧ NoSS its1 ∧ (∀ p ∈ its1, OkPt p) ∧ its1.length ≤ its.length + 1 := by
      cases hd : (drawn n).1 with
      | none => exact ⟨its, rfl, h1, h2, by omega⟩
      | some it =>
        obtain ⟨p, hp, rfl⟩ := drawn_good n it hd
        show ∃ its1, (if ((toItem p).barred.isSome || ((its.map toItem).isEmpty || ((its.map toItem).getLast?.getD starI).barred.isSome)) = true then its.map toItem ++ [toItem p] else its.map toItem) = _ ∧ _
        split
        · rename_i hc
          refine ⟨its ++ [p], by simp, noss_snoc its p h1 fun hl => ?_, fun q hq => ?_, by simp⟩
          · intro e
            subst e
            rcases List.eq_nil_or_concat its with rfl | ⟨i0, y, rfl⟩
            · cases hl
            · rw [List.concat_eq_append] at hl hc
              have hy : y = .star := by simpa using hl
              subst hy
              rw [List.map_append] at hc
              simp [toItem, Pt.isStar] at hc
          · rcases List.mem_append.mp hq with hq | hq
            · exact h2 q hq
            · simp at hq; subst hq; exact hp
        · exact ⟨its, rfl, h1, h2, by omega⟩
    obtain ⟨its1, e1, k1, k2, k3⟩ := key
    obtain ⟨its', q1, q2, q3, q4⟩ := builtGo_good r its1 (name ++ (drawn n).2) k1 k2
    refine ⟨its', ?_, q2, q3, by simp only [List.length_cons]; omega⟩
    rw [builtGo, e1]
    exact q1
theorem built_good (numbers : List Nat) : ∃ (its : List Pt) (name : List Nat), built numbers = (its.map toItem, S name) ∧ (∀ p ∈ its, OkPt p) ∧ NoSS its ∧ its.length ≤ numbers.length ∧ name.length ≤ 6 := by
  obtain ⟨its, h1, h2, h3, h4⟩ := builtGo_good numbers [] (Str.ofString "") trivial (fun p h => by cases h)
  refine ⟨its, (built numbers).2.cps.toList, ?_, h3, h2, by simpa using h4, ?_⟩
  · rw [S_self]
    show ((builtGo numbers [] (Str.ofString "")).1, _) = _
    rw [show (builtGo numbers [] (Str.ofString "")).1 = its.map toItem from h1]
    rfl
  · show (cutS (builtGo numbers [] (Str.ofString "")).2 none (some 6)).cps.toList.length ≤ 6
    generalize (builtGo numbers [] (Str.ofString "")).2 = x
    have : (cutS x none (some 6)).cps.toList.length ≤ hiC x.length (some 6) - loC x.length none := by
      unfold cutS
      simp
      omega
    have h6 : hiC x.length (some 6) ≤ 6 := by
      show clipAt x.length ((6 : Nat) : Int) ≤ 6
      rw [clipAt_nat]; omega
    omega
theorem part_isStar (p : Pt) : decide (p.part = none) = p.isStar := by cases p <;> rfl
end -- QGood

section -- QTab
/-- _translate stands there, and T is the table of its code's codes -/
noncomputable def TraAt (mg : Str → Option Value) (h : Heap) (T : Addr) : Prop :=
  ∃ a cc o pm doc, mg (Str.ofString "_translate") = some (.ref a) ∧ h.get? a = some o ∧ o.data = .func (Calls.docDef (defAt 9).name (defAt 9).params (defAt 9).body (defAt 9).scope pm (.ref cc) doc) ∧ CodeHd h cc T
theorem TraAt.kp {mg : Str → Option Value} {T : Addr} {l : List Addr} {h h' : Heap} (x : TraAt mg h T) (hk : Kp l h h') (hl : Tabs l h) : TraAt mg h' T := by
  obtain ⟨a, cc, o, pm, doc, h1, h2, h3, h4⟩ := x
  exact ⟨a, cc, o, pm, doc, h1, hk.noDict hl h2 (fun _ _ q => by rw [h3] at q; cases q), h3, hk.codeHd hl h4⟩

inductive PCT (A : Around) (s : Shared) (T : Addr) (P : Facts) (Q : D → Prop) (r : Result) (s' : Shared) : Prop
  | mk (v : Value) (e : D) (P' : Facts) (ps' : Array Value) (hr : r = .ok (.ret v)) (hk : Kp (frs A) (gone s.heap [T]) (gone s'.heap [T])) (hT : s'.heap.get? T = some (tabObj ps')) (hps : TriplesOk ps'.toList) (hg : AllBare s'.gens) (ho : s'.os = s.os) (l : Le P P')
      (h1 : ∀ a o, P' a o → (gone s'.heap [T]).get? a = some o) (h2 : ∀ a o, P' a o → P a o ∨ (gone s.heap [T]).get? a = none) (hv : R P' [] v e) (q : Q e) : PCT A s T P Q r s'
noncomputable abbrev kEndT (T : Addr) (Q : D → Prop) : Fl → List (Str × D) → List MO → Prop := fun fl σ' μ' => ∃ e e' ps', (fl = .ret e ∨ (fl = .next ∧ e = .none)) ∧ μ'[0]? = some (.tab T ps') ∧ TriplesOk ps'.toList ∧ Res μ' e e' ∧ Q e'
/-- the contract of a def that may write the table of a code's codes -/
noncomputable def ConT (prog : Program) (w : World) (mg mb : Str → Option Value) (n : Nat) (T : Addr) (d : DefRec) (ds : List D) (Q : D → Prop) : Prop :=
  ∀ (A : Around) (s : Shared) (a : Addr) (vs : List Value) (P : Facts) (ps : Array Value), Base mg mb (gone s.heap [T]) → TraAt mg (gone s.heap [T]) T → mg d.name = some (.ref a) → IsFn (gone s.heap [T]) a d → AllBare s.gens → A.depth + n < 1000 → A.units + 20 * n < 9900 → A.handled = none → FrOk A (gone s.heap [T]) P →
    s.heap.get? T = some (tabObj ps) → TriplesOk ps.toList → (∀ a o, P a o → (gone s.heap [T]).get? a = some o) → Rs P [] vs ds →
    codeAny (model prog w) A (.call (.ref a) ⟨vs, []⟩) (PCT A s T P Q) s

theorem ConT.mono {prog : Program} {w : World} {mg mb : Str → Option Value} {n : Nat} {T : Addr} {d : DefRec} {ds : List D} {Q Q' : D → Prop} (h : ConT prog w mg mb n T d ds Q) (k : ∀ e, Q e → Q' e) : ConT prog w mg mb n T d ds Q' :=
  fun A s a vs P ps h1 h2 h3 h4 h5 h6 h7 h8 h9 h10 h11 h12 h13 => codeAny_mono (h A s a vs P ps h1 h2 h3 h4 h5 h6 h7 h8 h9 h10 h11 h12 h13) fun r s' ⟨v, e, P', ps', q1, q2, q3, q4, q5, q6, q7, q8, q9, q10, q11⟩ => ⟨v, e, P', ps', q1, q2, q3, q4, q5, q6, q7, q8, q9, q10, k _ q11⟩

noncomputable def cxOfT (prog : Program) (w : World) (A : Around) (s : Shared) (fd : FuncData) (a : Addr) (n : Nat) (P : Facts) (T : Addr) : Cx :=
  { cxOf prog w A s fd a n P with h₀ := gone s.heap [T] }

section
variable {c : Cx} {σ σ' : List (Str × D)} {μ : List MO} {P : Facts} {φ : List Addr} {s : Shared} {mg mb : Str → Option Value} {Q : D → List MO → Prop}

theorem call_introT {prog : Program} {w : World} {n : Nat} {fd : FuncData} {body : List Stmt} {ds : List D} {Q : D → Prop} {xs : List Str} {A : Around} {s : Shared} {a T : Addr} {o : Obj} {vals vs : List Value} {P : Facts} {ps : Array Value}
    (B : Base mg mb (gone s.heap [T])) (ho : (gone s.heap [T]).get? a = some o) (hdat : o.data = .func fd) (hcd : (gone s.heap [T]).CodeRec fd.code fd.qualname) (hbody : fd.body = .stmts body) (hclo : fd.closure = []) (hglob : fd.globals = mainGlobals) (hbltn : fd.builtins = builtinsNs)
    (hbind : ∀ (A : Around) (Q : List (Str × Value) → Shared → Prop) (E : Value → Shared → Prop), Q (xs.zip vs) s → wpAny (model prog w) A (bindArgs fd ⟨vals, []⟩) Q E s) (hlen : xs.length = ds.length) (hnd : xs.Nodup)
    (hg : AllBare s.gens) (hd : A.depth + (n + 1) < 1000) (hu : A.units + 20 * (n + 1) < 9900) (hh : A.handled = none) (hfr : FrOk A (gone s.heap [T]) P) (hT : s.heap.get? T = some (tabObj ps)) (hp : ∀ a o, P a o → (gone s.heap [T]).get? a = some o) (hr : Rs P [] vs ds)
    (hkind : ∀ x ∈ xs, fd.scope.names.lookup x = some .local ∨ fd.scope.names.lookup x = some .cell)
    (hnm : (fd.scope.names.all fun p => !(p.1 == ("__debug__" : Str)) && !(p.1 == ("__classdict__" : Str))) = true) (hcn : ((cellsFrom 0 fd.scope.names []).map (·.1)).Nodup) (hco : fd.scope.isCoroutine = false) (hgen : fd.scope.isGenerator = false) (hk : fd.scope.kind = .function)
    (h : ∀ c : Cx, c.prog = prog → c.w = w → c.env.scope = fd.scope → c.n = n → c.ro = false → c.env.code = fd.code → c.h₀ = gone s.heap [T] → c.Ok mg mb →
      TrT c (xs.zip ds) [.tab T ps] (execs body c.env) (kEndT T Q)) :
    codeAny (model prog w) A (.call (.ref a) ⟨vals, []⟩) (PCT A s T P Q) s := by
  have hvl : vs.length = xs.length := by rw [hr.length, hlen]
  have hcellk : ∀ n : Nat, ∀ x : Str, fd.scope.names.lookup x = some .cell → ((cellsFrom n fd.scope.names []).lookup x).isSome = true := fun n x hx => cellsFrom_some _ _ _ (.inl hx)
  have hold : ∀ b o, (gone s.heap [T]).get? b = some o → s.heap.get? b = some o := fun b o e => (gone_some e).2
  refine codeAny_call_cellsW (by show A.depth < 1000; omega) (hold _ _ ho) hdat (let ⟨mc, p, q⟩ := B.lim; ⟨mc, p.keeps hold, q⟩) (hcd.keeps hold) hbody hbind hclo (fun x hx => ?_) (fun s₁ C => ?_) hco hgen hk
  · have hx1 : x.1 ∈ xs := (List.of_mem_zip hx).1
    rcases hkind x.1 hx1 with q | q
    · exact .inl q
    · exact .inr ⟨q, hcellk _ _ q⟩
  · obtain ⟨h₁, tk, rfl, hkeep⟩ := C.done
    have K : (cxOfT prog w A s fd a n P T).Ok mg mb :=
      { kind := hk, glob := hglob, blt := hbltn, base := B, depth := by show A.depth + 1 + n < 1000; omega, units := by show A.units + 3 + 20 * n < 9900; omega, handled := hh
        nm := fun x k hx => by
          have := List.all_eq_true.mp hnm (x, k) (mem_of_lookup (show fd.scope.names.lookup x = some k from hx))
          simpa [Bool.and_eq_true] using this
        wcs := fun x y ca h1 h2 => name_of_addr C.apart (mem_of_lookup h1) (mem_of_lookup h2)
        fr := by
          obtain ⟨outer, e, ho⟩ := hfr
          refine ⟨outer, by show A.frames.map _ = _; rw [e]; rfl, fun env he => ?_⟩
          obtain ⟨h1, L, h2, _⟩ := ho env he
          refine ⟨h1, L, ?_, h2⟩
          show L ∈ (A.frames.getD []).filterMap (·.frame)
          rw [e]; exact List.mem_filterMap.mpr ⟨env, he, h2⟩
        fl := fun _ => rfl
        upOk := fun L hL => by
          obtain ⟨outer, e, ho⟩ := hfr
          have hL' : L ∈ (A.frames.getD []).filterMap (·.frame) := hL
          rw [e] at hL'
          obtain ⟨env, he, hf⟩ := List.mem_filterMap.mp hL'
          obtain ⟨_, L', h2, h3, h4⟩ := ho env he
          rw [hf] at h2; cases h2
          exact ⟨h3, h4⟩ }
    have hL : ∀ b o, s.heap.get? b = some o → b < s.heap.objs.size := fun b o e => Heap.lt_size e
    have hnew0 : ∀ b ∈ (cxOfT prog w A s fd a n P T).env.locals :: (cxOfT prog w A s fd a n P T).wc, s.heap.get? b = none := fun b hb => by
      cases e : s.heap.get? b with
      | none => rfl
      | some o' =>
        exfalso
        have hlt := hL b o' e
        rcases List.mem_cons.mp hb with rfl | hb'
        · exact Nat.lt_irrefl _ hlt
        · obtain ⟨p, hp, rfl⟩ := List.mem_map.mp hb'
          have h2 : s.heap.objs.size < p.2 := C.above p.1 p.2 hp
          have h3 : p.2 < s.heap.objs.size := hlt
          exact Nat.lt_irrefl _ (Nat.lt_trans h2 h3)
    have I : Inv (cxOfT prog w A s fd a n P T) (xs.zip ds) [.tab T ps] P [T] { s with heap := h₁, toks := tk } := by
      have hnew : ∀ b ∈ own (cxOfT prog w A s fd a n P T) [T], (gone s.heap [T]).get? b = none := fun b hb => by
        rcases List.mem_append.mp (show b ∈ ((cxOfT prog w A s fd a n P T).env.locals :: (cxOfT prog w A s fd a n P T).wc) ++ [T] from hb) with hb | hb
        · cases e : (gone s.heap [T]).get? b with
          | none => rfl
          | some o' => have := hold _ _ e; rw [hnew0 b hb] at this; cases this
        · exact gone_mem hb
      refine ⟨fun b o h => hkeep b o (hold _ _ (hp b o h)), .of fun b o e => hkeep b o (hold b o e), fun _ _ h => .inl h, hg, rfl, ⟨_, C.toInCall.ns⟩, fun _ x hx => ?_, fun x e hx => ?_, rfl, fun k b m h1 h2 => ?_, ?_, fun b hb o' e => ?_, hnew, fun b hb => ?_⟩
      · obtain ⟨ca, hca⟩ := Option.isSome_iff_exists.mp (hcellk (s.heap.objs.size + 1) x hx)
        exact ⟨ca, _, hca, List.mem_map.mpr ⟨(x, ca), mem_of_lookup hca, rfl⟩, C.cell x ca hca⟩
      · obtain ⟨v, hv, r⟩ := zip_R hr hx
        have hx1 : x ∈ xs := (List.of_mem_zip hx).1
        have hnn : ((xs.zip vs).map (·.1)).Nodup := by rw [zip_names xs vs hvl.symm]; exact hnd
        refine ⟨v, ?_, r.mono (fun _ _ h => h) (List.nil_prefix)⟩
        rcases hkind x hx1 with q | q
        · exact .inl ⟨q, _, C.toInCall.ns, bindL_at q _ _ hnn hv⟩
        · obtain ⟨ca, hca⟩ := Option.isSome_iff_exists.mp (hcellk (s.heap.objs.size + 1) x q)
          refine .inr (.inl ⟨q, ca, hca, List.mem_map.mpr ⟨(x, ca), mem_of_lookup hca, rfl⟩, ?_⟩)
          have := C.cell x ca hca
          rw [bindC_at q _ _ hnn hv] at this
          exact this
      · cases k with
        | zero =>
          simp at h1 h2; subst h1 h2
          exact ⟨_, hkeep _ _ hT, .tab rfl⟩
        | succ k => simp at h1
      · refine List.nodup_append.mpr ⟨List.nodup_cons.mpr ⟨fun hm => ?_, ?_⟩, by simp, fun x hx y hy => ?_⟩
        · obtain ⟨p, hp, e⟩ := List.mem_map.mp hm
          have := C.above p.1 p.2 hp
          rw [e] at this
          exact Nat.lt_irrefl _ this
        · exact (List.pairwise_map.mpr C.apart)
        · simp at hy; subst hy
          intro e; subst e
          have := hnew0 _ hx
          rw [hT] at this; cases this
      · have := hnew b hb
        rw [hp b o' e] at this; cases this
      · obtain ⟨p, hp, rfl⟩ := List.mem_map.mp hb
        obtain ⟨o, e, _⟩ := C.cell p.1 p.2 (lookup_of_mem_nodup (cellsFrom_names fd.scope.names 0 (s.heap.objs.size + 1) [] [] rfl ▸ hcn) hp)
        exact ⟨o, e⟩
    refine (h _ rfl rfl rfl rfl rfl rfl rfl K).at I fun f s' fl σ' μ' P' φ' l r I' q => ?_
    obtain ⟨e, e', ps', hfl, hm0, hps, hres, hq⟩ := q
    have hφ0 : φ'[0]? = some T ∧ s'.heap.get? T = some (tabObj ps') := by
      have hl0 : 0 < φ'.length := I'.len ▸ (List.getElem?_eq_some_iff.mp hm0).1
      obtain ⟨o, h1, h2⟩ := I'.mu 0 φ'[0] _ (List.getElem?_eq_getElem hl0) hm0
      cases h2 with
      | tab h3 =>
        refine ⟨h3, ?_⟩
        rw [List.getElem?_eq_getElem hl0] at h3
        cases h3
        exact h1
    obtain ⟨hφ, hTs⟩ := hφ0
    have hTown : T ∈ own (cxOfT prog w A s fd a n P T) φ' := List.mem_append_right _ (List.mem_of_getElem? hφ)
    have hkk : Kp (frs A) (gone s.heap [T]) (gone s'.heap [T]) := fun b o e => by
      have hb : b ∉ [T] := (gone_some e).1
      obtain ⟨h1, sl, h2⟩ := I'.base b o e
      exact ⟨fun hl => (gone_other hb).trans (h1 hl), sl, (gone_other hb).trans h2⟩
    have fin : ∀ v, R P' φ' v e → PCT A s T P Q (.ok (.ret v)) s' := fun v hr' => by
      refine ⟨v, e', (fun b o => P' b o ∨ (b ∈ φ' ∧ b ≠ T ∧ s'.heap.get? b = some o)), ps', rfl, hkk, hTs, hps, I'.gens, I'.os, l.trans fun _ _ h => .inl h, fun b o hbo => ?_,
        fun b o h => h.elim (I'.src b o) (fun h => .inr (I'.apart₀ b (List.mem_append_right _ h.1))), ?_, hq⟩
      · have hb : b ≠ T := fun e => hbo.elim (fun q => I'.apart T hTown o (e ▸ q)) (fun q => q.2.1 e)
        refine (gone_other (by simpa using hb)).trans ?_
        exact hbo.elim (I'.fz b o) (·.2.2)
      · refine (res_ok I' hres hr').sub fun b o h hs => ?_
        rcases h with h | ⟨h1, h2⟩
        · exact .inl h
        · refine .inr ⟨h1, fun e => ?_, h2⟩
          subst e
          rw [hTs] at h2; cases h2
          obtain ⟨vs, n, q⟩ := hs
          cases q
    rcases hfl with rfl | ⟨rfl, rfl⟩
    · cases r with
      | ret hr' => exact fin _ hr'
    · cases r
      exact fin _ .none

theorem con_introT {prog : Program} {w : World} {n : Nat} {T : Addr} {d : DefRec} {ds : List D} {Q : D → Prop} {xs : List Str}
    (hbind : ∀ pm code doc vs, vs.length = xs.length → bindArgs (Calls.docDef d.name d.params d.body d.scope pm code doc) ⟨vs, []⟩ = pure (xs.zip vs)) (hlen : xs.length = ds.length) (hnd : xs.Nodup)
    (hkind : ∀ x ∈ xs, d.scope.names.lookup x = some .local ∨ d.scope.names.lookup x = some .cell)
    (hnm : (d.scope.names.all fun p => !(p.1 == ("__debug__" : Str)) && !(p.1 == ("__classdict__" : Str))) = true) (hcn : ((cellsFrom 0 d.scope.names []).map (·.1)).Nodup) (hco : d.scope.isCoroutine = false) (hgen : d.scope.isGenerator = false) (hk : d.scope.kind = .function)
    (h : ∀ (c : Cx) (a : Addr) (ps : Array Value) o pm code doc, c.prog = prog → c.w = w → c.env.scope = d.scope → c.n = n → c.ro = false → c.Ok mg mb → TriplesOk ps.toList → TraAt mg c.h₀ T → mg d.name = some (.ref a) → c.h₀.get? a = some o → o.data = .func (Calls.docDef d.name d.params d.body d.scope pm code doc) → c.env.code = code →
      TrT c (xs.zip ds) [.tab T ps] (execs d.body c.env) (kEndT T Q)) :
    ConT prog w mg mb (n + 1) T d ds Q := fun A s a vs P ps B ht hma F hg hd hu hh hfr hT htr hp hr => by
  obtain ⟨o, pm, code, doc, ho, hdat, hcd⟩ := F
  have hvl : vs.length = xs.length := by rw [hr.length, hlen]
  exact call_introT (vs := vs) (xs := xs) B ho hdat hcd rfl rfl rfl rfl (fun A Q E h => wpAny_of_eq (hbind pm code doc vs hvl) h) hlen hnd hg hd hu hh hfr hT hp hr hkind hnm hcn hco hgen hk fun c h1 h2 h3 h4 h5 h6 h7 K => h c a ps o pm code doc h1 h2 h3 h4 h5 K htr (h7 ▸ ht) hma (h7 ▸ ho) hdat h6
end
end -- QTab

section -- QTab2
section
variable {c : Cx} {σ σ' : List (Str × D)} {μ : List MO} {P : Facts} {φ : List Addr} {s : Shared} {mg mb : Str → Option Value} {Q : D → List MO → Prop} {T : Addr} {ps : Array Value}

theorem tab_at (I : Inv c σ μ P φ s) (hm : μ[0]? = some (.tab T ps)) : φ[0]? = some T ∧ s.heap.get? T = some (tabObj ps) := by
  have hl0 : 0 < φ.length := I.len ▸ (List.getElem?_eq_some_iff.mp hm).1
  obtain ⟨o, h1, h2⟩ := I.mu 0 φ[0] _ (List.getElem?_eq_getElem hl0) hm
  cases h2 with
  | tab h3 =>
    refine ⟨h3, ?_⟩
    rw [List.getElem?_eq_getElem hl0] at h3
    cases h3
    exact h1
theorem tab_own (I : Inv c σ μ P φ s) (hm : μ[0]? = some (.tab T ps)) : T ∈ own c φ := List.mem_append_right _ (List.mem_of_getElem? (tab_at I hm).1)
theorem tab_ne (I : Inv c σ μ P φ s) (hm : μ[0]? = some (.tab T ps)) {b : Addr} {o : Obj} (e : c.h₀.get? b = some o) : b ≠ T := fun q => by
  rw [q, I.apart₀ T (tab_own I hm)] at e; cases e
theorem tab_kp (I : Inv c σ μ P φ s) (hm : μ[0]? = some (.tab T ps)) : Kp c.up c.h₀ (gone s.heap [T]) := fun b o e => by
  have hb : b ∉ [T] := by simpa using tab_ne I hm e
  obtain ⟨h1, sl, h2⟩ := I.base b o e
  exact ⟨fun hl => (gone_other hb).trans (h1 hl), sl, (gone_other hb).trans h2⟩
theorem tab_frok (K : c.Ok mg mb) (I : Inv c σ μ P φ s) (hm : μ[0]? = some (.tab T ps)) : FrOk c.A (gone s.heap [T]) P := by
  obtain ⟨outer, e, ho⟩ := K.fr
  have hout : ∀ env ∈ outer, env.scope.kind ≠ .module ∧ ∃ L, env.frame = some L ∧ (∃ o es ep, (gone s.heap [T]).get? L = some o ∧ o.data = .dict es ep ∧ StrKeys es) ∧ ∀ o, ¬ P L o := fun env he => by
    obtain ⟨h1, L, hL, h2⟩ := ho env he
    obtain ⟨⟨o', es, ep, e1, d, kd⟩, hP⟩ := K.upOk L hL
    obtain ⟨o'', e2, d2⟩ := (tab_kp I hm).data e1
    refine ⟨h1, L, h2, ⟨o'', es, ep, e2, d2.trans d, kd⟩, fun o3 h3 => ?_⟩
    rcases I.src L o3 h3 with q | q
    · exact hP o3 q
    · rw [e1] at q; cases q
  refine ⟨_, e, fun env he => ?_⟩
  by_cases hro : c.ro = true
  · rw [if_pos hro] at he; exact hout env he
  · rw [if_neg hro] at he
    rcases List.mem_cons.mp he with rfl | he
    · obtain ⟨m, o', es, ep, e1, d, kd, _⟩ := I.ns
      have hne : c.env.locals ≠ T := fun q => (List.nodup_append.mp I.nd).2.2 _ (List.mem_cons_self ..) T (List.mem_of_getElem? (tab_at I hm).1) q
      exact ⟨by rw [K.kind]; decide, _, K.fl (by simpa using hro), ⟨o', es, ep, (gone_other (by simpa using hne)).trans e1, d, kd⟩, I.apart _ (List.mem_cons_self ..)⟩
    · exact hout env he

/-- a call that may write the table -/
theorem ev_tabcall {x : Str} {i k n : Nat} {p pos : Pos} {e : Expr} {args : List Expr} (hx : (defAt i).name = x) (hi : (recsOf PySem.Challenge.pw_in0050_01)[k]? = some (defAt i)) (K : c.Ok mg mb) (ht : TraAt mg c.h₀ T) (hn : n ≤ c.n) (hk : c.env.kindOf x = some .globalImplicit)
    (hs : notStar e = true)
    (h : EvsT c σ μ (spliced (backTo pos (starEach (e :: args) c.env))) (fun ds μ₂ => Ds.pure ds = true ∧ ∃ ps, μ₂[0]? = some (.tab T ps) ∧ TriplesOk ps.toList ∧ ConT c.prog c.w mg mb n T (defAt i) ds (fun r => D.pure r = true ∧ ∀ ps', TriplesOk ps'.toList → Q r (μ₂.set 0 (.tab T ps'))))) :
    EvT c σ μ (eval (.Call (.Name x p) (e :: args) [] pos) c.env) Q := by
  obtain ⟨a, hma, hF⟩ := K.base.fn _ (List.mem_of_getElem? hi)
  have hev : EvT c σ μ (eval (.Name x p) c.env) (fun d μ' => d = .opq (.ref a) ∧ μ' = μ) := ev_global K hk (hx ▸ hma) ⟨rfl, rfl⟩
  exact fun P φ s I => Call_ (hev.at I fun v s₁ d' μ₁ P₁ φ₁ l₁ f₁ r₁ I₁ ⟨hd, hμ⟩ => by
    subst hd hμ; (first | obtain rfl := r₁.inv | obtain ⟨_, rfl⟩ := r₁.inv)
    obtain ⟨o, pm, code, doc, ho, hdat, hcd⟩ := id hF
    have hup : ∀ L ∈ c.up, ∃ o, c.h₀.get? L = some o := fun L hL => let ⟨⟨o, _, _, e, _, _⟩, _⟩ := K.upOk L hL; ⟨o, e⟩
    have hna : a ∉ c.up := fun hm => by
      obtain ⟨⟨o', es, ep, e, d, _⟩, _⟩ := K.upOk a hm
      rw [ho] at e; cases e; rw [hdat] at d; cases d
    refine callWith_def hdat (h.at I₁ fun vs s₂ ds μ₂ P₂ φ₂ l₂ f₂ r₂ I₂ ⟨hpure, ps, hm, htr, hcon⟩ => ⟨I₂.base.out ho hna, wpAny_call ?_⟩) (star_of hs)
    obtain ⟨hφ0, hTs⟩ := tab_at I₂ hm
    have hkp := tab_kp I₂ hm
    have hown := tab_own I₂ hm
    refine codeAny_mono (hcon c.A s₂ a vs P₂ ps (K.base.kp hkp K.tabs) (ht.kp hkp K.tabs) hma (hF.kp hkp) I₂.gens ?_ ?_ K.handled (tab_frok K I₂ hm) hTs htr (fun b o h => ?_) (r₂.pure hpure))
      fun r s' ⟨v, e, P', ps', q1, q2, q3, q4, q5, q6, q7, q8, q9, q10, q11, q12⟩ => ?_
    · have := K.depth; omega
    · have := K.units; omega
    · have hb : b ≠ T := fun q => I₂.apart T hown o (q ▸ h)
      exact (gone_other (by simpa using hb)).trans (I₂.fz b o h)
    · subst q1
      have hset := Heap.get?_update_self (fun _ => tabObj ps') hTs rfl
      have J1 := I₂.setMu (h' := s₂.heap.update T fun _ => tabObj ps') (t := s₂.toks) hφ0 (Heap.SameBut.update ..) hset (m := .tab T ps') (.tab hφ0)
      refine ⟨e, μ₂.set 0 (.tab T ps'), P', φ₂, (l₁.trans l₂).trans q7, f₁.trans f₂, q10.pure q11, J1.growK (l := frs c.A) q5 q6 (fun b o eb => ?_) (frs_own K) hup q7 (fun b o hb => (gone_some (q8 b o hb)).2) (fun b o hb => ?_), q12 _ q4⟩
      · by_cases hbT : b = T
        · subst hbT
          rw [show ({ s₂ with heap := s₂.heap.update b fun _ => tabObj ps', toks := s₂.toks } : Shared).heap.get? b = _ from hset] at eb
          cases eb
          exact ⟨fun _ => q3, _, q3⟩
        · have e2 : s₂.heap.get? b = some o := (Heap.get?_update_other _ _ (Ne.symm hbT)).symm.trans eb
          obtain ⟨h1, sl, h2⟩ := q2 b o ((gone_other (by simpa using hbT)).trans e2)
          exact ⟨fun hl => (gone_some (h1 hl)).2, sl, (gone_some h2).2⟩
      · rcases q9 b o hb with q | q
        · exact .inl q
        · refine .inr ?_
          have hbT : b ≠ T := fun eb => (gone_some (q8 b o hb)).1 (by simp [eb])
          exact (Heap.get?_update_other _ _ (Ne.symm hbT)).trans ((gone_other (by simpa using hbT)).symm.trans q)) name_call
end
end -- QTab2

section -- QLam
theorem plainAttrs_pat : PlainAttrs "re.Pattern" :=
  ⟨⟨"object.__getattribute__", by rw [typeLookup_type, builtinLookup_eq_fast]; kernel_rfl, by decide +kernel⟩, by rw [typeLookup_type, builtinLookup_eq_fast]; kernel_rfl⟩
theorem type_sub : typeOf (.builtin "re.Pattern.sub") = pure (.type "method_descriptor") := by show builtinType _ = _; rw [builtinType_eq_fast]; kernel_rfl

section
variable {c : Cx} {σ σ' : List (Str × D)} {μ : List MO} {P : Facts} {φ : List Addr} {s : Shared} {mg mb : Str → Option Value} {Q : D → List MO → Prop} {T : Addr} {ps ps' : Array Value}

/-- the table written, and new objects -/
theorem Inv.tabbed (I : Inv c σ μ P φ s) (hm : μ[0]? = some (.tab T ps)) {h' : Heap} (hx : Heap.ExtBut T s.heap h') (hT : h'.get? T = some (tabObj ps')) {g : Array GenState} (hg : AllBare g) (t : Nat) {dr : Drawn} :
    Inv c σ (μ.set 0 (.tab T ps')) P φ { heap := h', gens := g, drawn := dr, toks := t, os := s.os } := by
  obtain ⟨hφ0, hTs⟩ := tab_at I hm
  have hset := Heap.get?_update_self (fun _ => tabObj ps') hTs rfl
  have J1 := I.setMu (h' := s.heap.update T fun _ => tabObj ps') (t := s.toks) hφ0 (Heap.SameBut.update ..) hset (m := .tab T ps') (.tab hφ0)
  have hk : ∀ b o, (s.heap.update T fun _ => tabObj ps').get? b = some o → h'.get? b = some o := fun b o e => by
    by_cases hb : b = T
    · subst hb; rw [hset] at e; cases e; exact hT
    · exact hx b o hb ((Heap.get?_update_other _ _ (Ne.symm hb)).symm.trans e)
  exact J1.grow' (s' := { heap := h', gens := g, drawn := dr, toks := t, os := s.os }) hg rfl hk (fun _ _ h => h) (fun a o h => hk _ _ (J1.fz _ _ h)) (fun _ _ h => .inl h)

theorem code_hd (K : c.OkW mg mb) (I : Inv c σ μ P φ s) {cc : Addr} (hC : CodeHd c.h₀ cc T) : CodeHd s.heap cc T := by
  obtain ⟨oc, vs, file, tf, fl, tg, inF, tx, tt, q1, q2, q3, q4⟩ := hC
  exact ⟨oc, vs, file, tf, fl, tg, inF, tx, tt, I.base.noDict K.tabs q1 (fun _ _ q => by rw [q3] at q; cases q), q2, q3, q4⟩

/-- a lambda, its code new or known -/
theorem lambda_wp {M : Model} {A : Around} {E : Value → Shared → Prop} {X : Value → Shared → Prop} (K : c.OkW mg mb) (I : Inv c σ μ P φ s) {cc : Addr} (hcode : c.env.code = .ref cc) (hC : CodeHd c.h₀ cc T) (hm : μ[0]? = some (.tab T ps)) (htr : TriplesOk ps.toList)
    {params : Arguments} {body : Expr} {scope : Scope} {pos : Pos} (hdef : defaultsOf params c.env = ([], [])) (hcl : closureFor scope c.env = pure [])
    (h : ∀ f fo ps' s', TriplesOk ps'.toList → Inv c σ (μ.set 0 (.tab T ps')) P φ s' → s'.heap.get? f = some fo → fo.cls = .type "function" → X (.ref f) s') :
    wpAny M A (eval (.Lambda params body scope pos) c.env) X E s := by
  obtain ⟨hφ0, hTs⟩ := tab_at I hm
  have hCs := code_hd K I hC
  have hgs : s.heap.Ns mainGlobals mg := I.base.ns K.base.g
  have hgP : mainGlobals ≠ T := fun q => by
    obtain ⟨o, es, ep, e, hd, _⟩ := hgs
    rw [q, hTs] at e; cases e; cases hd
  obtain ⟨bm, ob, b1, b2, b3, b4, b5, b6, b7⟩ := K.base.bmod
  have b4' := I.base.noDict K.tabs b4 (fun _ _ q => by rw [b7] at q; cases q)
  have hbP : bm ≠ T := fun q => by rw [q, hTs] at b4'; cases b4'; cases b5
  refine kla_eval hdef ?_
  cases hf : codeAmong pos ps.toList with
  | none =>
    refine kla_makeFunction (mg := mg) hcl K.glob hgs hcode hCs hTs htr hf hgP ⟨bm, ob, b1, b2, b3, hbP, b4', b5, b6, b7⟩ fun c' ctv h' tk hx hge hlt hrec htb => ?_
    have hps : TriplesOk (ps ++ #[rawInt pos.line, rawInt pos.col, .ref c']).toList := by
      rw [Array.toList_append]; exact TriplesOk_snoc _ _ _ _ htr
    have hx2 : Heap.ExtBut T s.heap (h'.push (kla_obj "<lambda>" (c.env.qual ++ "<lambda>") params body scope [] ((mg "__name__").getD .none) c' ctv)) := fun b o hb e => Heap.get?_push_of_some _ (hx b o hb e)
    exact h _ _ _ _ hps (I.tabbed hm hx2 (Heap.get?_push_of_some _ htb) I.gens tk) (Heap.get?_push_size _ rfl) rfl
  | some cv =>
    refine kla_makeFunctionHit (mg := mg) hcl K.glob hgs hcode hCs hTs htr hf ⟨bm, ob, b1, b2, b3, hbP, b4', b5, b6, b7⟩ fun ctv h' tk hk hsz => ?_
    have hx2 : Heap.ExtBut T s.heap (h'.push { cls := .type "function", data := .func (kla_fn "<lambda>" (c.env.qual ++ "<lambda>") params body scope [] ((mg "__name__").getD .none) cv ctv) }) := fun b o hb e => Heap.get?_push_of_some _ (hk b o e)
    exact h _ _ ps _ htr (I.tabbed hm hx2 (Heap.get?_push_of_some _ (hk _ _ hTs)) I.gens tk) (Heap.get?_push_size _ rfl) rfl

/-- _twin_re_1.sub(lambda .., x), x one of the texts that no sign of the pattern's stands in -/
theorem ev_resub (K : c.Ok mg mb) {x : List Nat} (hx : x ∈ subTexts) {cc : Addr} (hcode : c.env.code = .ref cc) (hC : CodeHd c.h₀ cc T) (hm : μ[0]? = some (.tab T ps)) (htr : TriplesOk ps.toList)
    {st : Str} (hst : (st, .str (S x)) ∈ σ) (hk : c.env.kindOf (Str.ofString "_twin_re_1") = some .globalImplicit)
    {params : Arguments} {body : Expr} {scope : Scope} {p1 apos lpos p2 pos : Pos} (hdef : defaultsOf params c.env = ([], [])) (hcl : closureFor scope c.env = pure []) (hline : (apos.endLine == pos.line) = true)
    (h : ∀ ps', TriplesOk ps'.toList → Q (.str (S x)) (μ.set 0 (.tab T ps'))) :
    EvT c σ μ (eval (.Call (.Attribute (.Name (Str.ofString "_twin_re_1") p1) "sub" apos) [.Lambda params body scope lpos, .Name st p2] [] pos) c.env) Q := by
  obtain ⟨pa, ac, h1, h2, h3⟩ := K.base.pat
  have hev : EvT c σ μ (eval (.Name (Str.ofString "_twin_re_1") p1) c.env) (fun d μ' => d = .opq (.ref pa) ∧ μ' = μ) := ev_global K hk h1 ⟨rfl, rfl⟩
  have hs1 : starEach [.Lambda params body scope lpos, .Name st p2] c.env = (false, eval (.Lambda params body scope lpos) c.env) :: starEach [.Name st p2] c.env := rfl
  exact fun P φ s I => wpAny_Call_method rfl rfl hline plainAttrs_pat slot_sub type_sub (hev.at I fun v s₁ d' μ₁ P₁ φ₁ l₁ f₁ r₁ I₁ ⟨hd, hμ⟩ => by
    subst hd hμ; (first | obtain rfl := r₁.inv | obtain ⟨_, rfl⟩ := r₁.inv)
    have hp₁ := I₁.base.noDict K.tabs h2 (fun _ _ q => by cases q)
    refine ⟨⟨_, hp₁, rfl⟩, fun a ha => by cases ha; exact ⟨_, hp₁, rfl⟩, ?_⟩
    refine callWith_method1 ?_ hs1 (plain_all (es := [.Name st p2]) rfl)
    refine args_cons ?_ hs1
    refine lambda_wp K.toOkW I₁ hcode hC hm htr hdef hcl fun f fo ps' s₂ htr' I₂ hf hfc => ?_
    refine args_cons ?_ rfl
    refine wpAny_Name (load_ok K.toOkW I₂ hst fun v r _ => ?_) (name_plain K.toOkW I₂ hst)
    refine args_nil ?_
    obtain ⟨tk, rfl⟩ := r.inv
    have hp₂ := I₂.base.noDict K.tabs h2 (fun _ _ q => by cases q)
    have hc₂ := I₂.base.noDict K.tabs h3 (fun _ _ q => by cases q)
    obtain ⟨hh, g, dr, t, os⟩ := s₂
    refine wpAny_call (sub_in hx hp₂ hc₂ hf hfc fun h' k v hk' => ?_)
    have J := I₂.grow (t := k) hk' (fun _ _ h => h) (fun a o h => hk' _ _ (I₂.fz _ _ h)) (fun _ _ h => .inl h)
    exact ⟨.str (S x), _, P₁, φ₁, l₁, f₁, .str _ _, J, h ps' htr'⟩)
end
end -- QLam

section -- QGen
section
variable {prog : Program} {w : World} {A : Around} {E : Value → Shared → Prop} {s : Shared} {env : Env}
/-- replace, of what does not occur -/
theorem replace_none {x y z : Str} {t u v : Tok} {Q : Value → Shared → Prop} (ho : (Builtin.Str.occurrences x y 0 x.length (x.length + 1)).isEmpty = true) (h : Q (.str x t) s) :
    wpAny (model prog w) A (call (.builtin "str.replace") [.str x t, .str y u, .str z v]) Q E s := by
  refine call_gives F.slot_str_replace (typeIs_str _ _ _) F.entry_str_replace (F.args_str_replace_3 _ _ _) (gives_str_replace x y z t u v fun hc => ?_) ?_
  · rw [ho] at hc; cases hc
  · rw [ho]; exact h

/-- e.replace(y, z), e a text that y does not occur in -/
theorem rep_wp {o : Expr} {x y z : Str} {apos pos p1 p2 : Pos} {k1 k2 : Nat} {t : Tok} {Q : Value → Shared → Prop} (hbase : attributeBase o "replace" env (eval o env) = eval o env) (hline : (apos.endLine == pos.line) = true)
    (ho : (Builtin.Str.occurrences x y 0 x.length (x.length + 1)).isEmpty = true)
    (h : wpAny (model prog w) A (eval o env) (fun v s₁ => v = .str x t ∧ ∀ tk, Q (.str x t) { s₁ with toks := tk }) E s) :
    wpAny (model prog w) A (eval (.Call (.Attribute o "replace" apos) [.Constant (.str y) k1 p1, .Constant (.str z) k2 p2] [] pos) env) Q E s := by
  refine wpAny_Call_method hbase rfl hline F.plainAttrs_str F.slot_str_replace F.type_str_replace (wpAny_mono h (fun v s₁ ⟨hv, hq⟩ => ?_) fun _ _ x => x)
  subst hv
  refine ⟨typeIs_str _ _ _, fun a ha => (by cases ha), ?_⟩
  refine callWith_method1 ?_ rfl rfl
  refine args_cons ?_ rfl
  refine wpAny_Constant_str ?_
  refine args_cons ?_ rfl
  refine wpAny_Constant_str ?_
  refine args_nil ?_
  exact replace_none ho (hq _)
end

section
variable {c : Cx} {σ σ' : List (Str × D)} {μ : List MO} {P : Facts} {φ : List Addr} {s : Shared} {mg mb : Str → Option Value} {Q : D → List MO → Prop} {T : Addr} {ps ps' : Array Value}
noncomputable abbrev repElt (sn : Str) (q1 q2 q3 q4 q5 q6 q7 q8 q9 : Pos) (k1 k2 k3 k4 : Nat) : Expr :=
  .Call (.Attribute (.Call (.Attribute (.Name sn q1) "replace" q2) [.Constant (.str "\\") k1 q3, .Constant (.str "\\\\") k2 q4] [] q5) "replace" q6) [.Constant (.str "-") k3 q7, .Constant (.str "\\-") k4 q8] [] q9

theorem ev_genjoin (K : c.Ok mg mb) {cc : Addr} (hcode : c.env.code = .ref cc) (hC : CodeHd c.h₀ cc T) (hm : μ[0]? = some (.tab T ps)) (htr : TriplesOk ps.toList)
    {gx : List Nat} (hgx : gx = [] ∨ gx = [33]) {ch sn : Str} {kk : Nat} (hch : (ch, .ref kk) ∈ σ) (hkk : μ[kk]? = some (.lst [.str (S gx)])) {scope : Scope} {q1 q2 q3 q4 q5 q6 q7 q8 q9 px pch gpos cpos apos pos : Pos} {k0 k1 k2 k3 k4 : Nat}
    (hco : scope.isCoroutine = false) (hclos : closureFor scope c.env = pure []) (hcell : ∀ y ∈ scope.names, y.2 ≠ .cell) (h0 : scope.names.lookup (".0" : Str) = some NameKind.local)
    (hx : scope.names.lookup sn = some .local) (hdb : (sn == ("__debug__" : Str)) = false) (hkind : scope.kind = .function) (hline : (apos.endLine == pos.line) = true) (hl1 : (q2.endLine == q5.line) = true) (hl2 : (q6.endLine == q9.line) = true)
    (h : ∀ ps', TriplesOk ps'.toList → Q (.str (S gx)) (μ.set 0 (.tab T ps'))) :
    EvT c σ μ (eval (.Call (.Attribute (.Constant (.str "-") k0 cpos) "join" apos) [.GeneratorExp (repElt sn q1 q2 q3 q4 q5 q6 q7 q8 q9 k1 k2 k3 k4) [⟨.Name sn px, .Name ch pch, [], 0⟩] scope gpos] [] pos) c.env) Q := by
  intro P φ s I
  refine wpAny_Call_method rfl rfl hline F.plainAttrs_str F.slot_str_join F.type_str_join (wpAny_Constant_str ?_)
  have I₁ := I.tok (s.toks + 1)
  refine ⟨typeIs_str _ _ _, fun a ha => (by cases ha), ?_⟩
  refine callWith_method1 ?_ rfl rfl
  refine args_cons ?_ rfl
  refine wpAny_GeneratorExp_walksQD (cl := []) (pos := gpos) K.handled hco hclos hcell h0 hx hkind (by have := K.depth; show c.A.depth < 1000; omega) ?_ (fun x => rfl)
  refine (ev_name (Q := fun d μ' => d = .ref kk ∧ μ' = μ) K.toOkW hch ⟨rfl, rfl⟩).at I₁ fun v s₂ d μ₂ P₂ φ₂ l₂ f₂ r₂ I₂ ⟨hd, hμ⟩ => ?_
  subst hd hμ
  obtain ⟨l, rfl, hφ⟩ := r₂.inv
  obtain ⟨ol, hol, hml⟩ := I₂.mu _ _ _ hφ hkk
  obtain ⟨items, n, hlc, hld, hldat, hrs⟩ := hml.inv
  obtain ⟨t0, hit⟩ : ∃ t0, items = #[.str (S gx) t0] := by
    obtain ⟨its⟩ := items
    cases hrs with
    | cons r1 r2 =>
      (first | obtain rfl := r2.inv | obtain ⟨_, rfl⟩ := r2.inv)
      cases r1 with
      | str _ t => exact ⟨t, rfl⟩
  subst hit
  have hlist : s₂.heap.IsList l #[.str (S gx) t0] := ⟨ol, hol, hlc, n, hldat⟩
  have hllt : l < s₂.heap.objs.size := Heap.lt_size hol
  have hlT : l ≠ T := fun q => by
    have := (tab_at I₂ hm).2
    rw [← q, hol] at this; cases this; cases hlc
  refine wpAny_pyIter_list hlist ?_
  have I₃ : Inv c σ μ₂ P₂ φ₂ { s₂ with heap := s₂.heap.push { cls := .type "list_iterator", data := .fields #[.ref l, .int 0 0] } } :=
    I₂.grow (t := s₂.toks) (fun _ _ e => Heap.get?_push_of_some _ e) (fun _ _ h => h) (fun a o h => Heap.get?_push_of_some _ (I₂.fz _ _ h)) (fun _ _ h => .inl h)
  have hlim : ({ s₂ with heap := s₂.heap.push { cls := .type "list_iterator", data := .fields #[.ref l, .int 0 0] } } : Shared).heap.NoLimit := by
    obtain ⟨mc, p, q⟩ := K.base.lim
    exact ⟨mc, I₃.base.ns p, q⟩
  refine ⟨hlim, ?_⟩
  have hI : s₂.heap.objs.size < (s₂.heap.push { cls := .type "list_iterator", data := .fields #[.ref l, .int 0 0] }).objs.size := by rw [Heap.size_push]; omega
  have hH3 : ∀ b o, s₂.heap.get? b = some o → (s₂.heap.push { cls := .type "list_iterator", data := .fields #[.ref l, .int 0 0] }).get? b = some o := fun _ _ e => Heap.get?_push_of_some _ e
  have hIat := Heap.get?_push_size (h := s₂.heap) (o := { cls := .type "list_iterator", data := .fields #[.ref l, .int 0 0] }) rfl
  have hlist' : (s₂.heap.push { cls := .type "list_iterator", data := .fields #[.ref l, .int 0 0] }).IsList l #[.str (S gx) t0] := hlist.push _
  generalize hIdef : s₂.heap.objs.size = Iad at *
  generalize s₂.heap.push { cls := .type "list_iterator", data := .fields #[.ref l, .int 0 0] } = H3 at *
  obtain ⟨hφ0, hTs⟩ := tab_at I₃ hm
  have hCs := code_hd K.toOkW I₃ hC
  have hIT : Iad ≠ T := fun q => by
    rw [q] at hIat
    have hTs' : H3.get? T = some (tabObj ps) := hTs
    rw [hIat] at hTs'; cases hTs'
  obtain ⟨bm, ob, b1, b2, b3, b4, b5, b6, b7⟩ := K.base.bmod
  have b4' : H3.get? bm = some ob := I₃.base.noDict K.tabs b4 (fun _ _ q => by rw [b7] at q; cases q)
  have hbP : bm ≠ T := fun q => by
    have hTs' : H3.get? T = some (tabObj ps) := hTs
    rw [q, hTs'] at b4'; cases b4'; cases b5
  have hgs : H3.Ns mainGlobals mg := I₃.base.ns K.base.g
  have hgP : mainGlobals ≠ T := fun q => by
    obtain ⟨o, es, ep, e, hd, _⟩ := hgs
    have hTs' : H3.get? T = some (tabObj ps) := hTs
    rw [q, hTs'] at e; cases e; cases hd
  have hcP : cStatics ≠ T := fun q => by
    obtain ⟨_, hns, _⟩ := hlim
    obtain ⟨o, es, ep, e, hd, _⟩ := hns
    have hTs' : H3.get? T = some (tabObj ps) := hTs
    have e' : H3.get? cStatics = some o := e
    rw [q, hTs'] at e'; cases e'; cases hd
  have hcI : cStatics ≠ Iad := fun q => by
    obtain ⟨_, hns, _⟩ := hlim
    obtain ⟨o, es, ep, e, hd, _⟩ := hns
    have e' : H3.get? cStatics = some o := e
    rw [q, hIat] at e'; cases e'; cases hd
  -- what is left, once the code stands
  have key : ∀ (code : Value) (h4 : Heap) (ps' : Array Value) (tk : Nat), Heap.ExtBut T H3 h4 → h4.get? T = some (tabObj ps') → TriplesOk ps'.toList →
      wpAny (model c.prog c.w) c.A (builtinsFor c.env.globals c.env.builtins) (fun bi s₄ =>
        ∃ I fp wr n₀ Pt St₀ pz F, Value.ref Iad = .ref I ∧ (∀ A' : Around, A'.handled = none → Walks c.prog c.w A' I fp wr n₀ Pt St₀) ∧ St₀ 0 s₄.heap ∧ (∀ b ∈ fp, b < s₄.heap.objs.size) ∧ s₄.heap.NoLimit ∧ cStatics ∉ wr ∧
          (∀ href : Heap, (∀ b o, s₄.heap.get? b = some o → href.get? b = some o) →
            QuietGenD c.prog c.w (genEnv scope [] s₄.heap.objs.size code bi c.env) sn [] (repElt sn q1 q2 q3 q4 q5 q6 q7 q8 q9 k1 k2 k3 k4) (List.range s₄.heap.objs.size) wr Pt pz F href (c.A.depth + 1) (c.A.units + 8)) ∧
          (∀ a h₅ tk gs, gs.bare = true → s₄.heap.objs.size < a → h₅.objs.size = a + 1 → (∀ b o, s₄.heap.get? b = some o → h₅.get? b = some o) →
            WalksS c.prog c.w c.A.in4 a (a :: s₄.heap.objs.size :: List.range s₄.heap.objs.size) (s₄.heap.objs.size :: wr) (GenOnlyQ s₄.gens.size) (passing pz n₀ 0).length
              (fun j y => ∃ i, (passing pz n₀ 0)[j]? = some i ∧ F i y) (GenAt c.prog c.w c.A.in4 a s₄.gens.size s₄.heap.objs.size (List.range s₄.heap.objs.size) wr pz n₀ F) →
            GenAt c.prog c.w c.A.in4 a s₄.gens.size s₄.heap.objs.size (List.range s₄.heap.objs.size) wr pz n₀ F 0 { s₄ with gens := s₄.gens.push gs, toks := tk, heap := h₅ } →
            wpAny (model c.prog c.w) c.A (spliced (backTo pos (starEach [] c.env))) (fun vs s₁ => wpAny (model c.prog c.w) c.A (call (.builtin "str.join") ([.str "-" s.toks] ++ (.ref a :: vs)))
              (PV c σ P φ Q) noE s₁) (fun _ _ => False) { s₄ with gens := s₄.gens.push gs, toks := tk, heap := h₅ }))
        (fun _ _ => False) { s₂ with heap := h4, toks := tk } := fun code h4 ps' tk hx4 hT4 htr4 => by
    have hI4 : h4.get? Iad = some { cls := .type "list_iterator", data := .fields #[.ref l, .int 0 0] } := hx4 _ _ hIT hIat
    have hl4 : h4.IsList l #[.str (S gx) t0] := by
      obtain ⟨o, e, r⟩ := hlist'
      exact ⟨o, hx4 _ _ hlT e, r⟩
    have hlim4 : h4.NoLimit := hlim.extBut hx4 hcP
    rw [K.glob]
    refine wpAny_builtinsFor (s := { s₂ with heap := h4, toks := tk }) (hgs.extBut hx4 hgP) b1 b2 (hx4 _ _ hbP b4') b5 b6 b7 ?_
    refine ⟨Iad, [Iad, l], [Iad], 1, _, _, (fun _ => true), (fun i y => ∃ u, y = Value.str (S gx) u), rfl, (fun A' hA => Walks.list hA Iad l (Nat.ne_of_lt hllt) #[.str (S gx) t0]), ⟨⟨_, hI4, rfl, rfl⟩, hl4⟩, ?_, hlim4, by simpa using hcI, ?_, ?_⟩
    · intro b hb
      simp only [List.mem_cons, List.not_mem_nil, or_false] at hb
      rcases hb with rfl | rfl
      · exact Heap.lt_size hI4
      · obtain ⟨o, e, _⟩ := hl4; exact Heap.lt_size e
    · intro href hhref
      refine ⟨fun A' E' i v s₅ m₂ _ _ _ hP hn hm' _ => ?_, fun A' E' i v s₅ m₂ _ _ _ hP _ hn hm' _ => ?_⟩
      · exact wpAny_pure ⟨rfl, s₅.heap, s₅.toks, rfl, fun _ _ e => e⟩
      · have hv : v = .str (S gx) t0 := by
          have hP' : (#[Value.str (S gx) t0] : Array Value)[i]? = some v := hP
          cases i with
          | zero => simpa using hP'.symm
          | succ i => simp at hP'
        subst hv
        refine rep_wp (x := S gx) (t := t0) rfl hl2 (by rcases hgx with rfl | rfl <;> decide +kernel) ?_
        refine rep_wp (x := S gx) (t := t0) rfl hl1 (by rcases hgx with rfl | rfl <;> decide +kernel) ?_
        refine wpAny_Name (wpAny_loadName_local hkind hx hn hm' ?_) hdb
        exact ⟨rfl, fun tk => ⟨rfl, fun tk' => ⟨⟨_, rfl⟩, s₅.heap, tk', rfl, fun _ _ e => e⟩⟩⟩
    · intro a h₅ tk₅ gs hgb hag hsz₅ hk₅ W hat
      refine args_nil ?_
      have hx5 : Heap.ExtBut T H3 h₅ := fun b o hb e => hk₅ b o (hx4 b o hb e)
      have W2 := W.in4_2
      refine SC.joinGen W2 (fun i s' st => st.1.typeIs) hat (fun b hb => ?_) (List.mem_cons_self ..) (fun j v hv => let ⟨_, _, u, e⟩ := hv; ⟨_, u, e⟩) (fun s' lt hmv hacc => ?_) (by show 1 ≤ sizeLine; decide)
      · show b < h₅.objs.size
        rw [hsz₅]
        rcases List.mem_cons.mp hb with rfl | hb
        · exact Nat.lt_succ_self _
        · rcases List.mem_cons.mp hb with rfl | hb
          · exact Nat.lt_succ_of_lt hag
          · exact Nat.lt_succ_of_lt (Nat.lt_trans (List.mem_range.mp hb) hag)
      · have hl1 : lt.map (·.1) = [S gx] := by
          have hsz : lt.length = 1 := by simpa [strValues, passing] using hacc.1
          match lt, hsz with
          | [p], _ =>
            obtain ⟨i, _, u, hv⟩ := hacc.2 0 (.str p.1 p.2) (by simp [strValues])
            injection hv with e1 e2
            simp [← e1]
        rw [hl1]
        refine ⟨by rcases hgx with rfl | rfl <;> decide +kernel, fun t' k => ?_⟩
        have hkeep : ∀ b o, b ≠ T → H3.get? b = some o → b ≠ Iad → s'.heap.get? b = some o := fun b o hbT e hbI => hmv.heap b o (fun hw => by
          rcases List.mem_cons.mp hw with q | q
          · have : b < h4.objs.size := Heap.lt_size (hx4 b o hbT e)
            rw [q] at this; exact Nat.lt_irrefl _ this
          · exact hbI (by simpa using q)) (hx5 b o hbT e)
        have hT5 : s'.heap.get? T = some (tabObj ps') := hmv.heap T _ (fun hw => by
          rcases List.mem_cons.mp hw with q | q
          · have : T < h4.objs.size := Heap.lt_size hT4
            rw [q] at this; exact Nat.lt_irrefl _ this
          · exact hIT (List.mem_singleton.mp q).symm) (hk₅ _ _ hT4)
        have hG : AllBare s'.gens := (AllBare.push (show AllBare s₂.gens from I₂.gens) hgb).moved hmv.gens
        have hx6 : Heap.ExtBut T s₂.heap s'.heap := fun b o hb e => hkeep b o hb (hH3 b o e) (fun q => by
          have : b < s₂.heap.objs.size := Heap.lt_size e
          rw [q, hIdef] at this; exact Nat.lt_irrefl _ this)
        have J := I₂.tabbed hm hx6 hT5 hG k (dr := s'.drawn)
        have hos : s'.os = s₂.os := hmv.os
        rw [← hos] at J
        have ej : Txt.join (Str.ofString "-") [S gx] = S gx := by rfl
        rw [ej]
        exact ⟨.str (S gx), _, P₂, φ₂, l₂, f₂, .str _ _, J, h ps' htr4⟩
  cases hf : codeAmong gpos ps.toList with
  | none =>
    refine wpAny_genexprCodeX hcode (hCs.code hTs htr) (hCs.tab hTs) hf fun c' h4 tk hx4 hge hlt hcode4 hrec htab4 _ => ?_
    refine key _ h4 (ps ++ #[rawInt gpos.line, rawInt gpos.col, .ref c']) tk hx4 htab4.2 ?_
    rw [Array.toList_append]; exact TriplesOk_snoc _ _ _ _ htr
  | some cv =>
    refine wpAny_genexprCode_hit hcode (hCs.code hTs htr) hf ?_
    exact key _ H3 ps _ (fun _ _ _ e => e) hTs htr
end
end -- QGen

section -- QRng
section
variable {c : Cx} {σ σ' : List (Str × D)} {μ : List MO} {P : Facts} {φ : List Addr} {s : Shared} {mg mb : Str → Option Value} {Q : D → List MO → Prop}
/-- range(1, 0, -1) -/
theorem it_down {x : Str} {px p pos : Pos} {e e' e'' : Expr} {Q : List D → List MO → Prop} (K : c.Ok mg mb) (hk : c.env.kindOf (Str.ofString "range") = some .globalImplicit) (he : notStar e = true) (he' : notStar e' = true) (he'' : notStar e'' = true)
    (h : EvT c σ μ (eval e c.env) (fun d μ₁ => EvT c σ μ₁ (eval e' c.env) (fun d' μ₂ => EvT c σ μ₂ (eval e'' c.env) (fun d'' μ' => d = .int 1 ∧ d' = .int 0 ∧ d'' = .int (-1) ∧ Q [.int 1] μ')))) :
    ItT c σ μ (.Name x px) (eval (.Call (.Name (Str.ofString "range") p) [e, e', e''] [] pos) c.env) Q :=
  fun P φ s I => Call_ ((ev_blt (Q := fun d μ' => d = .opq (.type "range") ∧ μ' = μ) K hk mem_range blt_range ⟨rfl, rfl⟩).at I fun v s₁ d μ₁ P₁ φ₁ l₁ f₁ r₁ I₁ ⟨hd, hμ⟩ => by
    subst hd hμ; (first | obtain rfl := r₁.inv | obtain ⟨_, rfl⟩ := r₁.inv)
    refine PyProof.Rows.callWith_type1 ((evs_c (Q := fun ds μ => ds = [.int 1, .int 0, .int (-1)] ∧ Q [.int 1] μ) he
      (h.mono fun d μ' q => evs_c he' (q.mono fun d' μ'' q => evs_c he'' (q.mono fun d'' μ3 ⟨hd, hd', hd'', q⟩ => evs_nil ⟨by rw [hd, hd', hd''], q⟩)))).at I₁ fun vs s₂ ds μ₂ P₂ φ₂ l₂ f₂ r₂ I₂ ⟨hds, q⟩ => ?_) (star_of he) (plain_cons he' (plain_cons he'' plain_nil))
    subst hds
    obtain ⟨_, _, rfl, r2, r3⟩ := r₂.inv
    (have hx := r3.inv; clear r3; obtain ⟨_, _, rfl, r3, r4⟩ := hx)
    (have hx := r4.inv; clear r4; obtain ⟨_, _, rfl, r4, r5⟩ := hx)
    (first | obtain rfl := r5.inv | obtain ⟨_, rfl⟩ := r5.inv); obtain ⟨t1, rfl⟩ := r2.inv
    obtain ⟨t2, rfl⟩ := r3.inv
    obtain ⟨t3, rfl⟩ := r4.inv
    refine call_range_3 (by decide) ?_
    have hk' : ∀ b o', s₂.heap.get? b = some o' → (s₂.heap.push { cls := .type "range", data := .fields #[.int 1 t1, .int 0 t2, .int (-1) t3] }).get? b = some o' := fun _ _ e => Heap.get?_push_of_some _ e
    have I₃ := I₂.grow (t := s₂.toks) hk' (fun _ _ h => h) (fun a o h => hk' _ _ (I₂.fz _ _ h)) (fun _ _ h => .inl h)
    obtain ⟨n1, n2, n3⟩ := fresh_none I₃
    refine wpAny_pyIter_range (IsRange.new _ _ _ _ _ _ _) (by decide +kernel) ?_
    generalize hH : (s₂.heap.push { cls := .type "range", data := .fields #[.int 1 t1, .int 0 t2, .int (-1) t3] }) = H at I₃ n1 n2 n3 ⊢
    have hsz : Builtin.Range.rangeSize 1 0 (-1) = ((1 : Nat) : Int) := by decide +kernel
    have hk : ∀ b' o', H.get? b' = some o' → (H.push { cls := .type "range_iterator", data := .fields #[rawInt 1, rawInt (Builtin.Range.rangeSize 1 0 (-1)), rawInt (-1)] }).get? b' = some o' := fun _ _ e => Heap.get?_push_of_some _ e
    have I₄ := I₃.grow (t := s₂.toks) hk (fun _ _ h => h) (fun a o h => hk _ _ (I₃.fz _ _ h)) (fun _ _ h => .inl h)
    have W := PySem.Walks.range (prog := c.prog) (w := c.w) K.handled H.objs.size 1 (-1) 1
    refine ⟨H.objs.size, [.int 1], μ₂, P₂, φ₂, rfl, l₁.trans l₂, f₁.trans f₂, I₄, ⟨⟨[H.objs.size], _, _, W, fun i h st => inert_rangeiter st, fun i s v Q E st hq => wpAny_pure hq, fun b hb => .inl (by simpa using hb), fun i v d hv hd => ?_, ?_⟩⟩, n1, n2, n3, q⟩
    · obtain ⟨t, rfl⟩ := hv
      cases i with
      | zero => simp at hd; subst hd; exact .int _ _
      | succ i => simp at hd
    · show IsRangeIter (H.push _) _ _ _ _
      have : (H.push { cls := .type "range_iterator", data := .fields #[rawInt 1, rawInt (Builtin.Range.rangeSize 1 0 (-1)), rawInt (-1)] }).get? H.objs.size = some { cls := .type "range_iterator", data := .fields #[rawInt 1, rawInt (Builtin.Range.rangeSize 1 0 (-1)), rawInt (-1)] } := Heap.get?_push_size _ rfl
      rw [hsz] at this ⊢
      simpa using this) name_call
end
end -- QRng

section -- QSet
noncomputable abbrev tS (a : Addr) (t : List Nat) (n i : Nat) : List (Str × D) := [(Str.ofString "pat", .str (S t)), (Str.ofString "STAR", .opq (.ref a)), (Str.ofString "QUESTION_MARK", .str (Str.ofString ".")), (Str.ofString "res", .ref 1), (Str.ofString "add", .ref 2), (Str.ofString "n", .int n), (Str.ofString "i", .int i)]
noncomputable abbrev tC (a : Addr) (t : List Nat) (n i ch : Nat) : List (Str × D) := [(Str.ofString "pat", .str (S t)), (Str.ofString "STAR", .opq (.ref a)), (Str.ofString "QUESTION_MARK", .str (Str.ofString ".")), (Str.ofString "res", .ref 1), (Str.ofString "add", .ref 2), (Str.ofString "n", .int n), (Str.ofString "i", .int i), (Str.ofString "c", .str (S [ch]))]
noncomputable abbrev tJ (a : Addr) (t : List Nat) (n i ch j : Nat) : List (Str × D) := [(Str.ofString "pat", .str (S t)), (Str.ofString "STAR", .opq (.ref a)), (Str.ofString "QUESTION_MARK", .str (Str.ofString ".")), (Str.ofString "res", .ref 1), (Str.ofString "add", .ref 2), (Str.ofString "n", .int n), (Str.ofString "i", .int i), (Str.ofString "c", .str (S [ch])), (Str.ofString "j", .int j)]
noncomputable abbrev tF (a : Addr) (t : List Nat) (n i ch j : Nat) (x : List Nat) : List (Str × D) := [(Str.ofString "pat", .str (S t)), (Str.ofString "STAR", .opq (.ref a)), (Str.ofString "QUESTION_MARK", .str (Str.ofString ".")), (Str.ofString "res", .ref 1), (Str.ofString "add", .ref 2), (Str.ofString "n", .int n), (Str.ofString "i", .int i), (Str.ofString "c", .str (S [ch])), (Str.ofString "j", .int j), (Str.ofString "stuff", .str (S x))]
noncomputable abbrev dn (a : Addr) (done : List Pt) : MO := .lst (done.map fun p => dPt a p.part)
noncomputable def whileBody : Option Stmt → List Stmt
  | some (.While _ b _ _) => b
  | _ => []
noncomputable def ifBody : Option Stmt → List Stmt
  | some (.If _ b _ _) => b
  | _ => []
noncomputable def ifElse : Option Stmt → List Stmt
  | some (.If _ _ b _) => b
  | _ => []
/-- what stands under: elif c == '[' -/
noncomputable def setBody : List Stmt := ifBody (ifElse (ifElse ((whileBody (defAt 9).body[3]?)[2]?))[0]?)[0]?
noncomputable def dashBody : List Stmt := ifElse ((ifElse setBody[4]?)[1]?)
theorem last_at {α : Type} (l : List α) (x : α) : (l ++ [x])[l.length]? = some x := by simp
theorem last_set {α : Type} (l : List α) (x y : α) : (l ++ [x]).set l.length y = l ++ [y] := by simp
noncomputable abbrev tK (a : Addr) (t : List Nat) (n i ch j : Nat) (x : List Nat) (kk : Nat) (k : Int) : List (Str × D) := [(Str.ofString "pat", .str (S t)), (Str.ofString "STAR", .opq (.ref a)), (Str.ofString "QUESTION_MARK", .str (Str.ofString ".")), (Str.ofString "res", .ref 1), (Str.ofString "add", .ref 2), (Str.ofString "n", .int n), (Str.ofString "i", .int i), (Str.ofString "c", .str (S [ch])), (Str.ofString "j", .int j), (Str.ofString "stuff", .str (S x)), (Str.ofString "chunks", .ref kk), (Str.ofString "k", .int k)]
noncomputable abbrev tL (a : Addr) (t : List Nat) (n i ch j : Nat) (x : List Nat) (kk : Nat) (k : Int) (z : List Nat) : List (Str × D) := [(Str.ofString "pat", .str (S t)), (Str.ofString "STAR", .opq (.ref a)), (Str.ofString "QUESTION_MARK", .str (Str.ofString ".")), (Str.ofString "res", .ref 1), (Str.ofString "add", .ref 2), (Str.ofString "n", .int n), (Str.ofString "i", .int i), (Str.ofString "c", .str (S [ch])), (Str.ofString "j", .int j), (Str.ofString "stuff", .str (S x)), (Str.ofString "chunks", .ref kk), (Str.ofString "k", .int k), (Str.ofString "chunk", .str (S z))]
theorem dash_walk {c : Cx} {mg mb : Str → Option Value} (K : c.Ok mg mb) (hsc : c.env.scope = (defAt 9).scope) {T cc : Addr} {ps : Array Value} {junk : List MO} (hcode : c.env.code = .ref cc) (hC : CodeHd c.h₀ cc T) (htr : TriplesOk ps.toList)
    (a : Addr) (t A B p : List Nat) (hp : p = [] ∨ p = [33]) (ht : t = A ++ (p ++ (98 :: 45 :: 97 :: 93 :: B))) (hpl : t.length ≤ 1000) (ds : List D) {X : Fl → List (Str × D) → List MO → Prop}
    (hX : ∀ (ps' : Array Value) (junk' : List MO) (i' : Nat), TriplesOk ps'.toList → X .next (tF a t t.length i' 91 (A.length + p.length + 3) p) (.tab T ps' :: .lst ds :: .bnd 1 :: junk')) :
    TrT c (tF a t t.length A.length 91 (A.length + p.length + 3) (p ++ [98, 45, 97])) (.tab T ps :: .lst ds :: .bnd 1 :: junk) (execs dashBody c.env) X := by
  conv at hsc => rhs; whnf
  have KW : c.OkW mg mb := K.toOkW
  have s33 : Str.ofString "!" = S [33] := by decide +kernel
  have s45 : Str.ofString "-" = S [45] := by decide +kernel
  have htl : t.length = A.length + p.length + 4 + B.length := by rw [ht]; simp; omega
  obtain ⟨M0, hM⟩ : ∃ M0, M0 = (.tab T ps :: .lst ds :: .bnd 1 :: junk : List MO) := ⟨_, rfl⟩
  rw [← hM]
  refine tr_step (σ' := tF a t t.length A.length 91 (A.length + p.length + 3) (p ++ [98, 45, 97]) ++ [(Str.ofString "chunks", .ref M0.length)]) (μ₂ := M0 ++ [.lst []]) ?_ ?_
  · repeat (ks_step "op2")
    refine ev_listM ?_
    repeat (ks_step "op2")
    exact ⟨rfl, rfl, rfl⟩
  simp only [tF, List.cons_append, List.nil_append]
  refine tr_step (σ' := tK a t t.length A.length 91 (A.length + p.length + 3) (p ++ [98, 45, 97]) M0.length ((A.length + p.length + 1 : Nat) : Int)) (μ₂ := M0 ++ [.lst []]) ?_ ?_
  · ks_step "op2"
    rcases hp with rfl | rfl
    · refine ev_ifF ?_ ?_
      · repeat (ks_step "op2")
        refine sub_S (A := A) (B := 45 :: 97 :: 93 :: B) (ch := 98) (by rw [ht]; simp) rfl hpl ?_
        repeat (ks_step "op2")
        rw [s33, S_beq]
        exact ⟨by decide, rfl⟩
      repeat (ks_step "op2")
      refine ⟨rfl, ?_, rfl⟩
      simp
    · refine ev_ifT ?_ ?_
      · repeat (ks_step "op2")
        refine sub_S (A := A) (B := 98 :: 45 :: 97 :: 93 :: B) (ch := 33) (by rw [ht]; simp) rfl hpl ?_
        repeat (ks_step "op2")
        rw [s33, S_beq]
        exact ⟨by decide, rfl⟩
      repeat (ks_step "op2")
      refine ⟨rfl, ?_, rfl⟩
      simp; omega
  have hpl1 : p.length ≤ 1 := by rcases hp with rfl | rfl <;> simp
  have hMl : ∀ l, (M0 ++ [MO.lst l])[M0.length]? = some (.lst l) := fun l => last_at _ _
  have cut1 : cutS (S t) (some ((A.length : Nat) : Int)) (some ((A.length + p.length + 1 : Nat) : Int)) = S (p ++ [98]) := by
    rw [cut_S _ _ _ (by omega), ht, show A.length + p.length + 1 - A.length = (p ++ [98]).length by simp; omega, List.drop_left, show p ++ 98 :: 45 :: 97 :: 93 :: B = (p ++ [98]) ++ (45 :: 97 :: 93 :: B) by simp, List.take_left]
  have cut2 : cutS (S t) (some ((A.length + p.length + 2 : Nat) : Int)) (some ((A.length + p.length + 3 : Nat) : Int)) = S [97] := by
    rw [cut_S _ _ _ (by omega), ht, show A ++ (p ++ 98 :: 45 :: 97 :: 93 :: B) = (A ++ p ++ [98, 45]) ++ (97 :: 93 :: B) by simp, List.drop_left' (by simp; omega), show A.length + p.length + 3 - (A.length + p.length + 2) = 1 by omega]
    rfl
  refine tr_step (σ' := tK a t t.length (A.length + p.length + 2) 91 (A.length + p.length + 3) (p ++ [98, 45, 97]) M0.length (-1)) (μ₂ := M0 ++ [.lst [.str (S (p ++ [98]))]]) ?_ ?_
  · refine tr_whileX (fun m σ μ => (m = 1 ∧ σ = tK a t t.length A.length 91 (A.length + p.length + 3) (p ++ [98, 45, 97]) M0.length ((A.length + p.length + 1 : Nat) : Int) ∧ μ = M0 ++ [.lst []]) ∨
      (m = 0 ∧ σ = tK a t t.length (A.length + p.length + 2) 91 (A.length + p.length + 3) (p ++ [98, 45, 97]) M0.length ((A.length + p.length + 4 : Nat) : Int) ∧ μ = M0 ++ [.lst [.str (S (p ++ [98]))]])) ?_ 1 (.inl ⟨rfl, rfl, rfl⟩)
    rintro m σ μ h Y hY hB _
    rcases h with ⟨rfl, rfl, rfl⟩ | ⟨rfl, rfl, rfl⟩
    · refine .inl ⟨?_, ?_⟩
      · repeat (ks_step "op2")
        first | exact ⟨rfl, rfl⟩ | exact rfl
      refine tr_step (σ' := tK a t t.length A.length 91 (A.length + p.length + 3) (p ++ [98, 45, 97]) M0.length ((A.length + p.length + 1 : Nat) : Int)) (μ₂ := M0 ++ [.lst []]) ?_ ?_
      · ks_step "op2"
        refine ev_smeth F.slot_str_find F.type_str_find ?_ rfl rfl (plain_cons rfl (plain_cons rfl plain_nil)) rfl rfl
        repeat (ks_step "op2")
        refine op_find (x := S t) (i := A.length + p.length + 1) (j := A.length + p.length + 3) ?_
        have hh := find_hit (t := t) (A := A ++ p ++ [98]) (B := 97 :: 93 :: B) (ch := 45) (hi := A.length + p.length + 3) (by rw [ht]; simp) (by simp; omega) (by omega)
        have e0 : (A ++ p ++ [98]).length = A.length + p.length + 1 := by simp; omega
        rw [e0] at hh
        rw [s45, hh]
        repeat (ks_step "op2")
        exact ⟨rfl, rfl, rfl⟩
      refine tr_cons ?_
      refine tr_ifF ?_ ?_
      · repeat (ks_step "op2")
        exact ⟨by rw [decide_eq_false_iff_not]; omega, rfl⟩
      refine tr_nil ?_
      refine after_next ?_
      refine tr_step (σ' := tK a t t.length A.length 91 (A.length + p.length + 3) (p ++ [98, 45, 97]) M0.length ((A.length + p.length + 1 : Nat) : Int)) (μ₂ := M0 ++ [.lst [.str (S (p ++ [98]))]]) ?_ ?_
      · repeat (ks_step "op2")
        refine ⟨⟨_, hMl _⟩, ?_⟩
        repeat (ks_step "op2")
        refine sl_str (by rw [S_length]; omega) ?_
        repeat (ks_step "op2")
        first | refine qi (cut1) ?_ | refine qs (cut1) ?_ | refine qt (cut1) ?_ | refine qb (cut1) ?_ | refine qm (cut1) ?_ | refine q1 (cut1) ?_ | rw [cut1]
        refine ⟨_, hMl _, by simp, ?_⟩
        first | refine qi (last_set) ?_ | refine qs (last_set) ?_ | refine qt (last_set) ?_ | refine qb (last_set) ?_ | refine qm (last_set) ?_ | refine q1 (last_set) ?_ | rw [last_set]
        exact ⟨rfl, rfl, rfl, rfl⟩
      refine tr_step (σ' := tK a t t.length (A.length + p.length + 2) 91 (A.length + p.length + 3) (p ++ [98, 45, 97]) M0.length ((A.length + p.length + 1 : Nat) : Int)) (μ₂ := M0 ++ [.lst [.str (S (p ++ [98]))]]) ?_ ?_
      · repeat (ks_step "op2")
        refine ⟨rfl, ?_, rfl⟩
        simp; omega
      refine tr_step (σ' := tK a t t.length (A.length + p.length + 2) 91 (A.length + p.length + 3) (p ++ [98, 45, 97]) M0.length ((A.length + p.length + 4 : Nat) : Int)) (μ₂ := M0 ++ [.lst [.str (S (p ++ [98]))]]) ?_ ?_
      · repeat (ks_step "op2")
        refine ⟨rfl, ?_, rfl⟩
        simp; omega
      refine tr_nil ?_
      exact hY _ _ 0 (by decide) (.inr ⟨rfl, rfl, rfl⟩)
    · refine .inl ⟨?_, ?_⟩
      · repeat (ks_step "op2")
        first | exact ⟨rfl, rfl⟩ | exact rfl
      refine tr_step (σ' := tK a t t.length (A.length + p.length + 2) 91 (A.length + p.length + 3) (p ++ [98, 45, 97]) M0.length (-1)) (μ₂ := M0 ++ [.lst [.str (S (p ++ [98]))]]) ?_ ?_
      · ks_step "op2"
        refine ev_smeth F.slot_str_find F.type_str_find ?_ rfl rfl (plain_cons rfl (plain_cons rfl plain_nil)) rfl rfl
        repeat (ks_step "op2")
        refine op_find (x := S t) (i := A.length + p.length + 4) (j := A.length + p.length + 3) ?_
        first | refine qi (find_past (by omega)) ?_ | refine qs (find_past (by omega)) ?_ | refine qt (find_past (by omega)) ?_ | refine qb (find_past (by omega)) ?_ | refine qm (find_past (by omega)) ?_ | refine q1 (find_past (by omega)) ?_ | rw [find_past (by omega)]
        repeat (ks_step "op2")
        exact ⟨rfl, rfl, rfl⟩
      refine tr_cons ?_
      refine tr_ifT ?_ ?_
      · repeat (ks_step "op2")
        exact ⟨by decide, rfl⟩
      repeat (ks_step "op2")
      refine hB _ _ ?_
      exact ⟨rfl, rfl, rfl⟩
  refine tr_step (σ' := tL a t t.length (A.length + p.length + 2) 91 (A.length + p.length + 3) (p ++ [98, 45, 97]) M0.length (-1) [97]) (μ₂ := M0 ++ [.lst [.str (S (p ++ [98]))]]) ?_ ?_
  · repeat (ks_step "op2")
    refine sl_str (by rw [S_length]; omega) ?_
    repeat (ks_step "op2")
    first | refine qi (cut2) ?_ | refine qs (cut2) ?_ | refine qt (cut2) ?_ | refine qb (cut2) ?_ | refine qm (cut2) ?_ | refine q1 (cut2) ?_ | rw [cut2]
    repeat (ks_step "op2")
    exact ⟨rfl, rfl, rfl⟩
  refine tr_step (σ' := tL a t t.length (A.length + p.length + 2) 91 (A.length + p.length + 3) (p ++ [98, 45, 97]) M0.length (-1) [97]) (μ₂ := M0 ++ [.lst [.str (S (p ++ [98])), .str (S [97])]]) ?_ ?_
  · refine tr_ifT ?_ ?_
    · repeat (ks_step "op2")
      refine tru_str (by rw [S_length]; decide) ?_
      first | refine qi (S_length) ?_ | refine qs (S_length) ?_ | refine qt (S_length) ?_ | refine qb (S_length) ?_ | refine qm (S_length) ?_ | refine q1 (S_length) ?_ | rw [S_length]
      exact ⟨by decide, rfl⟩
    repeat (ks_step "op2")
    refine ⟨⟨_, hMl _⟩, ?_⟩
    repeat (ks_step "op2")
    refine ⟨_, hMl _, by simp, ?_⟩
    first | refine qi (last_set) ?_ | refine qs (last_set) ?_ | refine qt (last_set) ?_ | refine qb (last_set) ?_ | refine qm (last_set) ?_ | refine q1 (last_set) ?_ | rw [last_set]
    repeat (ks_step "op2")
    refine tr_nil ?_
    exact ⟨rfl, rfl, rfl⟩
  refine tr_step (σ' := tL a t t.length (A.length + p.length + 2) 91 (A.length + p.length + 3) (p ++ [98, 45, 97]) M0.length 1 [97]) (μ₂ := M0 ++ [.lst [.str (S p)]]) ?_ ?_
  · refine tr_forI K ?_
    refine it_down K (by ks_step "kind") rfl rfl rfl ?_
    repeat (ks_step "op2")
    refine op_len_ref (hMl _) (by simp) ?_
    repeat (ks_step "op2")
    refine ⟨rfl, rfl, rfl, ?_⟩
    refine asg_name K (by ks_step "kind") (by ks_step "upd") ?_
    refine tr_cons ?_
    refine tr_ifT ?_ ?_
    · repeat (ks_step "op2")
      refine sub_ref (d := .str (S (p ++ [98]))) (hMl _) ⟨by simp, by simp⟩ (by simp) rfl ?_
      repeat (ks_step "op2")
      refine sub_str (ch := 98) (by rw [S_length]; simp; omega) (by rw [S_length]; simp; omega) (by rcases hp with rfl | rfl <;> rfl) ?_
      repeat (ks_step "op2")
      refine sub_ref (d := .str (S [97])) (hMl _) ⟨by simp, by simp⟩ (by simp) rfl ?_
      repeat (ks_step "op2")
      refine sub_str (ch := 97) (by decide) (by decide) rfl ?_
      repeat (ks_step "op2")
      refine op_gts ?_
      repeat (ks_step "op2")
      exact ⟨by decide, rfl⟩
    have q1 : cutS (S (p ++ [98])) none (some (-1)) = S p := by rcases hp with rfl | rfl <;> decide +kernel
    have q2 : cutS (S [97]) (some 1) none = S [] := by decide +kernel
    have q3 : S p ++ S [] = S p := by rcases hp with rfl | rfl <;> decide +kernel
    refine tr_cons ?_
    refine tr_store ?_ rfl
    repeat (ks_step "op2")
    refine sub_ref (d := .str (S (p ++ [98]))) (hMl _) ⟨by simp, by simp⟩ (by simp) rfl ?_
    repeat (ks_step "op2")
    refine sl_str (by rw [S_length]; simp; omega) ?_
    repeat (ks_step "op2")
    refine sub_ref (d := .str (S [97])) (hMl _) ⟨by simp, by simp⟩ (by simp) rfl ?_
    repeat (ks_step "op2")
    refine sl_str (by decide) ?_
    repeat (ks_step "op2")
    rw [q1, q2]
    refine op_adds (by rw [S_length, S_length, sizeLine_eq]; simp; omega) ?_
    first | refine qi (q3) ?_ | refine qs (q3) ?_ | refine qt (q3) ?_ | refine qb (q3) ?_ | refine qm (q3) ?_ | refine q1 (q3) ?_ | rw [q3]
    repeat (ks_step "op2")
    refine ⟨M0.length, [.str (S (p ++ [98])), .str (S [97])], 0, rfl, rfl, hMl _, by simp, by simp, ?_⟩
    first | refine qi (last_set) ?_ | refine qs (last_set) ?_ | refine qt (last_set) ?_ | refine qb (last_set) ?_ | refine qm (last_set) ?_ | refine q1 (last_set) ?_ | rw [last_set]
    refine tr_cons ?_
    refine tr_del ?_
    repeat (ks_step "op2")
    refine ⟨M0.length, [.str (S p), .str (S [97])], 1, rfl, rfl, hMl _, by simp, by simp, ?_⟩
    first | refine qi (last_set) ?_ | refine qs (last_set) ?_ | refine qt (last_set) ?_ | refine qb (last_set) ?_ | refine qm (last_set) ?_ | refine q1 (last_set) ?_ | rw [last_set]
    refine tr_nil ?_
    refine after_next ?_
    refine tr_nil ?_
    refine loop_next ?_
    exact ⟨rfl, rfl, rfl⟩
  refine tr_cons ?_
  ks_step "op2"
  subst hM
  refine ev_genjoin K hcode hC rfl htr hp (by ks_step "has") (hMl _) rfl rfl (by decide) rfl rfl (by decide) rfl rfl rfl rfl fun ps' htr' => ?_
  repeat (ks_step "op2")
  refine tr_nilT 10 ?_
  exact hX ps' _ (A.length + p.length + 2) htr'
theorem set_walk {c : Cx} {mg mb : Str → Option Value} (K : c.Ok mg mb) (hsc : c.env.scope = (defAt 9).scope) {T cc : Addr} {ps : Array Value} {junk : List MO} (hcode : c.env.code = .ref cc) (hC : CodeHd c.h₀ cc T) (htr : TriplesOk ps.toList)
    (a : Addr) (t A B x : List Nat) (hx : x ∈ setsOk) (ht : t = A ++ (x ++ 93 :: B)) (hpl : t.length ≤ 1000) (ds : List D) (hdn : ds.length ≤ 1000) {X : Fl → List (Str × D) → List MO → Prop}
    (hX : ∀ (ps' : Array Value) (junk' : List MO), TriplesOk ps'.toList → X .next (tS a t t.length (A.length + x.length + 1)) (.tab T ps' :: .lst (ds ++ [.str (setTx x)]) :: .bnd 1 :: junk')) :
    TrT c (tC a t t.length A.length 91) (.tab T ps :: .lst ds :: .bnd 1 :: junk) (execs setBody c.env) X := by
  have hsc0 := hsc
  conv at hsc => rhs; whnf
  have KW : c.OkW mg mb := K.toOkW
  have s33 : Str.ofString "!" = S [33] := by decide +kernel
  have s93 : Str.ofString "]" = S [93] := by decide +kernel
  have htl : t.length = A.length + x.length + 1 + B.length := by rw [ht]; simp; omega
  obtain ⟨y, w, z, hxe, hw, h93, hy⟩ := set_scan hx
  have hxl : x.length = y.length + 1 + z.length := by rw [hxe]; simp; omega
  refine tr_step (σ' := tJ a t t.length A.length 91 A.length) (μ₂ := .tab T ps :: .lst ds :: .bnd 1 :: junk) ?_ ?_
  · repeat (ks_step "op2")
    exact ⟨rfl, rfl, rfl⟩
  have hj1 : (A.length : Int) + 1 = ((A.length + 1 : Nat) : Int) := by push_cast; rfl
  have hlt : ∀ n, n < t.length → decide ((n : Int) < (t.length : Int)) = true := fun n h => by simpa using h
  refine tr_step (σ' := tJ a t t.length A.length 91 (A.length + y.length)) (μ₂ := .tab T ps :: .lst ds :: .bnd 1 :: junk) ?_ ?_
  · rcases hy with ⟨rfl, hw33⟩ | rfl
    · refine tr_ifF ?_ ?_
      · repeat (ks_step "op2")
        refine ite_t (hlt _ (by omega)) ?_
        repeat (ks_step "op2")
        refine sub_S (A := A) (B := z ++ 93 :: B) (ch := w) (by rw [ht, hxe]; simp) rfl hpl ?_
        repeat (ks_step "op2")
        rw [s33, S_beq]; refine ite_n (by simpa using hw33) ?_
        exact ⟨rfl, rfl⟩
      refine tr_nil ?_
      exact ⟨rfl, rfl, rfl⟩
    · refine tr_ifT ?_ ?_
      · repeat (ks_step "op2")
        refine ite_t (hlt _ (by omega)) ?_
        repeat (ks_step "op2")
        refine sub_S (A := A) (B := w :: z ++ 93 :: B) (ch := 33) (by rw [ht, hxe]; simp) rfl hpl ?_
        repeat (ks_step "op2")
        rw [s33, S_beq]; refine ite_t (by decide) ?_
        repeat (ks_step "op2")
        first | exact ⟨rfl, rfl⟩ | exact rfl
      repeat (ks_step "op2")
      first | refine qi (hj1) ?_ | refine qs (hj1) ?_ | refine qt (hj1) ?_ | refine qb (hj1) ?_ | refine qm (hj1) ?_ | refine q1 (hj1) ?_ | rw [hj1]
      repeat (ks_step "op2")
      refine tr_nil ?_
      exact ⟨rfl, rfl, rfl⟩
  refine tr_step (σ' := tJ a t t.length A.length 91 (A.length + y.length)) (μ₂ := .tab T ps :: .lst ds :: .bnd 1 :: junk) ?_ ?_
  · refine tr_ifF ?_ ?_
    · repeat (ks_step "op2")
      refine ite_t (hlt _ (by omega)) ?_
      repeat (ks_step "op2")
      refine sub_S (A := A ++ y) (B := z ++ 93 :: B) (ch := w) (by rw [ht, hxe]; simp) (by simp) hpl ?_
      repeat (ks_step "op2")
      rw [s93, S_beq]; refine ite_n (by simpa using hw) ?_
      exact ⟨rfl, rfl⟩
    refine tr_nil ?_
    exact ⟨rfl, rfl, rfl⟩
  refine tr_step (σ' := tJ a t t.length A.length 91 (A.length + x.length)) (μ₂ := .tab T ps :: .lst ds :: .bnd 1 :: junk) ?_ ?_
  · refine tr_whileX (fun m σ μ => ∃ (G H : List Nat), x = G ++ H ∧ m = H.length ∧ σ = tJ a t t.length A.length 91 (A.length + G.length) ∧ μ = .tab T ps :: .lst ds :: .bnd 1 :: junk) ?_ (w :: z).length ⟨y, w :: z, hxe, rfl, rfl, rfl⟩
    rintro m σ μ ⟨G, H, hGH, rfl, rfl, rfl⟩ Y hY _ _
    have hGl : x.length = G.length + H.length := by rw [hGH]; simp
    cases H with
    | nil =>
      refine .inr ⟨?_, ?_⟩
      · repeat (ks_step "op2")
        refine ite_t (hlt _ (by simp at hGl; omega)) ?_
        repeat (ks_step "op2")
        refine sub_S (A := A ++ x) (B := B) (ch := 93) (by rw [ht]; simp) (by simp [hGl]) hpl ?_
        repeat (ks_step "op2")
        rw [s93, bne, S_beq]; refine ite_f rfl ?_
        exact ⟨rfl, rfl⟩
      · exact ⟨rfl, by rw [hGl]; rfl, rfl⟩
    | cons v H =>
      have hv : v ≠ 93 := fun e => h93 (by rw [hGH, e]; simp)
      refine .inl ⟨?_, ?_⟩
      · repeat (ks_step "op2")
        refine ite_t (hlt _ (by simp at hGl; omega)) ?_
        repeat (ks_step "op2")
        refine sub_S (A := A ++ G) (B := H ++ 93 :: B) (ch := v) (by rw [ht, hGH]; simp) (by simp) hpl ?_
        repeat (ks_step "op2")
        rw [s93, bne, S_beq]; refine ite_t (by simpa using hv) ?_
        repeat (ks_step "op2")
        first | exact ⟨rfl, rfl⟩ | exact rfl
      refine tr_step (σ' := tJ a t t.length A.length 91 (A.length + (G ++ [v]).length)) (μ₂ := .tab T ps :: .lst ds :: .bnd 1 :: junk) ?_ ?_
      · repeat (ks_step "op2")
        have : ((A.length + G.length : Nat) : Int) + 1 = ((A.length + (G ++ [v]).length : Nat) : Int) := by simp; omega
        first | refine qi (this) ?_ | refine qs (this) ?_ | refine qt (this) ?_ | refine qb (this) ?_ | refine qm (this) ?_ | refine q1 (this) ?_ | rw [this]
        repeat (ks_step "op2")
        exact ⟨rfl, rfl, rfl⟩
      refine tr_nil ?_
      exact hY _ _ H.length (by simp) ⟨G ++ [v], H, by rw [hGH]; simp, rfl, rfl, rfl⟩
  refine tr_cons ?_
  refine tr_ifF ?_ ?_
  · repeat (ks_step "op2")
    exact ⟨by rw [decide_eq_false_iff_not]; omega, rfl⟩
  have hcut : cutS (S t) (some ((A.length : Nat) : Int)) (some ((A.length + x.length : Nat) : Int)) = S x := by
    rw [cut_S _ _ _ (by omega), ht]; simp
  refine tr_step (σ' := tF a t t.length A.length 91 (A.length + x.length) x) (μ₂ := .tab T ps :: .lst ds :: .bnd 1 :: junk) ?_ ?_
  · repeat (ks_step "op2")
    refine sl_str (by rw [S_length]; omega) ?_
    repeat (ks_step "op2")
    first | refine qi (hcut) ?_ | refine qs (hcut) ?_ | refine qt (hcut) ?_ | refine qb (hcut) ?_ | refine qm (hcut) ?_ | refine q1 (hcut) ?_ | rw [hcut]
    repeat (ks_step "op2")
    exact ⟨rfl, rfl, rfl⟩
  have hx7 : x = [97, 98] ∨ x = [33, 97] ∨ x = [42] ∨ x = [63] ∨ x = [91] ∨ x = [98, 45, 97] ∨ x = [33, 98, 45, 97] := by simpa [setsOk] using hx
  refine tr_cons ?_
  refine TrT.mono (Q := fun fl σ μ => ∃ (ps' : Array Value) (junk' : List MO) (i' : Nat), fl = .next ∧ TriplesOk ps'.toList ∧ σ = tF a t t.length i' 91 (A.length + x.length) (stuffOf x) ∧ μ = .tab T ps' :: .lst ds :: .bnd 1 :: junk') ?if1 ?rest1
  case if1 =>
    by_cases hd : x = [98, 45, 97] ∨ x = [33, 98, 45, 97]
    · have ho : (Builtin.Str.occurrences (S x) (Str.ofString "-") 0 (S x).length 1).isEmpty = false := by rcases hd with rfl | rfl <;> decide +kernel
      refine tr_ifF ?_ ?_
      · repeat (ks_step "op2")
        exact ⟨ho, rfl⟩
      rcases hd with rfl | rfl
      · exact dash_walk K hsc0 hcode hC htr a t A B [] (.inl rfl) ht hpl ds fun ps' junk' i' htr' => ⟨ps', junk', i', rfl, htr', rfl, rfl⟩
      · exact dash_walk K hsc0 hcode hC htr a t A B [33] (.inr rfl) ht hpl ds fun ps' junk' i' htr' => ⟨ps', junk', i', rfl, htr', rfl, rfl⟩
    · have h5 : x = [97, 98] ∨ x = [33, 97] ∨ x = [42] ∨ x = [63] ∨ x = [91] := by
        rcases hx7 with h | h | h | h | h | h | h
        · exact .inl h
        · exact .inr (.inl h)
        · exact .inr (.inr (.inl h))
        · exact .inr (.inr (.inr (.inl h)))
        · exact .inr (.inr (.inr (.inr h)))
        · exact absurd (.inl h) hd
        · exact absurd (.inr h) hd
      have ho : (Builtin.Str.occurrences (S x) (Str.ofString "-") 0 (S x).length 1).isEmpty = true := by rcases h5 with rfl | rfl | rfl | rfl | rfl <;> decide +kernel
      have hr : (Builtin.Str.occurrences (S x) (Str.ofString "\\") 0 (S x).length ((S x).length + 1)).isEmpty = true := by rcases h5 with rfl | rfl | rfl | rfl | rfl <;> decide +kernel
      have hs : stuffOf x = x := by rcases h5 with rfl | rfl | rfl | rfl | rfl <;> decide
      refine tr_ifT ?_ ?_
      · repeat (ks_step "op2")
        exact ⟨ho, rfl⟩
      refine tr_cons ?_
      ks_step "op2"
      refine ev_smeth F.slot_str_replace F.type_str_replace ?_ rfl rfl (plain_cons rfl plain_nil) rfl rfl
      repeat (ks_step "op2")
      refine op_replace_none hr ?_
      repeat (ks_step "op2")
      refine tr_nil ?_
      exact ⟨ps, junk, A.length, rfl, htr, by rw [hs], rfl⟩
  case rest1 =>
    rintro _ _ _ ⟨ps', junk', i', rfl, htr', rfl, rfl⟩
    refine tr_cons ?_
    ks_step "op2"
    refine ev_resub K (stuff_sub hx) hcode hC rfl htr' (by ks_step "has") (by ks_step "kind") rfl rfl rfl fun ps'' htr'' => ?_
    have hj2 : ((A.length + x.length : Nat) : Int) + 1 = ((A.length + x.length + 1 : Nat) : Int) := by push_cast; rfl
    refine ⟨_, by ks_step "upd", ?_⟩
    refine after_next ?_
    refine tr_step (σ' := tF a t t.length (A.length + x.length + 1) 91 (A.length + x.length) (stuffOf x)) (μ₂ := .tab T ps'' :: .lst ds :: .bnd 1 :: junk') ?_ ?_
    · repeat (ks_step "op2")
      first | refine qi (hj2) ?_ | refine qs (hj2) ?_ | refine qt (hj2) ?_ | refine qb (hj2) ?_ | refine qm (hj2) ?_ | refine q1 (hj2) ?_ | rw [hj2]
      repeat (ks_step "op2")
      exact ⟨rfl, rfl, rfl⟩
    clear ht htl hxe h93 hxl hcut hw hy hlt hj1 hj2
    rcases hx7 with rfl | rfl | rfl | rfl | rfl | rfl | rfl
    · have e : stuffOf [97, 98] = [97, 98] := by decide
      first | refine qi (e) ?_ | refine qs (e) ?_ | refine qt (e) ?_ | refine qb (e) ?_ | refine qm (e) ?_ | refine q1 (e) ?_ | rw [e]
      clear e
      refine tr_cons ?_
      refine tr_ifF ?_ ?_
      · repeat (ks_step "op2")
        refine tru_str (by rw [S_length]; decide) ?_
        first | refine qi (S_length) ?_ | refine qs (S_length) ?_ | refine qt (S_length) ?_ | refine qb (S_length) ?_ | refine qm (S_length) ?_ | refine q1 (S_length) ?_ | rw [S_length]
        exact ⟨by decide, rfl⟩
      refine tr_cons ?_
      refine tr_ifF ?_ ?_
      · repeat (ks_step "op2")
        rw [s33, S_beq]
        exact ⟨by decide, rfl⟩
      refine tr_cons ?_
      refine tr_ifF ?_ ?_
      · repeat (ks_step "op2")
        refine sub_S (A := []) (B := [98]) (ch := 97) rfl rfl (by decide) ?_
        repeat (ks_step "op2")
        rw [s33, S_beq]
        exact ⟨by decide, rfl⟩
      refine tr_cons ?_
      refine tr_ifF ?_ ?_
      · repeat (ks_step "op2")
        refine sub_S (A := []) (B := [98]) (ch := 97) rfl rfl (by decide) ?_
        repeat (ks_step "op2")
        refine op_in_strs [Str.ofString "^", Str.ofString "["] ?_
        repeat (ks_step "op2")
        exact ⟨by decide +kernel, rfl⟩
      refine tr_nil ?_
      refine after_next ?_
      refine tr_nil ?_
      refine after_next ?_
      repeat (ks_step "op2")
      refine ev_acall KW (by ks_step "has") rfl rfl ?_
      repeat (ks_step "op2")
      · decide +kernel
      refine ⟨rfl, _, rfl, hdn, ?_⟩
      first | refine qi (show Str.empty ++ Str.ofString "[" ++ S [97, 98] ++ Str.ofString "]" = setTx [97, 98] by decide +kernel) ?_ | refine qs (show Str.empty ++ Str.ofString "[" ++ S [97, 98] ++ Str.ofString "]" = setTx [97, 98] by decide +kernel) ?_ | refine qt (show Str.empty ++ Str.ofString "[" ++ S [97, 98] ++ Str.ofString "]" = setTx [97, 98] by decide +kernel) ?_ | refine qb (show Str.empty ++ Str.ofString "[" ++ S [97, 98] ++ Str.ofString "]" = setTx [97, 98] by decide +kernel) ?_ | refine qm (show Str.empty ++ Str.ofString "[" ++ S [97, 98] ++ Str.ofString "]" = setTx [97, 98] by decide +kernel) ?_ | refine q1 (show Str.empty ++ Str.ofString "[" ++ S [97, 98] ++ Str.ofString "]" = setTx [97, 98] by decide +kernel) ?_ | rw [show Str.empty ++ Str.ofString "[" ++ S [97, 98] ++ Str.ofString "]" = setTx [97, 98] by decide +kernel]
      repeat (ks_step "op2")
      refine tr_nil ?_
      refine after_next ?_
      refine tr_nil ?_
      refine after_next ?_
      refine tr_nil ?_
      refine after_next ?_
      refine tr_nilT 7 ?_
      exact hX ps'' junk' htr''
    · have e : stuffOf [33, 97] = [33, 97] := by decide
      first | refine qi (e) ?_ | refine qs (e) ?_ | refine qt (e) ?_ | refine qb (e) ?_ | refine qm (e) ?_ | refine q1 (e) ?_ | rw [e]
      clear e
      refine tr_cons ?_
      refine tr_ifF ?_ ?_
      · repeat (ks_step "op2")
        refine tru_str (by rw [S_length]; decide) ?_
        first | refine qi (S_length) ?_ | refine qs (S_length) ?_ | refine qt (S_length) ?_ | refine qb (S_length) ?_ | refine qm (S_length) ?_ | refine q1 (S_length) ?_ | rw [S_length]
        exact ⟨by decide, rfl⟩
      refine tr_cons ?_
      refine tr_ifF ?_ ?_
      · repeat (ks_step "op2")
        rw [s33, S_beq]
        exact ⟨by decide, rfl⟩
      refine tr_cons ?_
      refine tr_ifT ?_ ?_
      · repeat (ks_step "op2")
        refine sub_S (A := []) (B := [97]) (ch := 33) rfl rfl (by decide) ?_
        repeat (ks_step "op2")
        rw [s33, S_beq]
        exact ⟨by decide, rfl⟩
      refine tr_step (σ' := tF a t t.length (A.length + 2 + 1) 91 (A.length + 2) [94, 97]) (μ₂ := .tab T ps'' :: .lst ds :: .bnd 1 :: junk') ?_ ?_
      · repeat (ks_step "op2")
        refine sl_str (by decide) ?_
        repeat (ks_step "op2")
        refine op_adds (by decide +kernel) ?_
        first | refine qi (show Str.ofString "^" ++ cutS (S [33, 97]) (some 1) none = S [94, 97] by decide +kernel) ?_ | refine qs (show Str.ofString "^" ++ cutS (S [33, 97]) (some 1) none = S [94, 97] by decide +kernel) ?_ | refine qt (show Str.ofString "^" ++ cutS (S [33, 97]) (some 1) none = S [94, 97] by decide +kernel) ?_ | refine qb (show Str.ofString "^" ++ cutS (S [33, 97]) (some 1) none = S [94, 97] by decide +kernel) ?_ | refine qm (show Str.ofString "^" ++ cutS (S [33, 97]) (some 1) none = S [94, 97] by decide +kernel) ?_ | refine q1 (show Str.ofString "^" ++ cutS (S [33, 97]) (some 1) none = S [94, 97] by decide +kernel) ?_ | rw [show Str.ofString "^" ++ cutS (S [33, 97]) (some 1) none = S [94, 97] by decide +kernel]
        repeat (ks_step "op2")
        exact ⟨rfl, rfl, rfl⟩
      refine tr_nil ?_
      refine after_next ?_
      repeat (ks_step "op2")
      refine ev_acall KW (by ks_step "has") rfl rfl ?_
      repeat (ks_step "op2")
      · decide +kernel
      refine ⟨rfl, _, rfl, hdn, ?_⟩
      first | refine qi (show Str.empty ++ Str.ofString "[" ++ S [94, 97] ++ Str.ofString "]" = setTx [33, 97] by decide +kernel) ?_ | refine qs (show Str.empty ++ Str.ofString "[" ++ S [94, 97] ++ Str.ofString "]" = setTx [33, 97] by decide +kernel) ?_ | refine qt (show Str.empty ++ Str.ofString "[" ++ S [94, 97] ++ Str.ofString "]" = setTx [33, 97] by decide +kernel) ?_ | refine qb (show Str.empty ++ Str.ofString "[" ++ S [94, 97] ++ Str.ofString "]" = setTx [33, 97] by decide +kernel) ?_ | refine qm (show Str.empty ++ Str.ofString "[" ++ S [94, 97] ++ Str.ofString "]" = setTx [33, 97] by decide +kernel) ?_ | refine q1 (show Str.empty ++ Str.ofString "[" ++ S [94, 97] ++ Str.ofString "]" = setTx [33, 97] by decide +kernel) ?_ | rw [show Str.empty ++ Str.ofString "[" ++ S [94, 97] ++ Str.ofString "]" = setTx [33, 97] by decide +kernel]
      repeat (ks_step "op2")
      refine tr_nil ?_
      refine after_next ?_
      refine tr_nil ?_
      refine after_next ?_
      refine tr_nil ?_
      refine after_next ?_
      refine tr_nilT 7 ?_
      exact hX ps'' junk' htr''
    · have e : stuffOf [42] = [42] := by decide
      first | refine qi (e) ?_ | refine qs (e) ?_ | refine qt (e) ?_ | refine qb (e) ?_ | refine qm (e) ?_ | refine q1 (e) ?_ | rw [e]
      clear e
      refine tr_cons ?_
      refine tr_ifF ?_ ?_
      · repeat (ks_step "op2")
        refine tru_str (by rw [S_length]; decide) ?_
        first | refine qi (S_length) ?_ | refine qs (S_length) ?_ | refine qt (S_length) ?_ | refine qb (S_length) ?_ | refine qm (S_length) ?_ | refine q1 (S_length) ?_ | rw [S_length]
        exact ⟨by decide, rfl⟩
      refine tr_cons ?_
      refine tr_ifF ?_ ?_
      · repeat (ks_step "op2")
        rw [s33, S_beq]
        exact ⟨by decide, rfl⟩
      refine tr_cons ?_
      refine tr_ifF ?_ ?_
      · repeat (ks_step "op2")
        refine sub_S (A := []) (B := []) (ch := 42) rfl rfl (by decide) ?_
        repeat (ks_step "op2")
        rw [s33, S_beq]
        exact ⟨by decide, rfl⟩
      refine tr_cons ?_
      refine tr_ifF ?_ ?_
      · repeat (ks_step "op2")
        refine sub_S (A := []) (B := []) (ch := 42) rfl rfl (by decide) ?_
        repeat (ks_step "op2")
        refine op_in_strs [Str.ofString "^", Str.ofString "["] ?_
        repeat (ks_step "op2")
        exact ⟨by decide +kernel, rfl⟩
      refine tr_nil ?_
      refine after_next ?_
      refine tr_nil ?_
      refine after_next ?_
      repeat (ks_step "op2")
      refine ev_acall KW (by ks_step "has") rfl rfl ?_
      repeat (ks_step "op2")
      · decide +kernel
      refine ⟨rfl, _, rfl, hdn, ?_⟩
      first | refine qi (show Str.empty ++ Str.ofString "[" ++ S [42] ++ Str.ofString "]" = setTx [42] by decide +kernel) ?_ | refine qs (show Str.empty ++ Str.ofString "[" ++ S [42] ++ Str.ofString "]" = setTx [42] by decide +kernel) ?_ | refine qt (show Str.empty ++ Str.ofString "[" ++ S [42] ++ Str.ofString "]" = setTx [42] by decide +kernel) ?_ | refine qb (show Str.empty ++ Str.ofString "[" ++ S [42] ++ Str.ofString "]" = setTx [42] by decide +kernel) ?_ | refine qm (show Str.empty ++ Str.ofString "[" ++ S [42] ++ Str.ofString "]" = setTx [42] by decide +kernel) ?_ | refine q1 (show Str.empty ++ Str.ofString "[" ++ S [42] ++ Str.ofString "]" = setTx [42] by decide +kernel) ?_ | rw [show Str.empty ++ Str.ofString "[" ++ S [42] ++ Str.ofString "]" = setTx [42] by decide +kernel]
      repeat (ks_step "op2")
      refine tr_nil ?_
      refine after_next ?_
      refine tr_nil ?_
      refine after_next ?_
      refine tr_nil ?_
      refine after_next ?_
      refine tr_nilT 7 ?_
      exact hX ps'' junk' htr''
    · have e : stuffOf [63] = [63] := by decide
      first | refine qi (e) ?_ | refine qs (e) ?_ | refine qt (e) ?_ | refine qb (e) ?_ | refine qm (e) ?_ | refine q1 (e) ?_ | rw [e]
      clear e
      refine tr_cons ?_
      refine tr_ifF ?_ ?_
      · repeat (ks_step "op2")
        refine tru_str (by rw [S_length]; decide) ?_
        first | refine qi (S_length) ?_ | refine qs (S_length) ?_ | refine qt (S_length) ?_ | refine qb (S_length) ?_ | refine qm (S_length) ?_ | refine q1 (S_length) ?_ | rw [S_length]
        exact ⟨by decide, rfl⟩
      refine tr_cons ?_
      refine tr_ifF ?_ ?_
      · repeat (ks_step "op2")
        rw [s33, S_beq]
        exact ⟨by decide, rfl⟩
      refine tr_cons ?_
      refine tr_ifF ?_ ?_
      · repeat (ks_step "op2")
        refine sub_S (A := []) (B := []) (ch := 63) rfl rfl (by decide) ?_
        repeat (ks_step "op2")
        rw [s33, S_beq]
        exact ⟨by decide, rfl⟩
      refine tr_cons ?_
      refine tr_ifF ?_ ?_
      · repeat (ks_step "op2")
        refine sub_S (A := []) (B := []) (ch := 63) rfl rfl (by decide) ?_
        repeat (ks_step "op2")
        refine op_in_strs [Str.ofString "^", Str.ofString "["] ?_
        repeat (ks_step "op2")
        exact ⟨by decide +kernel, rfl⟩
      refine tr_nil ?_
      refine after_next ?_
      refine tr_nil ?_
      refine after_next ?_
      repeat (ks_step "op2")
      refine ev_acall KW (by ks_step "has") rfl rfl ?_
      repeat (ks_step "op2")
      · decide +kernel
      refine ⟨rfl, _, rfl, hdn, ?_⟩
      first | refine qi (show Str.empty ++ Str.ofString "[" ++ S [63] ++ Str.ofString "]" = setTx [63] by decide +kernel) ?_ | refine qs (show Str.empty ++ Str.ofString "[" ++ S [63] ++ Str.ofString "]" = setTx [63] by decide +kernel) ?_ | refine qt (show Str.empty ++ Str.ofString "[" ++ S [63] ++ Str.ofString "]" = setTx [63] by decide +kernel) ?_ | refine qb (show Str.empty ++ Str.ofString "[" ++ S [63] ++ Str.ofString "]" = setTx [63] by decide +kernel) ?_ | refine qm (show Str.empty ++ Str.ofString "[" ++ S [63] ++ Str.ofString "]" = setTx [63] by decide +kernel) ?_ | refine q1 (show Str.empty ++ Str.ofString "[" ++ S [63] ++ Str.ofString "]" = setTx [63] by decide +kernel) ?_ | rw [show Str.empty ++ Str.ofString "[" ++ S [63] ++ Str.ofString "]" = setTx [63] by decide +kernel]
      repeat (ks_step "op2")
      refine tr_nil ?_
      refine after_next ?_
      refine tr_nil ?_
      refine after_next ?_
      refine tr_nil ?_
      refine after_next ?_
      refine tr_nilT 7 ?_
      exact hX ps'' junk' htr''
    · have e : stuffOf [91] = [91] := by decide
      first | refine qi (e) ?_ | refine qs (e) ?_ | refine qt (e) ?_ | refine qb (e) ?_ | refine qm (e) ?_ | refine q1 (e) ?_ | rw [e]
      clear e
      refine tr_cons ?_
      refine tr_ifF ?_ ?_
      · repeat (ks_step "op2")
        refine tru_str (by rw [S_length]; decide) ?_
        first | refine qi (S_length) ?_ | refine qs (S_length) ?_ | refine qt (S_length) ?_ | refine qb (S_length) ?_ | refine qm (S_length) ?_ | refine q1 (S_length) ?_ | rw [S_length]
        exact ⟨by decide, rfl⟩
      refine tr_cons ?_
      refine tr_ifF ?_ ?_
      · repeat (ks_step "op2")
        rw [s33, S_beq]
        exact ⟨by decide, rfl⟩
      refine tr_cons ?_
      refine tr_ifF ?_ ?_
      · repeat (ks_step "op2")
        refine sub_S (A := []) (B := []) (ch := 91) rfl rfl (by decide) ?_
        repeat (ks_step "op2")
        rw [s33, S_beq]
        exact ⟨by decide, rfl⟩
      refine tr_cons ?_
      refine tr_ifT ?_ ?_
      · repeat (ks_step "op2")
        refine sub_S (A := []) (B := []) (ch := 91) rfl rfl (by decide) ?_
        repeat (ks_step "op2")
        refine op_in_strs [Str.ofString "^", Str.ofString "["] ?_
        repeat (ks_step "op2")
        exact ⟨by decide +kernel, rfl⟩
      refine tr_step (σ' := tF a t t.length (A.length + 1 + 1) 91 (A.length + 1) [92, 91]) (μ₂ := .tab T ps'' :: .lst ds :: .bnd 1 :: junk') ?_ ?_
      · repeat (ks_step "op2")
        refine op_adds (by decide +kernel) ?_
        first | refine qi (show Str.ofString "\\" ++ S [91] = S [92, 91] by decide +kernel) ?_ | refine qs (show Str.ofString "\\" ++ S [91] = S [92, 91] by decide +kernel) ?_ | refine qt (show Str.ofString "\\" ++ S [91] = S [92, 91] by decide +kernel) ?_ | refine qb (show Str.ofString "\\" ++ S [91] = S [92, 91] by decide +kernel) ?_ | refine qm (show Str.ofString "\\" ++ S [91] = S [92, 91] by decide +kernel) ?_ | refine q1 (show Str.ofString "\\" ++ S [91] = S [92, 91] by decide +kernel) ?_ | rw [show Str.ofString "\\" ++ S [91] = S [92, 91] by decide +kernel]
        repeat (ks_step "op2")
        exact ⟨rfl, rfl, rfl⟩
      refine tr_nil ?_
      refine after_next ?_
      refine tr_nil ?_
      refine after_next ?_
      repeat (ks_step "op2")
      refine ev_acall KW (by ks_step "has") rfl rfl ?_
      repeat (ks_step "op2")
      · decide +kernel
      refine ⟨rfl, _, rfl, hdn, ?_⟩
      first | refine qi (show Str.empty ++ Str.ofString "[" ++ S [92, 91] ++ Str.ofString "]" = setTx [91] by decide +kernel) ?_ | refine qs (show Str.empty ++ Str.ofString "[" ++ S [92, 91] ++ Str.ofString "]" = setTx [91] by decide +kernel) ?_ | refine qt (show Str.empty ++ Str.ofString "[" ++ S [92, 91] ++ Str.ofString "]" = setTx [91] by decide +kernel) ?_ | refine qb (show Str.empty ++ Str.ofString "[" ++ S [92, 91] ++ Str.ofString "]" = setTx [91] by decide +kernel) ?_ | refine qm (show Str.empty ++ Str.ofString "[" ++ S [92, 91] ++ Str.ofString "]" = setTx [91] by decide +kernel) ?_ | refine q1 (show Str.empty ++ Str.ofString "[" ++ S [92, 91] ++ Str.ofString "]" = setTx [91] by decide +kernel) ?_ | rw [show Str.empty ++ Str.ofString "[" ++ S [92, 91] ++ Str.ofString "]" = setTx [91] by decide +kernel]
      repeat (ks_step "op2")
      refine tr_nil ?_
      refine after_next ?_
      refine tr_nil ?_
      refine after_next ?_
      refine tr_nil ?_
      refine after_next ?_
      refine tr_nilT 7 ?_
      exact hX ps'' junk' htr''
    · have e : stuffOf [98, 45, 97] = [] := by decide
      first | refine qi (e) ?_ | refine qs (e) ?_ | refine qt (e) ?_ | refine qb (e) ?_ | refine qm (e) ?_ | refine q1 (e) ?_ | rw [e]
      clear e
      refine tr_cons ?_
      refine tr_ifT ?_ ?_
      · repeat (ks_step "op2")
        refine tru_str (by rw [S_length]; decide) ?_
        first | refine qi (S_length) ?_ | refine qs (S_length) ?_ | refine qt (S_length) ?_ | refine qb (S_length) ?_ | refine qm (S_length) ?_ | refine q1 (S_length) ?_ | rw [S_length]
        exact ⟨by decide, rfl⟩
      repeat (ks_step "op2")
      refine ev_acall KW (by ks_step "has") rfl rfl ?_
      repeat (ks_step "op2")
      refine ⟨rfl, _, rfl, hdn, ?_⟩
      repeat (ks_step "op2")
      refine tr_nil ?_
      refine after_next ?_
      refine tr_nil ?_
      refine after_next ?_
      refine tr_nilT 7 ?_
      have h9 := hX ps'' junk' htr''
      rw [show setTx [98, 45, 97] = Str.ofString "(?!)" by decide +kernel] at h9
      exact h9
    · have e : stuffOf [33, 98, 45, 97] = [33] := by decide
      first | refine qi (e) ?_ | refine qs (e) ?_ | refine qt (e) ?_ | refine qb (e) ?_ | refine qm (e) ?_ | refine q1 (e) ?_ | rw [e]
      clear e
      refine tr_cons ?_
      refine tr_ifF ?_ ?_
      · repeat (ks_step "op2")
        refine tru_str (by rw [S_length]; decide) ?_
        first | refine qi (S_length) ?_ | refine qs (S_length) ?_ | refine qt (S_length) ?_ | refine qb (S_length) ?_ | refine qm (S_length) ?_ | refine q1 (S_length) ?_ | rw [S_length]
        exact ⟨by decide, rfl⟩
      refine tr_cons ?_
      refine tr_ifT ?_ ?_
      · repeat (ks_step "op2")
        rw [s33, S_beq]
        exact ⟨by decide, rfl⟩
      repeat (ks_step "op2")
      refine ev_acall KW (by ks_step "has") rfl rfl ?_
      repeat (ks_step "op2")
      refine ⟨rfl, _, rfl, hdn, ?_⟩
      repeat (ks_step "op2")
      refine tr_nil ?_
      refine after_next ?_
      refine tr_nil ?_
      refine after_next ?_
      refine tr_nil ?_
      refine after_next ?_
      refine tr_nilT 7 ?_
      have h9 := hX ps'' junk' htr''
      rw [show setTx [33, 98, 45, 97] = Str.ofString "." by decide +kernel] at h9
      exact h9
end -- QSet

section -- QTra
theorem tra_walk {c : Cx} {mg mb : Str → Option Value} (K : c.Ok mg mb) (hcn : c.n = 1) (hsc : c.env.scope = (defAt 9).scope) {T cc : Addr} {ps : Array Value} (hcode : c.env.code = .ref cc) (hC : CodeHd c.h₀ cc T) (htr : TriplesOk ps.toList)
    (a : Addr) (its : List Pt) (hok : ∀ p ∈ its, OkPt p) (hss : NoSS its) (hl : its.length ≤ 20) :
    TrT c [(Str.ofString "pat", .str (S (pats its))), (Str.ofString "STAR", .opq (.ref a)), (Str.ofString "QUESTION_MARK", .str (Str.ofString "."))] [.tab T ps] (execs (defAt 9).body c.env)
      (fun fl _ μ => fl = .ret (.ref 1) ∧ ∃ ps', μ[0]? = some (.tab T ps') ∧ TriplesOk ps'.toList ∧ μ[1]? = some (dn a its)) := by
  have hsc0 := hsc
  conv at hsc => rhs; whnf
  have KW : c.OkW mg mb := K.toOkW
  have hpl : (pats its).length ≤ 1000 := by have := pats_len its hok; omega
  obtain ⟨t, ht⟩ : ∃ t, t = pats its := ⟨_, rfl⟩
  rw [← ht] at hpl ⊢
  refine tr_cons ?_
  repeat (ks_step "op2")
  refine ev_listM ?_
  repeat (ks_step "op2")
  refine ev_bound KW (by ks_step "has") rfl ?_
  repeat (ks_step "op2")
  refine tr_pair K hsc (x := Str.ofString "i") (y := Str.ofString "n") (by ks_step "kinds") ?_ (by kernel_rfl!)
  repeat (ks_step "op2")
  refine op_len_str (by rw [S_length]; omega) ?_
  first | refine qi (S_length) ?_ | refine qs (S_length) ?_ | refine qt (S_length) ?_ | refine qb (S_length) ?_ | refine qm (S_length) ?_ | refine q1 (S_length) ?_ | rw [S_length]
  repeat (ks_step "op2")
  refine ⟨_, _, _, _, rfl, by ks_step "upd", by ks_step "upd", ?_⟩
  refine tr_cons ?_
  refine TrT.mono (Q := fun fl σ μ => ∃ ps' junk, fl = .next ∧ TriplesOk ps'.toList ∧ σ = tS a t t.length t.length ∧ μ = .tab T ps' :: dn a its :: .bnd 1 :: junk) ?wh ?rest
  case rest =>
    rintro _ _ _ ⟨ps', junk, rfl, htr', rfl, rfl⟩
    repeat (ks_step "op2")
    refine ⟨beq_self_eq_true _, ?_⟩
    repeat (ks_step "op2")
    exact ⟨rfl, ps', rfl, htr', rfl⟩
  case wh =>
    refine tr_whileX (fun m σ μ => ∃ (done rs : List Pt) (ps' : Array Value) (junk : List MO), its = done ++ rs ∧ m = rs.length ∧ TriplesOk ps'.toList ∧
      σ = tS a t t.length (pats done).length ∧ μ = .tab T ps' :: dn a done :: .bnd 1 :: junk) ?_ its.length ⟨[], its, ps, [], rfl, rfl, htr, rfl, rfl⟩
    rintro m σ μ ⟨done, rs, ps', junk, hits, rfl, htr', rfl, rfl⟩ X hX _ _
    have hpre : t = pats done ++ pats rs := by rw [ht, hits]; simp [pats]
    have hok' : ∀ p ∈ rs, OkPt p := fun p hp => hok p (by rw [hits]; exact List.mem_append_right _ hp)
    have hdl : done.length ≤ 20 := by have := congrArg List.length hits; simp at this; omega
    cases rs with
    | nil =>
      refine .inr ⟨?_, ?_⟩
      · repeat (ks_step "op2")
        exact ⟨by rw [hpre]; simp [pats], rfl⟩
      · exact ⟨ps', junk, rfl, htr', by rw [hpre]; simp [pats], by rw [hits]; simp⟩
    | cons p rs =>
      have hpos : (pats done).length < t.length := by rw [hpre]; cases p <;> simp [pats, Pt.pat]
      have hptl : ∃ ch r, p.pat = ch :: r ∧ (p = .star ∧ ch = 42 ∨ p = .q ∧ ch = 63 ∨ (∃ x, p = .set x ∧ ch = 91 ∧ r = x ++ [93]) ∨ p = .sg ch ∧ r = []) := by
        cases p with
        | star => exact ⟨_, _, rfl, .inl ⟨rfl, rfl⟩⟩
        | q => exact ⟨_, _, rfl, .inr (.inl ⟨rfl, rfl⟩)⟩
        | set x => exact ⟨_, _, rfl, .inr (.inr (.inl ⟨x, rfl, rfl, rfl⟩))⟩
        | sg ch => exact ⟨_, _, rfl, .inr (.inr (.inr ⟨rfl, rfl⟩))⟩
      obtain ⟨ch, r, hpr, hcase⟩ := hptl
      refine .inl ⟨?_, ?_⟩
      · repeat (ks_step "op2")
        exact ⟨by simpa using hpos, rfl⟩
      have hch : t = pats done ++ ch :: (r ++ pats rs) := by rw [hpre]; simp [pats, hpr]
      refine tr_step (σ' := tC a t t.length (pats done).length ch) (μ₂ := .tab T ps' :: dn a done :: .bnd 1 :: junk) ?_ ?_
      · repeat (ks_step "op2")
        refine sub_S hch rfl hpl ?_
        repeat (ks_step "op2")
        exact ⟨rfl, rfl, rfl⟩
      have ei : ((pats done).length : Int) + 1 = (((pats done).length + 1 : Nat) : Int) := by push_cast; rfl
      refine tr_step (σ' := tC a t t.length ((pats done).length + 1) ch) (μ₂ := .tab T ps' :: dn a done :: .bnd 1 :: junk) ?_ ?_
      · repeat (ks_step "op2")
        first | refine qi (ei) ?_ | refine qs (ei) ?_ | refine qt (ei) ?_ | refine qb (ei) ?_ | refine qm (ei) ?_ | refine q1 (ei) ?_ | rw [ei]
        repeat (ks_step "op2")
        exact ⟨rfl, rfl, rfl⟩
      have hlen : (pats (done ++ [p])).length = (pats done).length + p.pat.length := by simp [pats]
      have hW : ∀ (ps'' : Array Value) (junk' : List MO) (d : D) (n : Nat), TriplesOk ps''.toList → d = dPt a p.part → n = (pats done).length + p.pat.length → X .next (tS a t t.length n) (.tab T ps'' :: .lst ((done.map fun p => dPt a p.part) ++ [d]) :: .bnd 1 :: junk') := fun ps'' junk' d n htr'' hd hn =>
        hX _ _ rs.length (by simp) ⟨done ++ [p], rs, ps'', junk', by rw [hits]; simp, rfl, htr'', by rw [hn, hlen], by rw [hd]; simp⟩
      clear hX
      have s42 : Str.ofString "*" = S [42] := by decide +kernel
      have s63 : Str.ofString "?" = S [63] := by decide +kernel
      have s91 : Str.ofString "[" = S [91] := by decide +kernel
      have hdn : (done.map fun p => dPt a p.part).length ≤ 1000 := by rw [List.length_map]; omega
      clear ht hl
      rcases hcase with ⟨rfl, rfl⟩ | ⟨rfl, rfl⟩ | ⟨x, rfl, rfl, hr⟩ | ⟨rfl, hr⟩
      · refine tr_cons ?_
        refine tr_ifT ?_ ?_
        · repeat (ks_step "op2")
          first | exact ⟨rfl, rfl⟩ | exact rfl
        refine tr_cons ?_
        refine tr_ifT ?_ ?_
        · repeat (ks_step "op2")
          refine tru_ref (ds := done.map fun p => dPt a p.part) rfl (by omega) ?_
          rcases List.eq_nil_or_concat done with hd | ⟨d0, y, hd⟩
          · subst hd
            refine ite_t (show (!!((([] : List Pt).map fun p => dPt a p.part).isEmpty)) = true from rfl) ?_
            exact ⟨rfl, rfl⟩
          · rw [List.concat_eq_append] at hd
            have hy : y ≠ .star := noss_mid d0 y rs (by rw [hits, hd] at hss; simpa using hss)
            have hne : (!!(done.map fun p => dPt a p.part).isEmpty) = false := by rw [hd]; simp
            refine ite_f (hne) ?_
            repeat (ks_step "op2")
            obtain ⟨z, hz⟩ : ∃ z, dPt a y.part = .str z := by
              cases y with
              | star => exact absurd rfl hy
              | q => exact ⟨_, rfl⟩
              | set x => exact ⟨_, rfl⟩
              | sg ch => exact ⟨_, rfl⟩
            refine sub_ref (ds := done.map fun p => dPt a p.part) (d := .str z) rfl (by rw [hd]; simp; omega) (by omega) ?_ ?_
            · rw [hd, ← hz, show (-1 : Int) = -1 from rfl]
              have : place (-1) ((d0 ++ [y]).map fun p => dPt a p.part).length = d0.length := by unfold place; rw [if_pos (by decide)]; simp; omega
              rw [this]; simp
            repeat (ks_step "op2")
            first | exact ⟨rfl, rfl⟩ | exact rfl
        repeat (ks_step "op2")
        refine ev_acall KW (by ks_step "has") rfl rfl ?_
        repeat (ks_step "op2")
        refine ⟨rfl, _, rfl, hdn, ?_⟩
        repeat (ks_step "op2")
        refine tr_nil ?_
        refine after_next ?_
        refine tr_nil ?_
        refine after_next ?_
        refine tr_nilT 7 ?_
        exact hW ps' junk _ _ htr' rfl rfl
      · refine tr_cons ?_
        refine tr_ifF ?_ ?_
        · repeat (ks_step "op2")
          rw [s42, S_beq]
          exact ⟨by decide, rfl⟩
        refine tr_cons ?_
        refine tr_ifT ?_ ?_
        · repeat (ks_step "op2")
          rw [s63, S_beq]
          exact ⟨by decide, rfl⟩
        repeat (ks_step "op2")
        refine ev_acall KW (by ks_step "has") rfl rfl ?_
        repeat (ks_step "op2")
        refine ⟨rfl, _, rfl, hdn, ?_⟩
        repeat (ks_step "op2")
        refine tr_nil ?_
        refine after_next ?_
        refine tr_nil ?_
        refine after_next ?_
        refine tr_nilT 7 ?_
        exact hW ps' junk _ _ htr' rfl rfl
      · refine tr_cons ?_
        refine tr_ifF ?_ ?_
        · repeat (ks_step "op2")
          rw [s42, S_beq]
          exact ⟨by decide, rfl⟩
        refine tr_cons ?_
        refine tr_ifF ?_ ?_
        · repeat (ks_step "op2")
          rw [s63, S_beq]
          exact ⟨by decide, rfl⟩
        refine tr_cons ?_
        refine tr_ifT ?_ ?_
        · repeat (ks_step "op2")
          rw [s91, S_beq]
          exact ⟨by decide, rfl⟩
        have eA : (pats done).length + 1 = (pats done ++ [91]).length := by simp
        first | refine qi (eA) ?_ | refine qs (eA) ?_ | refine qt (eA) ?_ | refine qb (eA) ?_ | refine qm (eA) ?_ | refine q1 (eA) ?_ | rw [eA]
        refine set_walk K hsc0 hcode hC htr' a t (pats done ++ [91]) (pats rs) x (hok' _ (List.mem_cons_self ..)) (by rw [hch, hr]; simp) hpl _ hdn fun ps'' junk' h'' => ?_
        refine after_next ?_
        refine tr_nil ?_
        refine after_next ?_
        refine tr_nil ?_
        refine after_next ?_
        refine tr_nilT 7 ?_
        exact hW ps'' junk' _ _ h'' rfl (by simp [Pt.pat]; omega)
      · have hp : ch ∉ [42, 63, 91] := hok' _ (List.mem_cons_self ..)
        refine tr_cons ?_
        refine tr_ifF ?_ ?_
        · repeat (ks_step "op2")
          rw [s42, S_beq]
          exact ⟨by simp at hp ⊢; exact hp.1, rfl⟩
        refine tr_cons ?_
        refine tr_ifF ?_ ?_
        · repeat (ks_step "op2")
          rw [s63, S_beq]
          exact ⟨by simp at hp ⊢; exact hp.2.1, rfl⟩
        refine tr_cons ?_
        refine tr_ifF ?_ ?_
        · repeat (ks_step "op2")
          rw [s91, S_beq]
          exact ⟨by simp at hp ⊢; exact hp.2.2, rfl⟩
        repeat (ks_step "op2")
        refine ev_acall KW (by ks_step "has") rfl rfl ?_
        refine ev_fcall nm7 rec7 K (n := 1) (by omega) (by ks_step "kind") rfl ?_
        repeat (ks_step "op2")
        refine ⟨rfl, (esc_con (prog := c.prog) (w := c.w) (mg := mg) (mb := mb) ch).mono fun e' he' => ?_⟩
        subst he'
        refine ⟨rfl, rfl, _, rfl, hdn, ?_⟩
        repeat (ks_step "op2")
        refine tr_nil ?_
        refine after_next ?_
        refine tr_nil ?_
        refine after_next ?_
        refine tr_nil ?_
        refine after_next ?_
        refine tr_nilT 7 ?_
        exact hW ps' junk _ _ htr' rfl rfl
theorem rp_pure {a : Addr} : ∀ l : List Pt, Ress μ (l.map fun p => dPt a p.part) (l.map fun p => dPt a p.part)
  | [] => .nil
  | x :: r => .cons (.pure (by cases x <;> rfl)) (rp_pure r)
theorem tra_con {prog : Program} {w : World} {mg mb : Str → Option Value} {T : Addr} (a : Addr) (its : List Pt) (hok : ∀ p ∈ its, OkPt p) (hss : NoSS its) (hl : its.length ≤ 20) :
    ConT prog w mg mb 2 T (defAt 9) [.str (S (pats its)), .opq (.ref a), .str (Str.ofString ".")] (fun e => e = .lst (its.map fun p => dPt a p.part)) :=
  con_introT (xs := [Str.ofString "pat", Str.ofString "STAR", Str.ofString "QUESTION_MARK"]) (by intro pm code doc vs h; obtain ⟨v1, v2, v3, rfl⟩ := len3 h; kernel_rfl) rfl (by decide +kernel) (by decide +kernel) (by decide +kernel) (by decide +kernel) (by kernel_rfl) (by kernel_rfl) (by kernel_rfl)
    fun c ad ps o pm code doc h1 h2 h3 h4 _ K htr ht hma ho hdat hcode => by
      obtain ⟨a', cc, o', pm', doc', t1, t2, t3, t4⟩ := ht
      have e1 : mg (Str.ofString "_translate") = some (.ref ad) := hma
      rw [t1] at e1; cases e1
      rw [t2] at ho; cases ho
      rw [t3] at hdat
      have e2 : code = .ref cc := by
        injection hdat with q
        unfold Calls.docDef at q
        injection q with q1 q2 q3 q4 q5 q6 q7
        exact (by assumption : Value.ref cc = code).symm
      exact (tra_walk K h4 h3 (hcode.trans e2) t4 htr a its hok hss hl).mono fun fl σ' μ' ⟨hf, ps', hm0, hps, hm1⟩ => ⟨_, _, ps', .inl hf, hm0, hps, .ref hm1 (rp_pure _), rfl⟩
end -- QTra

section -- QRight
section
variable {c : Cx} {σ : List (Str × D)} {μ : List MO}
/-- a list that stands in a variable: its address, as a value -/
theorem tr_dup {x : Str} {ds : List D} {t : Sem Flow} {Q : Fl → List (Str × D) → List MO → Prop} (hx : (x, .lst ds) ∈ σ) (h : ∀ a, TrT c ((x, .opq (.ref a)) :: σ) μ t Q) : TrT c σ μ t Q := fun P φ s I => by
  obtain ⟨v, H, r⟩ := I.vars _ _ hx
  cases r with
  | @lst a =>
    exact h a P φ s ⟨I.fz, I.base, I.src, I.gens, I.os, I.ns, I.cells, fun y d hy => (List.mem_cons.mp hy).elim (fun e => by cases e; exact ⟨_, H, .opq _⟩) (I.vars y d), I.len, I.mu, I.nd, I.apart, I.apart₀, I.lt⟩
end
noncomputable abbrev rtS (a : Addr) (numbers : List Nat) (items : List Item) (name : List Nat) (its : List Pt) : List (Str × D) := [(Str.ofString "star", .opq (.ref a)), (Str.ofString "numbers", dNums numbers), (Str.ofString "items", dItems items), (Str.ofString "name", .str (S name)), (Str.ofString "star", .lst [.str (Str.ofString "*")]), (Str.ofString "parts", dParts a its)]
theorem eqk_bools {α : Type} (f : α → Bool) {l : List α} : D.eqk 1 (.lst (l.map fun x => D.bool (f x))) = true := by
  first | refine qi (D.eqk) ?_ | refine qs (D.eqk) ?_ | refine qt (D.eqk) ?_ | refine qb (D.eqk) ?_ | refine qm (D.eqk) ?_ | refine q1 (D.eqk) ?_ | rw [D.eqk]
  refine List.all_eq_true.mpr fun d hd => ?_
  obtain ⟨p, _, rfl⟩ := List.mem_map.mp hd
  rfl
theorem eqk_rows (r : List (List Nat)) : D.eqk 2 (dRows r) = true := by
  first | refine qi (D.eqk) ?_ | refine qs (D.eqk) ?_ | refine qt (D.eqk) ?_ | refine qb (D.eqk) ?_ | refine qm (D.eqk) ?_ | refine q1 (D.eqk) ?_ | rw [D.eqk]
  refine List.all_eq_true.mpr fun d hd => ?_
  obtain ⟨p, _, rfl⟩ := List.mem_map.mp hd
  first | refine qi (D.eqk) ?_ | refine qs (D.eqk) ?_ | refine qt (D.eqk) ?_ | refine qb (D.eqk) ?_ | refine qm (D.eqk) ?_ | refine q1 (D.eqk) ?_ | rw [D.eqk]
  refine List.all_eq_true.mpr fun d hd => ?_
  obtain ⟨q, _, rfl⟩ := List.mem_map.mp hd
  rfl
theorem eqk_told (ts : List (List (List Nat))) : D.eqk 3 (.lst (ts.map dRows)) = true := by
  first | refine qi (D.eqk) ?_ | refine qs (D.eqk) ?_ | refine qt (D.eqk) ?_ | refine qb (D.eqk) ?_ | refine qm (D.eqk) ?_ | refine q1 (D.eqk) ?_ | rw [D.eqk]
  refine List.all_eq_true.mpr fun d hd => ?_
  obtain ⟨p, _, rfl⟩ := List.mem_map.mp hd
  exact eqk_rows p
theorem right_walk {c : Cx} {mg mb : Str → Option Value} (K : c.Ok mg mb) (hcn : c.n = 5) (hro : c.ro = false) (hsc : c.env.scope = (defAt 27).scope) {T : Addr} {ps : Array Value} (ht : TraAt mg c.h₀ T) (htr : TriplesOk ps.toList)
    (numbers : List Nat) (hnl : numbers.length ≤ 5) (items : List Item) (name : List Nat) (its : List Pt) (hb : built numbers = (items, S name)) (hok : ∀ p ∈ its, OkPt p) (hss : NoSS its) (hl : items.length ≤ 10) (hil : its.length = items.length)
    (hn : name.length ≤ 6) (htx : items.map (·.txt) = its.map fun p => S p.pat) (hst : items.map (fun it => it.barred.isNone) = its.map fun p => decide (p.part = none)) (hplain : found its items (S name) = foldedR items name) :
    TrT c [(Str.ofString "numbers", dNums numbers)] [.tab T ps] (execs (defAt 27).body c.env) (fun fl _ μ => fl = .ret (.bool true) ∧ ∃ ps', μ[0]? = some (.tab T ps') ∧ TriplesOk ps'.toList) := by
  conv at hsc => rhs; whnf
  have KW : c.OkW mg mb := K.toOkW
  refine tr_step (σ' := [(Str.ofString "numbers", dNums numbers), (Str.ofString "items", dItems items), (Str.ofString "name", .str (S name))]) (μ₂ := [.tab T ps]) ?_ ?_
  · refine tr_tupleN K hsc (xs := [Str.ofString "items", Str.ofString "name"]) rfl (by ks_step "kinds") ?_ (by kernel_rfl!)
    refine ev_fcall nm20 rec20 K (n := 3) (by omega) (by ks_step "kind") rfl ?_
    repeat (ks_step "op2")
    refine ⟨by simp only [Ds.pure, D.pure, pure_bools (fun n : Nat => D.int (n : Int)) (fun _ => rfl), Bool.and_self], (built_con numbers (by omega)).mono fun e' he' => ?_⟩
    subst he'
    first | refine qi (hb) ?_ | refine qs (hb) ?_ | refine qt (hb) ?_ | refine qb (hb) ?_ | refine qm (hb) ?_ | refine q1 (hb) ?_ | rw [hb]
    refine ⟨by simp only [Ds.pure, D.pure, pure_bools dItem pure_item, Bool.and_self], _, _, rfl, by ks_step "upds", ?_⟩
    exact ⟨rfl, rfl, rfl⟩
  refine tr_step (σ' := [(Str.ofString "numbers", dNums numbers), (Str.ofString "items", dItems items), (Str.ofString "name", .str (S name)), (Str.ofString "star", .lst [.str (Str.ofString "*")])]) (μ₂ := [.tab T ps]) ?_ ?_
  · ks_step "op2"
    refine ev_list ?_
    repeat (ks_step "op2")
    exact ⟨rfl, rfl, rfl⟩
  refine tr_dup (x := Str.ofString "star") (ds := [.str (Str.ofString "*")]) (by ks_step "has") fun a => ?_
  refine tr_cons ?_
  refine TrT.mono (Q := fun fl σ μ => ∃ ps', fl = .next ∧ TriplesOk ps'.toList ∧ σ = rtS a numbers items name its ∧ μ = [.tab T ps']) ?tra ?rest
  case tra =>
    ks_step "op2"
    refine ev_tabcall nm9 rec9 K ht (n := 2) (by omega) (by ks_step "kind") rfl ?_
    refine evs_c rfl ?_
    refine ev_smeth F.slot_str_join F.type_str_join ?_ rfl rfl plain_nil rfl rfl
    refine ev_str ?_
    refine ⟨_, rfl, ?_⟩
    refine evs_c rfl ?_
    refine ev_comp K hsc [] subc_nil [] rfl (by decide +kernel) (by decide +kernel) (by kernel_rfl) (by decide +kernel) (by kernel_rfl) (by decide +kernel) ?_
    refine it_lst K ?_
    repeat (ks_step "op2")
    refine ⟨pure_bools _ pure_item _, Item, items, dItem, fun it => some (.str it.txt), rfl, by omega, ?_, ?_, ?_⟩
    · intro x _ e h
      cases h; rfl
    · intro c' h1 h2 h3 h4 K' x _ acc
      conv at h3 => rhs; whnf
      refine ⟨_, Upd.nil, by ks_step "sub", ?_⟩
      show EvT _ _ _ _ _
      repeat (ks_step "op2")
      first | exact ⟨rfl, rfl⟩ | rfl
    first | refine qi (filterMap_some) ?_ | refine qs (filterMap_some) ?_ | refine qt (filterMap_some) ?_ | refine qb (filterMap_some) ?_ | refine qm (filterMap_some) ?_ | refine q1 (filterMap_some) ?_ | rw [filterMap_some]
    refine evs_nil ?_
    rw [show (items.map fun it => D.str it.txt) = (items.map (·.txt)).map .str by rw [List.map_map]; rfl, htx]
    refine op_join_l (ys := its.map fun p => S p.pat) ?_ ?_
    · have hpl := sum_le 6 (its.map fun p => S p.pat) fun x hx => by
        obtain ⟨p, hp, rfl⟩ := List.mem_map.mp hx
        first | refine qi (S_length) ?_ | refine qs (S_length) ?_ | refine qt (S_length) ?_ | refine qb (S_length) ?_ | refine qm (S_length) ?_ | refine q1 (S_length) ?_ | rw [S_length]
        have := pats_len [p] (by simpa using hok p hp)
        simpa [pats] using this
      have h00 : (Str.ofString "").length = 0 := by decide +kernel
      first | refine qi (h00) ?_ | refine qs (h00) ?_ | refine qt (h00) ?_ | refine qb (h00) ?_ | refine qm (h00) ?_ | refine q1 (h00) ?_ | rw [h00]
      rw [List.length_map] at hpl
      omega
    rw [join_cat, show (its.map fun p => S p.pat) = (its.map Pt.pat).map S by rw [List.map_map]; rfl, cat_S]
    repeat (ks_step "op2")
    refine ⟨rfl, ps, rfl, htr, (tra_con a its hok hss (by omega)).mono fun e he => ?_⟩
    subst he
    refine ⟨by simp only [D.pure]; exact pure_bools _ (pure_pt a) _, fun ps' htr' => ?_⟩
    refine ⟨_, by ks_step "upd", ?_⟩
    exact ⟨ps', rfl, htr', rfl, rfl⟩
  case rest =>
    rintro _ _ _ ⟨ps', rfl, htr', rfl, rfl⟩
    refine tr_cons ?_
    refine tr_ifF ?_ ?_
    · refine ts_compare ?_ (by with_unfolding_all rfl)
      refine ev_comp K hsc [(Str.ofString "star", .opq (.ref a))] ?hsub [Str.ofString "star"] rfl (by decide +kernel) (by decide +kernel) (by kernel_rfl) (by decide +kernel) (by kernel_rfl) (by decide +kernel) ?_
      case hsub => exact subc_cons (by ks_step "has") rfl (by ks_step "kindc") (by kernel_rfl!) subc_nil
      refine it_lst K ?_
      repeat (ks_step "op2")
      refine ⟨pure_bools _ (pure_pt a) _, Pt, its, fun p => dPt a p.part, fun p => some (.bool (decide (p.part = none))), rfl, by omega, ?_, ?_, ?_⟩
      · intro x _ e h
        cases h; rfl
      · intro c' h1 h2 h3 h4 K' x _ acc
        conv at h3 => rhs; whnf
        refine ⟨_, by ks_step "upd", by ks_step "sub", ?_⟩
        show EvT _ _ _ _ _
        dsimp only
        cases hx : x.part with
        | none =>
          simp only [dPt]
          repeat (ks_step "op2")
          exact ⟨rfl, rfl⟩
        | some y =>
          simp only [dPt]
          repeat (ks_step "op2")
          exact ⟨rfl, rfl⟩
      first | refine qi (filterMap_some) ?_ | refine qs (filterMap_some) ?_ | refine qt (filterMap_some) ?_ | refine qb (filterMap_some) ?_ | refine qm (filterMap_some) ?_ | refine q1 (filterMap_some) ?_ | rw [filterMap_some]
      refine ev_comp K hsc [] subc_nil [] rfl (by decide +kernel) (by decide +kernel) (by kernel_rfl) (by decide +kernel) (by kernel_rfl) (by decide +kernel) ?_
      refine it_lst K ?_
      repeat (ks_step "op2")
      refine ⟨pure_bools _ pure_item _, Item, items, dItem, fun it => some (.bool it.barred.isNone), rfl, by omega, ?_, ?_, ?_⟩
      · intro x _ e h
        cases h; rfl
      · intro c' h1 h2 h3 h4 K' x _ acc
        conv at h3 => rhs; whnf
        refine ⟨_, Upd.nil, by ks_step "sub", ?_⟩
        show EvT _ _ _ _ _
        repeat (ks_step "op2")
        refine op_isnone (isNone_of (isNone_bar _)) ?_
        repeat (ks_step "op2")
        refine ⟨rfl, ?_⟩
        dsimp only
        cases x.barred <;> rfl
      first | refine qi (filterMap_some) ?_ | refine qs (filterMap_some) ?_ | refine qt (filterMap_some) ?_ | refine qb (filterMap_some) ?_ | refine qm (filterMap_some) ?_ | refine q1 (filterMap_some) ?_ | rw [filterMap_some]
      have hst2 : (items.map fun it => D.bool it.barred.isNone) = its.map fun p => D.bool (decide (p.part = none)) := by
        have := congrArg (List.map D.bool) hst
        rw [List.map_map, List.map_map] at this
        exact this
      first | refine qi (hst2) ?_ | refine qs (hst2) ?_ | refine qt (hst2) ?_ | refine qb (hst2) ?_ | refine qm (hst2) ?_ | refine q1 (hst2) ?_ | rw [hst2]
      refine op_ne_self (n := 1) (eqk_bools _) (by have := K.units; omega) ?_
      exact ⟨_, rfl, rfl, rfl⟩
    refine tr_nil ?_
    refine after_next ?_
    refine tr_cons ?_
    refine tr_comp K hsc (by ks_step "kind") [(Str.ofString "items", dItems items)] ?hsub2 [Str.ofString "items"] rfl (by decide +kernel) (by decide +kernel) (by kernel_rfl) (by decide +kernel) (by kernel_rfl) (by decide +kernel) ?_ (by kernel_rfl!)
    case hsub2 => exact subc_cons (by ks_step "has") (by simp only [D.pure]; exact pure_bools _ pure_item _) (by ks_step "kindc") (by kernel_rfl!) subc_nil
    refine it_lst K ?_
    refine ev_binop ?_
    refine ev_list ?_
    repeat (ks_step "op2")
    refine op_list_str K (by rw [S_length]; omega) ?_
    refine op_addl (by rw [List.length_map]; show 1 + name.length ≤ 1000; omega) ?_
    have hsl : ([.str (Str.ofString "")] ++ (S name).cps.toList.map fun ch => D.str (S [ch])) = (sgsOf name).map D.str := by
      show D.str (Str.ofString "") :: (name.map fun ch => D.str (S [ch])) = _
      rw [sgsOf, List.map_cons, List.map_map]; rfl
    first | refine qi (hsl) ?_ | refine qs (hsl) ?_ | refine qt (hsl) ?_ | refine qb (hsl) ?_ | refine qm (hsl) ?_ | refine q1 (hsl) ?_ | rw [hsl]
    refine ⟨_, rfl, pure_bools _ (fun _ => rfl) _, Str, sgsOf name, D.str, fun sg => some (dRows (told items sg)), rfl, by simp [sgsOf]; omega, ?_, ?_, ?_⟩
    · intro x _ e h
      cases h; exact pure_rows _
    · intro c' h1 h2 h3 h4 K' x _ acc
      conv at h3 => rhs; whnf
      refine ⟨_, by ks_step "upd", by ks_step "sub", ?_⟩
      show EvT _ _ _ _ _
      refine ev_fcall nm23 rec23 K' (n := 2) (by omega) (by ks_step "kind") rfl ?_
      repeat (ks_step "op2")
      refine ⟨by simp only [Ds.pure, D.pure, pure_bools dItem pure_item, Bool.and_self], (told_con items x hl).mono fun e he => ?_⟩
      subst he
      exact ⟨pure_rows _, rfl, rfl⟩
    first | refine qi (filterMap_some) ?_ | refine qs (filterMap_some) ?_ | refine qt (filterMap_some) ?_ | refine qb (filterMap_some) ?_ | refine qm (filterMap_some) ?_ | refine q1 (filterMap_some) ?_ | rw [filterMap_some]
    refine ⟨_, by ks_step "upd", ?_⟩
    refine after_next ?_
    have hct : ((sgsOf name).map fun sg => dRows (told items sg)) = ((sgsOf name).map (told items)).map dRows := by rw [List.map_map]; rfl
    first | refine qi (hct) ?_ | refine qs (hct) ?_ | refine qt (hct) ?_ | refine qb (hct) ?_ | refine qm (hct) ?_ | refine q1 (hct) ?_ | rw [hct]
    have hrt : ∀ r ∈ (sgsOf name).map (told items), Rows items.length r := fun r hr => by
      obtain ⟨sg, _, rfl⟩ := List.mem_map.mp hr
      exact rows_told sg hl
    have hsn : (sgsOf name).length ≤ 7 := by simp [sgsOf]; omega
    have hfd : foldedR items name = (((name.map fun ch => S [ch]).map (told items)).foldl thenR (told items (Str.ofString ""))) := rfl
    have hcs : (sgsOf name).map (told items) = told items (Str.ofString "") :: (name.map fun ch => S [ch]).map (told items) := rfl
    have hpt : Ds.pure (((sgsOf name).map (told items)).map dRows) = true := pure_bools _ pure_rows _
    have hRf : Rows items.length (found its items (S name)) := rows_found _ hl
    obtain ⟨ts, hts⟩ : ∃ ts, ts = (sgsOf name).map (told items) := ⟨_, rfl⟩
    have htl : ts.length ≤ 7 := by rw [hts, List.length_map]; exact hsn
    rw [← hts] at hrt hpt hcs ⊢
    refine tr_step (σ' := rtS a numbers items name its ++ [(Str.ofString "told", .lst (ts.map dRows)), (Str.ofString "copied", .lst (ts.map dRows))]) (μ₂ := [.tab T ps']) ?_ ?_
    · refine tr_comp K hsc (by ks_step "kind") [] subc_nil [] rfl (by decide +kernel) (by decide +kernel) (by kernel_rfl) (by decide +kernel) (by kernel_rfl) (by decide +kernel) ?_ (by kernel_rfl!)
      refine it_lst K ?_
      repeat (ks_step "op2")
      refine ⟨hpt, List (List Nat), ts, dRows, fun r => some (dRows r), rfl, by omega, ?_, ?_, ?_⟩
      · intro x _ e h
        cases h; exact pure_rows _
      · intro c' h1 h2 h3 h4 K' x hx acc
        conv at h3 => rhs; whnf
        have hxr := hrt x hx
        refine ⟨_, Upd.nil, by ks_step "sub", ?_⟩
        show EvT _ _ _ _ _
        refine ev_comp K' h3 [] subc_nil [] rfl (by decide +kernel) (by decide +kernel) (by kernel_rfl) (by decide +kernel) (by kernel_rfl) (by decide +kernel) ?_
        refine it_lst K' ?_
        repeat (ks_step "op2")
        refine ⟨pure_bools _ pure_row _, List Nat, x, dRow, fun r => some (dRow r), rfl, by rw [hxr.1]; omega, ?_, ?_, ?_⟩
        · intro y _ e h
          cases h; exact pure_row _
        · intro c2 g1 g2 g3 g4 K2 y hy acc2
          conv at g3 => rhs; whnf
          refine ⟨_, Upd.nil, by ks_step "sub", ?_⟩
          show EvT _ _ _ _ _
          repeat (ks_step "op2")
          refine op_list_copy (by rw [List.length_map]; have := can_len (hxr.2 y hy).1; omega) ?_
          exact ⟨rfl, rfl⟩
        first | refine qi (filterMap_some) ?_ | refine qs (filterMap_some) ?_ | refine qt (filterMap_some) ?_ | refine qb (filterMap_some) ?_ | refine qm (filterMap_some) ?_ | refine q1 (filterMap_some) ?_ | rw [filterMap_some]
        exact ⟨rfl, rfl⟩
      first | refine qi (filterMap_some) ?_ | refine qs (filterMap_some) ?_ | refine qt (filterMap_some) ?_ | refine qb (filterMap_some) ?_ | refine qm (filterMap_some) ?_ | refine q1 (filterMap_some) ?_ | rw [filterMap_some]
      refine ⟨_, by ks_step "upd", ?_⟩
      exact ⟨rfl, rfl, rfl⟩
    simp only [rtS, List.cons_append, List.nil_append]
    refine tr_step (σ' := rtS a numbers items name its ++ [(Str.ofString "told", .lst (ts.map dRows)), (Str.ofString "copied", .lst (ts.map dRows)), (Str.ofString "folded", dRows (foldedR items name))]) (μ₂ := [.tab T ps']) ?_ ?_
    · ks_step "op2"
      obtain ⟨fa, hfa, hF⟩ := K.base.fn _ (List.mem_of_getElem? rec25)
      refine ev_rcall (n := 5) K (by omega) (by ks_step "kind") rfl fun im him => ?_
      refine evs_c rfl ?_
      refine ev_global K (by ks_step "kind") (nm25 ▸ hfa) ?_
      repeat (ks_step "op2")
      have hcon := reduce_con2 (prog := c.prog) (w := c.w) (mg := mg) (mb := mb) (n := 4) him hfa rec25 dRows thenR (Rows items.length) pure_rows (told items (Str.ofString "")) ((name.map fun ch => S [ch]).map (told items)) (by rw [← hcs]; omega)
        (fun x hx y hy => by
          have hy' : Rows items.length y := hrt y (hcs ▸ hy)
          exact ⟨then_con x y (by rw [hx.1]; omega) (by rw [hy'.1]; omega) (fun r hr => ⟨can_len (hx.2 r hr).1, fun j hj => by rw [hy'.1]; have := (hx.2 r hr).2 j hj; omega⟩) (fun r hr => (hy'.2 r hr).1), rows_then hx hy'⟩) (rows_told _ hl)
      rw [← hcs, ← hfd] at hcon
      refine ⟨by simp only [Ds.pure, D.pure, hpt, Bool.and_self], fun A s a vs P B F M hg hd hu hh hfr hp hr => codeAny_mono (hcon A s a vs P B F M hg hd hu hh hfr hp hr) fun r s' ⟨v, e, P', b1, b2, b3, b4, b5, b6, b7, b8, b9⟩ => ⟨v, e, P', b1, b2, b3, b4, b5, b6, b7, b8, ?_⟩⟩
      subst b9
      refine ⟨pure_rows _, _, by ks_step "upd", ?_⟩
      exact ⟨rfl, rfl, rfl⟩
    simp only [rtS, List.cons_append, List.nil_append]
    refine tr_step (σ' := rtS a numbers items name its ++ [(Str.ofString "told", .lst (ts.map dRows)), (Str.ofString "copied", .lst (ts.map dRows)), (Str.ofString "folded", dRows (foldedR items name)), (Str.ofString "found", dRows (foldedR items name))]) (μ₂ := [.tab T ps']) ?_ ?_
    · ks_step "op2"
      refine ev_fcall nm26 rec26 K (n := 3) (by omega) (by ks_step "kind") rfl ?_
      repeat (ks_step "op2")
      refine ⟨by simp only [Ds.pure, D.pure, pure_bools dItem pure_item, pure_bools (fun p : Pt => dPt a p.part) (pure_pt a), Bool.and_self], (found_con a its items (S name) hok hss hl hil (by rw [S_length]; omega)).mono fun e he => ?_⟩
      rw [hplain] at he
      subst he
      refine ⟨pure_rows _, _, by ks_step "upd", ?_⟩
      exact ⟨rfl, rfl, rfl⟩
    simp only [rtS, List.cons_append, List.nil_append]
    refine tr_cons ?_
    refine tr_ret ?_
    have hk2 : ∀ r : List (List Nat), D.eqk 2 (dRows r) = true := eqk_rows
    repeat (ks_step "op2")
    refine op_eq_self (hk2 _) (by have := K.units; omega) ?_
    repeat (ks_step "op2")
    refine ite_t rfl ?_
    repeat (ks_step "op2")
    refine op_eq_self (eqk_told _) (by have := K.units; omega) ?_
    repeat (ks_step "op2")
    refine ite_t rfl ?_
    refine bo_one ?_
    refine ev_compare ?_ (by with_unfolding_all rfl)
    refine ev_name (d := .lst [.str (Str.ofString "*")]) KW (by simp) ?_
    refine ev_list ?_
    repeat (ks_step "op2")
    refine op_eq_self (n := 1) rfl (by have := K.units; omega) ?_
    exact ⟨rfl, ps', rfl, htr'⟩
theorem right_con {prog : Program} {w : World} {mg mb : Str → Option Value} {T : Addr}
    (numbers : List Nat) (hnl : numbers.length ≤ 5) (items : List Item) (name : List Nat) (its : List Pt) (hb : built numbers = (items, S name)) (hok : ∀ p ∈ its, OkPt p) (hss : NoSS its) (hl : items.length ≤ 10) (hil : its.length = items.length)
    (hn : name.length ≤ 6) (htx : items.map (·.txt) = its.map fun p => S p.pat) (hst : items.map (fun it => it.barred.isNone) = its.map fun p => decide (p.part = none)) (hplain : found its items (S name) = foldedR items name) :
    ConT prog w mg mb 6 T (defAt 27) [dNums numbers] (fun e => e = .bool true) :=
  con_introT (xs := [Str.ofString "numbers"]) (by intro pm code doc vs h; obtain ⟨v1, rfl⟩ := len1 h; kernel_rfl) rfl (by decide +kernel) (by decide +kernel) (by decide +kernel) (by decide +kernel) (by kernel_rfl) (by kernel_rfl) (by kernel_rfl)
    fun c ad ps o pm code doc h1 h2 h3 h4 h5 K htr ht hma ho hdat hcode => (right_walk K h4 h5 h3 ht htr numbers hnl items name its hb hok hss hl hil hn htx hst hplain).mono fun fl σ' μ' ⟨hf, ps', hm0, hps⟩ => ⟨_, _, ps', .inl hf, hm0, hps, .pure rfl, rfl⟩
end -- QRight

section -- QLaw0
theorem right_con' {prog : Program} {w : World} {mg mb : Str → Option Value} {T : Addr} (numbers : List Nat) (hnl : numbers.length ≤ 5) :
    ConT prog w mg mb 6 T (defAt 27) [dNums numbers] (fun e => e = .bool true) := by
  obtain ⟨its, name, hb, hok, hss, hil, hn⟩ := built_good numbers
  refine right_con numbers hnl (its.map toItem) name its hb hok hss (by rw [List.length_map]; omega) (by simp) hn ?_ ?_ (plain_law its (by omega) name)
  · rw [List.map_map]; rfl
  · rw [List.map_map]
    refine List.map_congr_left fun p _ => ?_
    rw [part_isStar]
    show (if p.isStar = true then (none : Option Bool) else some p.bar).isNone = p.isStar
    cases p.isStar <;> rfl
end -- QLaw0

section -- QLaw
noncomputable def numsOf (l : List Int) : List Nat := ((l.take 5).map fun i : Int => (i.fmod 100000000).toNat) ++ [3, 7, 0, 377].drop (l.take 5).length
theorem nums_len (l : List Int) : (numsOf l).length ≤ 5 := by
  unfold numsOf
  simp only [List.length_append, List.length_map, List.length_drop, List.length_cons, List.length_nil, List.length_take]
  omega
theorem pure_ints' (l : List Int) : Ds.pure (l.map D.int) = true := pure_bools _ (fun _ => rfl) _
theorem law_walk {c : Cx} {mg mb : Str → Option Value} (K : c.Ok mg mb) (hcn : c.n = 6) (hro : c.ro = false) (hsc : c.env.scope = (defAt 28).scope) {T : Addr} {ps : Array Value} (ht : TraAt mg c.h₀ T) (htr : TriplesOk ps.toList)
    (l : List Int) (hl : l.length ≤ 100) :
    TrT c [(Str.ofString "script", .lst (l.map D.int))] [.tab T ps] (execs (defAt 28).body c.env) (fun fl _ μ => fl = .ret (.bool true) ∧ ∃ ps', μ[0]? = some (.tab T ps') ∧ TriplesOk ps'.toList) := by
  conv at hsc => rhs; whnf
  have KW : c.OkW mg mb := K.toOkW
  refine tr_cons ?_
  refine tr_comp K hsc (by ks_step "kind") [] subc_nil [] rfl (by decide +kernel) (by decide +kernel) (by kernel_rfl) (by decide +kernel) (by kernel_rfl) (by decide +kernel) ?_ (by kernel_rfl!)
  refine it_lst K ?_
  repeat (ks_step "op2")
  refine sl_lst (by rw [List.length_map]; omega) ?_
  have hcut : ((l.map D.int).drop (loC (l.map D.int).length none)).take (hiC (l.map D.int).length (some 5) - loC (l.map D.int).length none) = (l.take 5).map D.int := by
    show ((l.map D.int).drop 0).take (clipAt (l.map D.int).length ((5 : Nat) : Int) - 0) = _
    rw [clipAt_nat, List.drop_zero, List.length_map, Nat.sub_zero, List.map_take]
    by_cases h5 : 5 ≤ l.length
    · rw [Nat.min_eq_left h5]
    · rw [Nat.min_eq_right (by omega), List.take_of_length_le (by simp), List.take_of_length_le (by simp; omega)]
  first | refine qi (hcut) ?_ | refine qs (hcut) ?_ | refine qt (hcut) ?_ | refine qb (hcut) ?_ | refine qm (hcut) ?_ | refine q1 (hcut) ?_ | rw [hcut]
  refine ⟨_, rfl, pure_ints' _, Int, l.take 5, D.int, fun i => some (.int (((i.fmod 100000000).toNat : Nat) : Int)), rfl, by simp; omega, ?_, ?_, ?_⟩
  · intro x _ e h
    cases h; rfl
  · intro c' h1 h2 h3 h4 K' x _ acc
    conv at h3 => rhs; whnf
    refine ⟨_, Upd.nil, by ks_step "sub", ?_⟩
    show EvT _ _ _ _ _
    repeat (ks_step "op2")
    refine op_pow8 ?_
    repeat (ks_step "op2")
    refine op_mod (by decide) ?_
    refine ⟨rfl, ?_⟩
    have : 0 ≤ x.fmod 100000000 := Int.fmod_nonneg_of_pos x (by decide)
    dsimp only
    first | refine qi (Int.toNat_of_nonneg this) ?_ | refine qs (Int.toNat_of_nonneg this) ?_ | refine qt (Int.toNat_of_nonneg this) ?_ | refine qb (Int.toNat_of_nonneg this) ?_ | refine qm (Int.toNat_of_nonneg this) ?_ | refine q1 (Int.toNat_of_nonneg this) ?_ | rw [Int.toNat_of_nonneg this]
  first | refine qi (filterMap_some) ?_ | refine qs (filterMap_some) ?_ | refine qt (filterMap_some) ?_ | refine qb (filterMap_some) ?_ | refine qm (filterMap_some) ?_ | refine q1 (filterMap_some) ?_ | rw [filterMap_some]
  refine ⟨_, by ks_step "upd", ?_⟩
  refine after_next ?_
  have hdr : ((l.take 5).map fun i : Int => D.int (((i.fmod 100000000).toNat : Nat) : Int)) = ((l.take 5).map fun i : Int => (i.fmod 100000000).toNat).map fun n : Nat => D.int (n : Int) := by rw [List.map_map]; rfl
  first | refine qi (hdr) ?_ | refine qs (hdr) ?_ | refine qt (hdr) ?_ | refine qb (hdr) ?_ | refine qm (hdr) ?_ | refine q1 (hdr) ?_ | rw [hdr]
  obtain ⟨dr, hd⟩ : ∃ dr, dr = (l.take 5).map fun i : Int => (i.fmod 100000000).toNat := ⟨_, rfl⟩
  have hdl : dr.length = (l.take 5).length := by rw [hd, List.length_map]
  have hdl5 : dr.length ≤ 5 := by rw [hdl]; simp; omega
  have hno : numsOf l = dr ++ [3, 7, 0, 377].drop dr.length := by rw [numsOf, hdl, hd]
  rw [← hd]
  refine tr_step (σ' := [(Str.ofString "script", .lst (l.map D.int)), (Str.ofString "drawn", dNums dr), (Str.ofString "numbers", dNums (numsOf l))]) (μ₂ := [.tab T ps]) ?_ ?_
  · ks_step "op2"
    refine ev_binop ?_
    repeat (ks_step "op2")
    refine ev_list ?_
    repeat (ks_step "op2")
    refine op_len_lst (by rw [List.length_map]; omega) ?_
    rw [List.length_map]
    repeat (ks_step "op2")
    refine sl_lst (by simp) ?_
    have hc2 : (([D.int 3, .int 7, .int 0, .int 377] : List D).drop (loC ([D.int 3, .int 7, .int 0, .int 377] : List D).length (some (dr.length : Int)))).take (hiC ([D.int 3, .int 7, .int 0, .int 377] : List D).length none - loC ([D.int 3, .int 7, .int 0, .int 377] : List D).length (some (dr.length : Int))) = (([3, 7, 0, 377] : List Nat).drop dr.length).map fun n : Nat => D.int (n : Int) := by
      show (([D.int 3, .int 7, .int 0, .int 377] : List D).drop (clipAt 4 ((dr.length : Nat) : Int))).take (4 - clipAt 4 ((dr.length : Nat) : Int)) = _
      first | refine qi (clipAt_nat) ?_ | refine qs (clipAt_nat) ?_ | refine qt (clipAt_nat) ?_ | refine qb (clipAt_nat) ?_ | refine qm (clipAt_nat) ?_ | refine q1 (clipAt_nat) ?_ | rw [clipAt_nat]
      generalize dr.length = n at hdl5
      have : n = 0 ∨ n = 1 ∨ n = 2 ∨ n = 3 ∨ n = 4 ∨ n = 5 := by omega
      rcases this with rfl | rfl | rfl | rfl | rfl | rfl <;> rfl
    first | refine qi (hc2) ?_ | refine qs (hc2) ?_ | refine qt (hc2) ?_ | refine qb (hc2) ?_ | refine qm (hc2) ?_ | refine q1 (hc2) ?_ | rw [hc2]
    repeat (ks_step "op2")
    refine op_addl (by rw [List.length_map, List.length_map, List.length_drop]; simp; omega) ?_
    rw [← List.map_append, ← hno]
    repeat (ks_step "op2")
    exact ⟨rfl, rfl, rfl⟩
  refine tr_cons ?_
  refine tr_ret ?_
  refine ev_tabcall nm27 rec27 K ht (n := 6) (by omega) (by ks_step "kind") rfl ?_
  repeat (ks_step "op2")
  refine ⟨by simp only [Ds.pure, D.pure, pure_bools (fun n : Nat => D.int (n : Int)) (fun _ => rfl), Bool.and_self], ps, rfl, htr, (right_con' (numsOf l) (nums_len l)).mono fun e he => ?_⟩
  subst he
  exact ⟨rfl, fun ps' h' => ⟨rfl, ps', rfl, h'⟩⟩
theorem law_con {prog : Program} {w : World} {mg mb : Str → Option Value} {T : Addr} (l : List Int) (hl : l.length ≤ 100) :
    ConT prog w mg mb 7 T (defAt 28) [.lst (l.map D.int)] (fun e => e = .bool true) :=
  con_introT (xs := [Str.ofString "script"]) (by intro pm code doc vs h; obtain ⟨v1, rfl⟩ := len1 h; kernel_rfl) rfl (by decide +kernel) (by decide +kernel) (by decide +kernel) (by decide +kernel) (by kernel_rfl) (by kernel_rfl) (by kernel_rfl)
    fun c ad ps o pm code doc h1 h2 h3 h4 h5 K htr ht hma ho hdat hcode => (law_walk K h4 h5 h3 ht htr l hl).mono fun fl σ' μ' ⟨hf, ps', hm0, hps⟩ => ⟨_, _, ps', .inl hf, hm0, hps, .pure rfl, rfl⟩
end -- QLaw

section -- QHead0
/-! ### what the run's top leaves -/
noncomputable def atK (pr : Params) (a : Addr) : Obj := ((KH pr).lookup a).getD mapObj
noncomputable def fnOf (o : Obj) : Value × Value × Value := match o.data with
  | .func fd => (fd.pyModule, fd.code, fd.doc)
  | _ => (.none, .none, .none)
noncomputable def fieldsOf (o : Obj) : Array Value := match o.data with
  | .fields vs => vs
  | _ => #[]
noncomputable def seqN (o : Obj) : Nat := match o.data with
  | .seq _ n => n
  | _ => 0
noncomputable def tok1 (vs : Array Value) : Tok := match (vs[1]? : Option Value) with
  | some (Value.str _ t) => t
  | _ => 0
section
variable {h : Heap} {mg mb : Str → Option Value} {pr : Params}
theorem head_map (X : (KH pr).In h) : h.get? 47 = some mapObj := X 47 _ (by kernel_rfl)
theorem head_pat (X : (KH pr).In h) : h.get? 45 = some (patObj 44) ∧ h.get? 44 = some codeObj := ⟨X 45 _ (by kernel_rfl), X 44 _ (by kernel_rfl)⟩
theorem head_tra (X : (KH pr).In h) (G : h.Ns mainGlobals mg) (hC : CodeHd h 63 59) : TraAt mg h 59 :=
  ⟨64, 63, atK pr 64, (fnOf (atK pr 64)).1, (fnOf (atK pr 64)).2.2, mg_of X G (by kernel_rfl), X 64 _ (by kernel_rfl), by kernel_rfl, hC⟩
theorem head_miss (X : (KH pr).In h) : IsMiss 32 h := ⟨atK pr 32, X 32 _ (by kernel_rfl), by kernel_rfl⟩
theorem head_red (X : (KH pr).In h) : IsRed 32 h 40 (defAt 3) := by
  refine ⟨atK pr 40, (fnOf (atK pr 40)).1, (fnOf (atK pr 40)).2.1, (fnOf (atK pr 40)).2.2, 33, atK pr 33, seqN (atK pr 33), X 40 _ (by kernel_rfl), by kernel_rfl, ?_, X 33 _ (by kernel_rfl), by kernel_rfl⟩
  exact ⟨39, atK pr 39, fieldsOf (atK pr 39), tok1 (fieldsOf (atK pr 39)), by kernel_rfl, X 39 _ (by kernel_rfl), by kernel_rfl, by kernel_rfl⟩
theorem head_recs : recsOf PySem.Challenge.pw_in0050_01 = recsOf vw := by kernel_rfl
theorem head_no59 : (KH pr).lookup 59 = none := by kernel_rfl
theorem gone_keep {h₁ : Heap} (h59 : h₁.get? 59 = some (tabObj #[])) {b : Addr} {o : Obj} (e : h₁.get? b = some o) (hn : o ≠ tabObj #[]) : (gone h₁ [59]).get? b = some o := by
  have hb : b ≠ 59 := fun q => by rw [q, h59] at e; exact hn (Option.some.inj e).symm
  exact (gone_other (by simpa using hb)).trans e
theorem ns_gone {h₁ : Heap} (h59 : h₁.get? 59 = some (tabObj #[])) {L : Addr} {m : Str → Option Value} (x : h₁.Ns L m) : (gone h₁ [59]).Ns L m := by
  obtain ⟨o, es, ep, e, d, r⟩ := x
  exact ⟨o, es, ep, gone_keep h59 e (fun q => by rw [q] at d; cases d), d, r⟩
theorem code_gone {h₁ : Heap} (h59 : h₁.get? 59 = some (tabObj #[])) {cd : Value} {q : Str} (x : h₁.CodeRec cd q) : (gone h₁ [59]).CodeRec cd q :=
  let ⟨c, o, vs, t, e, g, d, r⟩ := x
  ⟨c, o, vs, t, e, gone_keep h59 g (fun q => by rw [q] at d; cases d; simp at r), d, r⟩
theorem head_base {l1 : List Str} {m1 : ExcName → Option Value} {h₁ : Heap} (X₁ : (KH pr).In h₁) (T : Top vw l1 m1 mg mb h₁)
    (h59 : h₁.get? 59 = some (tabObj #[])) (hC : CodeHd h₁ 63 59) : Base mg mb (gone h₁ [59]) ∧ TraAt mg (gone h₁ [59]) 59 := by
  have X : (KH pr).In (gone h₁ [59]) := fun a o e => by
    have ha : a ≠ 59 := fun q => by rw [q, head_no59] at e; cases e
    exact (gone_other (by simpa using ha)).trans (X₁ a o e)
  have G := ns_gone h59 T.g
  have hC' : CodeHd (gone h₁ [59]) 63 59 := by
    obtain ⟨oc, vs, file, tf, fl, tg, inF, tx, tt, q1, q2⟩ := hC
    exact ⟨oc, vs, file, tf, fl, tg, inF, tx, tt, (gone_other (by decide)).trans q1, q2⟩
  have hTra := head_tra X G hC'
  refine ⟨?_, hTra⟩
  exact {
    g := G
    b := ns_gone h59 T.b
    lim := let ⟨mc, p, q⟩ := T.nolimit; ⟨mc, ns_gone h59 p, q⟩
    fn := fun d hd' => by
      rw [head_recs] at hd'
      obtain ⟨a, o, pm, code, doc, h1, h2, h3, h4⟩ := T.fn d hd'
      exact ⟨a, h1, o, pm, code, doc, gone_keep h59 h2 (fun q => by rw [q] at h3; cases h3), h3, code_gone h59 h4⟩
    blt := fun x hx => by
      refine ⟨?_, T.builtins x (fun e => by subst e; revert hx; decide +kernel)⟩
      simp only [bltNames, List.mem_cons, List.not_mem_nil, or_false] at hx
      rcases hx with rfl | rfl | rfl | rfl | rfl | rfl | rfl | rfl | rfl | rfl | rfl | rfl <;> exact mg_none_of X G (by kernel_rfl)
    red := ⟨40, 32, mg_of X G (by kernel_rfl), mg_of X G (by kernel_rfl), head_red X, head_miss X⟩
    map := ⟨47, mg_of X G (by kernel_rfl), by decide, head_map X⟩
    pat := ⟨45, 44, mg_of X G (by kernel_rfl), head_pat X⟩
    bmod := by
      obtain ⟨bm, ob, h1, h2, h3, h4, h5, h6⟩ := T.bmain
      refine ⟨bm, ob, h1, h2, fun e => ?_, gone_keep h59 h3 (fun q => by rw [q] at h4; cases h4), h4, h5, h6⟩
      obtain ⟨o, es, ep, e1, d, _⟩ := T.g
      rw [← e, h3] at e1; cases e1
      rw [h6] at d; cases d
    tra := by
      obtain ⟨a, cc, o, pm, doc, h1, h2, h3, h4⟩ := hTra
      exact ⟨a, cc, 59, o, pm, doc, h1, h2, h3, h4⟩ }
end
end -- QHead0

section -- QHead1
theorem rs_ints {P : Facts} : ∀ {vs : List Value} {ns : List Int}, IntsAre vs ns → Rs P [] vs (ns.map D.int)
  | _, _, .nil => .nil
  | _, _, .cons n t r => .cons (.int n t) (rs_ints r)
theorem law_end {w : World} {s₀ s₁ : Shared} {mg mb : Str → Option Value} {fa la : Addr} {l1 : List Str} {m1 : ExcName → Option Value} {vs : List Value} {scr : List Int}
    (KX : (KH w.params).In s₁.heap) (h59 : s₁.heap.get? 59 = some (tabObj #[])) (T : Top vw l1 m1 mg mb s₁.heap) (hmg : mg (defAt 28).name = some (.ref fa)) (hg : s₁.gens = #[])
    (hL : s₁.heap.IsList la vs.toArray) (hI : IntsAre vs scr) (hlen : scr.length ≤ 63) :
    wpAny (model PySem.Challenge.rw_in0050_01.row.prog w) callerA (call (.ref fa) [.ref la])
      (fun v s' => GoodWG PySem.Challenge.rw_in0050_01.row.claim (classAt s₀.heap) (ExcName.means s₀.heap) [ofPy (PyData.list (List.map PyData.int scr))] s₁ (Except.ok (Flow.ret v)) s')
      (fun e s' => GoodWG PySem.Challenge.rw_in0050_01.row.claim (classAt s₀.heap) (ExcName.means s₀.heap) [ofPy (PyData.list (List.map PyData.int scr))] s₁ (Except.error e) s') s₁ := by
  have hC : CodeHd s₁.heap 63 59 := codeHd_of_K KX (by kernel_rfl)
  obtain ⟨hB, hTra⟩ := head_base KX T h59 hC
  obtain ⟨a, hma, hF⟩ := hB.fn (defAt 28) (List.mem_of_getElem? (i := 18) (by kernel_rfl))
  rw [hmg] at hma; cases hma
  obtain ⟨lo, hlo, hlc, ln, hld⟩ := hL
  have hgl : (gone s₁.heap [59]).get? la = some lo := gone_keep h59 hlo (fun q => by rw [q] at hld; cases hld)
  refine wpAny_call ?_
  refine codeAny_mono (law_con (T := 59) (prog := PySem.Challenge.rw_in0050_01.row.prog) (w := w) (mg := mg) (mb := mb) scr (by omega) callerA s₁ fa [.ref la] (fun b o => b = la ∧ o = lo) #[] hB hTra hmg hF
    (.of_eq hg) (by decide) (by decide) rfl ⟨[], rfl, fun env he => (by cases he)⟩ h59 trivial (fun b o ⟨e1, e2⟩ => by rw [e1, e2]; exact hgl) (.cons (.lst ⟨rfl, rfl⟩ hlc hld (rs_ints hI)) .nil)) fun r s' ⟨v, e, P', ps', q1, q2, q3, q4, q5, q6, q7, q8, q9, q10, q11⟩ => ?_
  subst q1 q11
  cases q10
  have keep : ∀ b o, b ≠ 59 → s₁.heap.get? b = some o → s'.heap.get? b = some o := fun b o hb e => by
    have := q2.out ((gone_other (l := [59]) (by simpa using hb)).trans e) (fun h => by cases h)
    exact (gone_some this).2
  refine ⟨.inl ⟨.bool true, .bool true, [], rfl, fun _ => rfl, .bool _, ?_, fun _ => ⟨List.nodup_nil, fun a h => by cases h⟩⟩, ⟨fun b o e => ?_, fun b o e => ?_⟩, q6, q5⟩
  · first | rfl | kernel_rfl
  · by_cases hb : b = 59
    · subst hb
      rw [h59] at e; cases e
      exact .inr (.inl ⟨(hC.tab h59).isCodeTable, rfl, #[], ps', rfl, by rw [Array.empty_append]; exact q3⟩)
    · exact .inl (keep b o hb e)
  · by_cases hb : b = 59
    · subst hb; exact ⟨_, q3⟩
    · exact ⟨o, keep b o hb e⟩
theorem law_holds : PySem.Challenge.rw_in0050_01.Holds := head (by
  intro w s₀ s₁ mg mb G Y fa o pm cd doc dV kV ho hdt hcd hD hmg hg args vals as hpre hlay hrd hwl hlo
  have KX := km_in_of Y
  have hT8 := km_tabs_of Y
  refine Ground.open G ?_
  intro T B D TE TW
  try (refine guard_noD D (by decide +kernel) ?_; clear D)
  clear G Y B TE TW hD
  wrow_args hpre hlay hrd hwl hlo
  exact law_end KX (hT8 59 (List.mem_cons_self ..)) T hmg hg (by assumption) (by assumption) (by omega))
end -- QHead1
end Q50
theorem PySem.Challenge.cw_in0050_01_holds : PySem.Challenge.rw_in0050_01.Holds := by
  exact Q50.law_holds
