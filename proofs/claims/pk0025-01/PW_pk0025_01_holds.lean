import PyProof.Rows.All
import Wide.All
import OpenK.AllK
import Wide.FinOn
import Lean
import PySem.Challenge.RW_pk0025_01
open PySem PySem.W PyProof.Rows
set_option Elab.async false
set_option maxRecDepth 100000
set_option linter.unusedVariables false
namespace Mine

/-- plain data -/
inductive D where
  | none
  | bool (b : Bool)
  | int (i : Int)
  | str (x : PySem.Str)
  | bytes (b : Array UInt8)
  | tup (xs : List D)
  | lst (xs : List D)
  | rng (a b c : Int)

abbrev Kept (h h' : Heap) : Prop := ∀ b o, h.get? b = some o → h'.get? b = some o

/-- the value v bears the datum d in the heap h; no object of it lies in Z (the places that may still change) -/
inductive Rep (Z : Addr → Prop) (h : Heap) : Value → D → Prop where
  | none : Rep Z h .none .none
  | bool (b : Bool) : Rep Z h (.bool b) (.bool b)
  | int (i : Int) (t : Tok) : Rep Z h (.int i t) (.int i)
  | str (x : PySem.Str) (t : Tok) : Rep Z h (.str x t) (.str x)
  | bytes (b : Array UInt8) (t : Tok) : Rep Z h (.bytes b t) (.bytes b)
  | tup {a : Addr} {vs : List Value} {n : Nat} {ds : List D} (hz : ¬ Z a) (ho : h.get? a = some { cls := .type "tuple", data := .seq vs.toArray n }) (hl : vs.length = ds.length)
      (hi : ∀ (i : Nat) (v : Value) (d : D), vs[i]? = some v → ds[i]? = some d → Rep Z h v d) : Rep Z h (.ref a) (.tup ds)
  | lst {a : Addr} {vs : List Value} {n : Nat} {ds : List D} (hz : ¬ Z a) (ho : h.get? a = some { cls := .type "list", data := .seq vs.toArray n }) (hl : vs.length = ds.length)
      (hi : ∀ (i : Nat) (v : Value) (d : D), vs[i]? = some v → ds[i]? = some d → Rep Z h v d) : Rep Z h (.ref a) (.lst ds)
  | rng {a : Addr} {x y c : Int} {t u v : Tok} (hz : ¬ Z a) (ho : IsRange h a x y c t u v) : Rep Z h (.ref a) (.rng x y c)

def RepAll (Z : Addr → Prop) (h : Heap) (vs : List Value) (ds : List D) : Prop :=
  vs.length = ds.length ∧ ∀ (i : Nat) (v : Value) (d : D), vs[i]? = some v → ds[i]? = some d → Rep Z h v d

theorem Rep.mono {Z Z' : Addr → Prop} {h h' : Heap} (hk : ∀ b o, ¬ Z b → h.get? b = some o → ¬ Z' b ∧ h'.get? b = some o) {v : Value} {d : D} (r : Rep Z h v d) : Rep Z' h' v d := by
  induction r with
  | none => exact .none
  | bool b => exact .bool b
  | int i t => exact .int i t
  | str x t => exact .str x t
  | bytes b t => exact .bytes b t
  | tup hz ho hl _ ih => exact .tup (hk _ _ hz ho).1 (hk _ _ hz ho).2 hl ih
  | lst hz ho hl _ ih => exact .lst (hk _ _ hz ho).1 (hk _ _ hz ho).2 hl ih
  | rng hz ho => exact .rng (hk _ _ hz ho).1 (hk _ _ hz ho).2

theorem Rep.kept {Z : Addr → Prop} {h h' : Heap} (hk : Kept h h') {v : Value} {d : D} (r : Rep Z h v d) : Rep Z h' v d :=
  r.mono fun b o hz e => ⟨hz, hk b o e⟩
theorem RepAll.mono {Z Z' : Addr → Prop} {h h' : Heap} (hk : ∀ b o, ¬ Z b → h.get? b = some o → ¬ Z' b ∧ h'.get? b = some o) {vs : List Value} {ds : List D} (r : RepAll Z h vs ds) : RepAll Z' h' vs ds :=
  ⟨r.1, fun i v d hv hd => (r.2 i v d hv hd).mono hk⟩
theorem RepAll.kept {Z : Addr → Prop} {h h' : Heap} (hk : Kept h h') {vs : List Value} {ds : List D} (r : RepAll Z h vs ds) : RepAll Z h' vs ds :=
  r.mono fun b o hz e => ⟨hz, hk b o e⟩
theorem RepAll.nil {Z : Addr → Prop} {h : Heap} : RepAll Z h [] [] := ⟨rfl, fun i v d hv _ => by simp at hv⟩
theorem RepAll.cons {Z : Addr → Prop} {h : Heap} {v : Value} {d : D} {vs : List Value} {ds : List D} (r : Rep Z h v d) (rs : RepAll Z h vs ds) : RepAll Z h (v :: vs) (d :: ds) :=
  ⟨by simp [rs.1], fun i v' d' hv hd => by
    cases i with
    | zero => simp at hv hd; subst hv; subst hd; exact r
    | succ i => simp at hv hd; exact rs.2 i v' d' hv hd⟩
theorem RepAll.head {Z : Addr → Prop} {h : Heap} {v : Value} {d : D} {vs : List Value} {ds : List D} (r : RepAll Z h (v :: vs) (d :: ds)) : Rep Z h v d := r.2 0 v d rfl rfl
theorem RepAll.tail {Z : Addr → Prop} {h : Heap} {v : Value} {d : D} {vs : List Value} {ds : List D} (r : RepAll Z h (v :: vs) (d :: ds)) : RepAll Z h vs ds :=
  ⟨by simpa using r.1, fun i v' d' hv hd => r.2 (i + 1) v' d' (by simpa using hv) (by simpa using hd)⟩
theorem RepAll.append {Z : Addr → Prop} {h : Heap} {vs vs' : List Value} {ds ds' : List D} (r : RepAll Z h vs ds) (r' : RepAll Z h vs' ds') : RepAll Z h (vs ++ vs') (ds ++ ds') := by
  refine ⟨by simp [r.1, r'.1], fun i v d hv hd => ?_⟩
  by_cases hi : i < vs.length
  · rw [List.getElem?_append_left hi] at hv
    rw [List.getElem?_append_left (by rw [← r.1]; exact hi)] at hd
    exact r.2 i v d hv hd
  · rw [List.getElem?_append_right (by omega)] at hv
    rw [List.getElem?_append_right (by rw [← r.1]; omega), ← r.1] at hd
    exact r'.2 _ v d hv hd
theorem RepAll.at {Z : Addr → Prop} {h : Heap} {vs : List Value} {ds : List D} (r : RepAll Z h vs ds) {i : Nat} {d : D} (hd : ds[i]? = some d) : ∃ v, vs[i]? = some v ∧ Rep Z h v d := by
  have hlt : i < vs.length := by rw [r.1]; exact (List.getElem?_eq_some_iff.mp hd).1
  exact ⟨vs[i], List.getElem?_eq_getElem hlt, r.2 i _ d (List.getElem?_eq_getElem hlt) hd⟩

/-- the data that lie on no heap -/
def D.atom : D → Bool
  | .none | .bool _ | .int _ | .str _ | .bytes _ => true
  | _ => false
theorem Rep.atom {Z Z' : Addr → Prop} {h h' : Heap} {v : Value} {d : D} (r : Rep Z h v d) (ha : d.atom = true) : Rep Z' h' v d := by
  cases r with
  | none => exact .none
  | bool b => exact .bool b
  | int i t => exact .int i t
  | str x t => exact .str x t
  | bytes b t => exact .bytes b t
  | tup => cases ha
  | lst => cases ha
  | rng => cases ha
theorem Rep.int_inv {Z : Addr → Prop} {h : Heap} {v : Value} {i : Int} (r : Rep Z h v (.int i)) : ∃ t, v = .int i t := by cases r; exact ⟨_, rfl⟩
theorem Rep.str_inv {Z : Addr → Prop} {h : Heap} {v : Value} {x : PySem.Str} (r : Rep Z h v (.str x)) : ∃ t, v = .str x t := by cases r; exact ⟨_, rfl⟩
theorem Rep.bytes_inv {Z : Addr → Prop} {h : Heap} {v : Value} {x : Array UInt8} (r : Rep Z h v (.bytes x)) : ∃ t, v = .bytes x t := by cases r; exact ⟨_, rfl⟩
theorem Rep.bool_inv {Z : Addr → Prop} {h : Heap} {v : Value} {b : Bool} (r : Rep Z h v (.bool b)) : v = .bool b := by cases r; rfl
theorem Rep.none_inv {Z : Addr → Prop} {h : Heap} {v : Value} (r : Rep Z h v .none) : v = .none := by cases r; rfl
theorem Rep.lst_inv {Z : Addr → Prop} {h : Heap} {v : Value} {ds : List D} (r : Rep Z h v (.lst ds)) : ∃ a vs n, v = .ref a ∧ ¬ Z a ∧ h.get? a = some { cls := .type "list", data := .seq vs.toArray n } ∧ RepAll Z h vs ds := by
  cases r with
  | lst hz ho hl hi => exact ⟨_, _, _, rfl, hz, ho, hl, hi⟩
theorem Rep.tup_inv {Z : Addr → Prop} {h : Heap} {v : Value} {ds : List D} (r : Rep Z h v (.tup ds)) : ∃ a vs n, v = .ref a ∧ ¬ Z a ∧ h.get? a = some { cls := .type "tuple", data := .seq vs.toArray n } ∧ RepAll Z h vs ds := by
  cases r with
  | tup hz ho hl hi => exact ⟨_, _, _, rfl, hz, ho, hl, hi⟩
theorem Rep.rng_inv {Z : Addr → Prop} {h : Heap} {v : Value} {x y c : Int} (r : Rep Z h v (.rng x y c)) : ∃ a t u w, v = .ref a ∧ ¬ Z a ∧ IsRange h a x y c t u w := by
  cases r with
  | rng hz ho => exact ⟨_, _, _, _, rfl, hz, ho⟩

/-- the room that a step finds around it -/
structure Fit (k : Nat) (A : Around) : Prop where
  hh : A.handled = none
  hd : A.depth + k ≤ 900
  hu : A.units + k ≤ 9000
theorem Fit.le {k k' : Nat} {A : Around} (f : Fit k A) (h : k' ≤ k) : Fit k' A := ⟨f.hh, by have := f.hd; omega, by have := f.hu; omega⟩
theorem Fit.room {k : Nat} {A : Around} (f : Fit k A) : A.depth < recursionLimit := by have := f.hd; show A.depth < 1000; omega
theorem Fit.units {k : Nat} {A : Around} (f : Fit k A) : A.units < cLine := by have := f.hu; show A.units < 9900; omega
theorem Fit.in1 {k : Nat} {A : Around} (f : Fit (k + 1) A) : Fit k A.in1 := ⟨f.hh, by have := f.hd; show A.depth + k ≤ 900; omega, by have := f.hu; show A.units + 1 + k ≤ 9000; omega⟩
theorem Fit.deeper {k : Nat} {A : Around} (f : Fit (k + 3) A) (env : Env) : Fit k (A.deeper env) := ⟨f.hh, by have := f.hd; show A.depth + 1 + k ≤ 900; omega, by have := f.hu; show A.units + 3 + k ≤ 9000; omega⟩

/-- the built-in names that the text reads -/
def usedNames : List PySem.Str := ["sum", "range", "len", "max", "chr", "list", "bytes", "int", "abs", "divmod", "enumerate"]

/-- the run's fixed parts: the program, the world, the module's names and the built-in ones, the heap at the call, the text's defs -/
structure Uni where
  prog : Program
  w : World
  mg : PySem.Str → Option Value
  mb : PySem.Str → Option Value
  base : Heap
  recs : List DefRec

/-- what the top has left -/
structure Top0 (U : Uni) : Prop where
  g : U.base.Ns mainGlobals U.mg
  b : U.base.Ns builtinsNs U.mb
  lim : U.base.NoLimit
  bb : ∀ x : PySem.Str, x ≠ "__name__" → U.mb x = bootBuiltins x
  free : ∀ x ∈ usedNames, U.mg x = none
  fn : ∀ d ∈ U.recs, ∃ a o pm code doc, U.mg d.name = some (.ref a) ∧ U.base.get? a = some o ∧ o.data = .func (Calls.docDef d.name d.params d.body d.scope pm code doc) ∧ U.base.CodeRec code d.name
structure Gl (U : Uni) (h : Heap) : Prop where
  top : Top0 U
  keep : Kept U.base h
theorem Gl.kept {U : Uni} {h h' : Heap} (G : Gl U h) (hk : Kept h h') : Gl U h' := ⟨G.top, fun b o e => hk b o (G.keep b o e)⟩
theorem Gl.g {U : Uni} {h : Heap} (G : Gl U h) : h.Ns mainGlobals U.mg := G.top.g.keeps G.keep
theorem Gl.b {U : Uni} {h : Heap} (G : Gl U h) : h.Ns builtinsNs U.mb := G.top.b.keeps G.keep
theorem Gl.lim {U : Uni} {h : Heap} (G : Gl U h) : h.NoLimit := G.top.lim.keeps G.keep

/-- the name x holds the value v -/
def Held (env : Env) (h : Heap) (x : PySem.Str) (v : Value) : Prop :=
  (env.kindOf x = some .local ∧ ∃ m, h.Ns env.locals m ∧ m x = some v) ∨
  ((env.kindOf x = some .cell ∨ (env.kindOf x = some .free ∧ (x == ("__classdict__" : PySem.Str)) = false)) ∧ ∃ c, env.cells.lookup x = some c ∧ h.IsCell c (some v))
theorem Held.kept {env : Env} {h h' : Heap} {x : PySem.Str} {v : Value} (H : Held env h x v) (hk : Kept h h') : Held env h' x v := by
  rcases H with ⟨hl, m, hn, hm⟩ | ⟨hc, c, hl, hv⟩
  · exact .inl ⟨hl, m, hn.keeps hk, hm⟩
  · exact .inr ⟨hc, c, hl, hv.keeps hk⟩

structure EnvAt (U : Uni) (σ : Scope) (m : PySem.Str → Option D) (Z : Addr → Prop) (env : Env) (h : Heap) : Prop where
  gl : Gl U h
  scope : env.scope = σ
  kind : σ.kind = .function
  glob : env.globals = mainGlobals
  blt : env.builtins = builtinsNs
  zok : ∀ b, Z b → ∃ o, h.get? b = some o
  vars : ∀ x d, m x = some d → (x == ("__debug__" : PySem.Str)) = false ∧ ∃ v, Held env h x v ∧ Rep Z h v d
theorem EnvAt.kept {U σ m Z env} {h h' : Heap} (X : EnvAt U σ m Z env h) (hk : Kept h h') : EnvAt U σ m Z env h' :=
  ⟨X.gl.kept hk, X.scope, X.kind, X.glob, X.blt, fun b hb => let ⟨o, e⟩ := X.zok b hb; ⟨o, hk b o e⟩, fun x d e => let ⟨h1, v, h2, h3⟩ := X.vars x d e; ⟨h1, v, h2.kept hk, h3.kept hk⟩⟩

theorem fresh_not {Z : Addr → Prop} {h : Heap} (zok : ∀ b, Z b → ∃ o, h.get? b = some o) : ¬ Z h.objs.size := fun hz => by
  obtain ⟨o, e⟩ := zok _ hz
  exact Nat.lt_irrefl _ (Heap.lt_size e)
theorem Kept.refl (h : Heap) : Kept h h := fun _ _ e => e
theorem Kept.trans {h h' h'' : Heap} (a : Kept h h') (b : Kept h' h'') : Kept h h'' := fun x o e => b x o (a x o e)
theorem Kept.push (h : Heap) (o : Obj) : Kept h (h.push o) := fun _ _ e => Heap.get?_push_of_some _ e
theorem zok_kept {Z : Addr → Prop} {h h' : Heap} (zok : ∀ b, Z b → ∃ o, h.get? b = some o) (hk : Kept h h') : ∀ b, Z b → ∃ o, h'.get? b = some o :=
  fun b hb => let ⟨o, e⟩ := zok b hb; ⟨o, hk b o e⟩

section
variable (U : Uni)
/-- the tree gives a value that bears d; all objects stay as they are -/
def Yields (A : Around) (t : Sem Value) (Z : Addr → Prop) (d : D) (s : Shared) : Prop :=
  ∀ (Q : Value → Shared → Prop) (E : Value → Shared → Prop), (∀ v h' tk, Kept s.heap h' → Rep Z h' v d → Q v { s with heap := h', toks := tk }) → wpAny (model U.prog U.w) A t Q E s
def YieldsB (A : Around) (t : Sem Bool) (b : Bool) (s : Shared) : Prop :=
  ∀ (Q : Bool → Shared → Prop) (E : Value → Shared → Prop), (∀ h' tk, Kept s.heap h' → Q b { s with heap := h', toks := tk }) → wpAny (model U.prog U.w) A t Q E s

def Ev (k : Nat) (σ : Scope) (m : PySem.Str → Option D) (e : Expr) (d : D) : Prop :=
  ∀ (A : Around) (env : Env) (Z : Addr → Prop) (s : Shared), Fit k A → EnvAt U σ m Z env s.heap → Yields U A (eval e env) Z d s
def EvT (k : Nat) (σ : Scope) (m : PySem.Str → Option D) (e : Expr) (b : Bool) : Prop :=
  ∀ (A : Around) (env : Env) (Z : Addr → Prop) (s : Shared), Fit k A → EnvAt U σ m Z env s.heap → YieldsB U A (isTrue e env (eval e env)) b s
end

section
variable {U : Uni} {k : Nat} {σ : Scope} {m : PySem.Str → Option D} {A : Around} {Z : Addr → Prop} {s : Shared}

theorem held_load {env : Env} {x : PySem.Str} {v : Value} {Q : Value → Shared → Prop} {E : Value → Shared → Prop} (hk : env.scope.kind = .function) (H : Held env s.heap x v) (h : Q v s) : wpAny (model U.prog U.w) A (loadName env x) Q E s := by
  rcases H with ⟨hl, m, hn, hm⟩ | ⟨hc | ⟨hc, hx⟩, c, hl, hv⟩
  · exact wpAny_loadName_local hk hl hn hm h
  · exact wpAny_loadName_cell hk hc hl hv h
  · exact wpAny_loadName_free hk hc hl hv h hx

theorem Ev.name {x : PySem.Str} {pos : Pos} {d : D} (hx : m x = some d) : Ev U k σ m (.Name x pos) d := fun A env Z s _ X Q E hQ => by
  obtain ⟨hd, v, hv, hr⟩ := X.vars x d hx
  exact wpAny_Name (held_load (by rw [X.scope]; exact X.kind) hv (hQ v s.heap s.toks (Kept.refl _) hr)) hd

theorem Ev.int {i : Int} {kk : Nat} {pos : Pos} : Ev U k σ m (.Constant (.int i) kk pos) (.int i) := fun _ _ _ s _ _ Q E hQ =>
  wpAny_Constant_int (hQ _ s.heap _ (Kept.refl _) (.int i _))
theorem Ev.str {x : PySem.Str} {kk : Nat} {pos : Pos} : Ev U k σ m (.Constant (.str x) kk pos) (.str x) := fun _ _ _ s _ _ Q E hQ =>
  wpAny_Constant_str (hQ _ s.heap _ (Kept.refl _) (.str x _))
theorem Ev.cbool {b : Bool} {kk : Nat} {pos : Pos} : Ev U k σ m (.Constant (.bool b) kk pos) (.bool b) := fun _ _ _ s _ _ Q E hQ =>
  wpAny_Constant_bool (hQ _ s.heap s.toks (Kept.refl _) (.bool b))
theorem Ev.cnone {kk : Nat} {pos : Pos} : Ev U k σ m (.Constant .none kk pos) .none := fun _ _ _ s _ _ Q E hQ =>
  wpAny_Constant_none (hQ _ s.heap s.toks (Kept.refl _) .none)
theorem Ev.cbytes {b : List UInt8} {kk : Nat} {pos : Pos} : Ev U k σ m (.Constant (.bytes b) kk pos) (.bytes b.toArray) := fun _ _ _ s _ _ Q E hQ =>
  fun _ _ _ => hQ _ s.heap _ (Kept.refl _) (.bytes b.toArray _)

theorem Ev.bin {l r : Expr} {op : Operator} {pos : Pos} {d₁ d₂ d : D} (h₁ : Ev U k σ m l d₁) (h₂ : Ev U k σ m r d₂)
    (hop : ∀ (A : Around) (Z : Addr → Prop) (s : Shared) (v₁ v₂ : Value), Fit k A → (∀ b, Z b → ∃ o, s.heap.get? b = some o) → Rep Z s.heap v₁ d₁ → Rep Z s.heap v₂ d₂ → Yields U A (binaryOp op v₁ v₂) Z d s) :
    Ev U k σ m (.BinOp l op r pos) d := fun A env Z s f X Q E hQ => by
  refine wpAny_BinOp (h₁ A env Z s f X _ _ fun v₁ h' tk hk r₁ => h₂ A env Z _ f (X.kept hk) _ _ fun v₂ h'' tk' hk' r₂ => ?_)
  exact hop A Z _ v₁ v₂ f (zok_kept X.zok (hk.trans hk')) (r₁.kept hk') r₂ Q E fun v h₃ tk₃ hk₃ r₃ => hQ v h₃ tk₃ ((hk.trans hk').trans hk₃) r₃

theorem Ev.un {l : Expr} {op : UnaryOp} {pos : Pos} {d₁ d : D} (h₁ : Ev U k σ m l d₁)
    (hop : ∀ (A : Around) (Z : Addr → Prop) (s : Shared) (v₁ : Value), Fit k A → Rep Z s.heap v₁ d₁ → Yields U A (unaryOp op v₁) Z d s) :
    Ev U k σ m (.UnaryOp op l pos) d := fun A env Z s f X Q E hQ => by
  refine wpAny_UnaryOp (h₁ A env Z s f X _ _ fun v₁ h' tk hk r₁ => ?_)
  exact hop A Z _ v₁ f r₁ Q E fun v h₃ tk₃ hk₃ r₃ => hQ v h₃ tk₃ (hk.trans hk₃) r₃

theorem Ev.add {l r : Expr} {pos : Pos} {a b : Int} (h₁ : Ev U k σ m l (.int a)) (h₂ : Ev U k σ m r (.int b)) : Ev U k σ m (.BinOp l .Add r pos) (.int (a + b)) :=
  h₁.bin h₂ fun A Z s v₁ v₂ _ _ r₁ r₂ Q E hQ => by
    obtain ⟨t, rfl⟩ := r₁.int_inv; obtain ⟨u, rfl⟩ := r₂.int_inv
    exact P.add_int (hQ _ s.heap _ (Kept.refl _) (.int _ _))
theorem Ev.sub {l r : Expr} {pos : Pos} {a b : Int} (h₁ : Ev U k σ m l (.int a)) (h₂ : Ev U k σ m r (.int b)) : Ev U k σ m (.BinOp l .Sub r pos) (.int (a - b)) :=
  h₁.bin h₂ fun A Z s v₁ v₂ _ _ r₁ r₂ Q E hQ => by
    obtain ⟨t, rfl⟩ := r₁.int_inv; obtain ⟨u, rfl⟩ := r₂.int_inv
    exact P.sub_int (hQ _ s.heap _ (Kept.refl _) (.int _ _))
theorem Ev.mul {l r : Expr} {pos : Pos} {a b : Int} (h₁ : Ev U k σ m l (.int a)) (h₂ : Ev U k σ m r (.int b)) (hm : IntMulOk a b) : Ev U k σ m (.BinOp l .Mult r pos) (.int (a * b)) :=
  h₁.bin h₂ fun A Z s v₁ v₂ _ _ r₁ r₂ Q E hQ => by
    obtain ⟨t, rfl⟩ := r₁.int_inv; obtain ⟨u, rfl⟩ := r₂.int_inv
    exact P.mul_int (hQ _ s.heap _ (Kept.refl _) (.int _ _)) hm
theorem Ev.neg {l : Expr} {pos : Pos} {a : Int} (h₁ : Ev U k σ m l (.int a)) : Ev U k σ m (.UnaryOp .USub l pos) (.int (-a)) :=
  h₁.un fun A Z s v₁ _ r₁ Q E hQ => by
    obtain ⟨t, rfl⟩ := r₁.int_inv
    exact P.neg_int (hQ _ s.heap _ (Kept.refl _) (.int _ _))
end
end Mine

namespace Mine
section
variable {U : Uni} {k : Nat} {σ : Scope} {m : PySem.Str → Option D} {A : Around} {Z : Addr → Prop} {s : Shared}

theorem Ev.div {l r : Expr} {pos : Pos} {a b : Int} (h₁ : Ev U k σ m l (.int a)) (h₂ : Ev U k σ m r (.int b)) (hb : 0 < b) (hs : b.natAbs.log2 < 9000) : Ev U k σ m (.BinOp l .FloorDiv r pos) (.int (a / b)) :=
  h₁.bin h₂ fun A Z s v₁ v₂ _ _ r₁ r₂ Q E hQ => by
    obtain ⟨t, rfl⟩ := r₁.int_inv; obtain ⟨u, rfl⟩ := r₂.int_inv
    refine floordiv_int (by omega) ?_ (.inl (PyProof.noPylong_of_log2 hs))
    rw [Int.fdiv_eq_ediv_of_nonneg _ (by omega)]
    exact hQ _ s.heap _ (Kept.refl _) (.int _ _)
theorem Ev.mod {l r : Expr} {pos : Pos} {a b : Int} (h₁ : Ev U k σ m l (.int a)) (h₂ : Ev U k σ m r (.int b)) (hb : 0 < b) : Ev U k σ m (.BinOp l .Mod r pos) (.int (a % b)) :=
  h₁.bin h₂ fun A Z s v₁ v₂ _ _ r₁ r₂ Q E hQ => by
    obtain ⟨t, rfl⟩ := r₁.int_inv; obtain ⟨u, rfl⟩ := r₂.int_inv
    refine mod_int' (by omega) ?_
    rw [Int.fmod_eq_emod_of_nonneg _ (by omega)]
    exact hQ _ s.heap _ (Kept.refl _) (.int _ _)
theorem Ev.pow {l r : Expr} {pos : Pos} {a : Int} {n : Nat} (h₁ : Ev U k σ m l (.int a)) (h₂ : Ev U k σ m r (.int n)) (hs : (Builtin.Int.intBits a : Int) * n ≤ 2 ^ 27) : Ev U k σ m (.BinOp l .Pow r pos) (.int (a ^ n)) :=
  h₁.bin h₂ fun A Z s v₁ v₂ _ _ r₁ r₂ Q E hQ => by
    obtain ⟨t, rfl⟩ := r₁.int_inv; obtain ⟨u, rfl⟩ := r₂.int_inv
    refine pow_int (by omega) hs ?_
    rw [Int.toNat_natCast]
    exact hQ _ s.heap _ (Kept.refl _) (.int _ _)
theorem Ev.addStr {l r : Expr} {pos : Pos} {a b : PySem.Str} (h₁ : Ev U k σ m l (.str a)) (h₂ : Ev U k σ m r (.str b)) (hs : a.length + b.length ≤ sizeLine) : Ev U k σ m (.BinOp l .Add r pos) (.str (a ++ b)) :=
  h₁.bin h₂ fun A Z s v₁ v₂ _ _ r₁ r₂ Q E hQ => by
    obtain ⟨t, rfl⟩ := r₁.str_inv; obtain ⟨u, rfl⟩ := r₂.str_inv
    exact PyProof.Rows.add_str (fun t' tk => hQ _ s.heap _ (Kept.refl _) (.str _ _)) hs
theorem Ev.addBytes {l r : Expr} {pos : Pos} {a b : Array UInt8} (h₁ : Ev U k σ m l (.bytes a)) (h₂ : Ev U k σ m r (.bytes b)) (hs : a.size + b.size ≤ 16777216) : Ev U k σ m (.BinOp l .Add r pos) (.bytes (a ++ b)) :=
  h₁.bin h₂ fun A Z s v₁ v₂ _ _ r₁ r₂ Q E hQ => by
    obtain ⟨t, rfl⟩ := r₁.bytes_inv; obtain ⟨u, rfl⟩ := r₂.bytes_inv
    exact KBy.add_bytes hs (fun t' tk => hQ _ s.heap _ (Kept.refl _) (.bytes _ _))
/-- a new list -/
theorem rep_new {cls : String} {Z : Addr → Prop} {h : Heap} {vs : List Value} {ds : List D} (zok : ∀ b, Z b → ∃ o, h.get? b = some o) (r : RepAll Z h vs ds) :
    Rep Z (h.push { cls := .type "list", data := .seq vs.toArray }) (.ref h.objs.size) (.lst ds) :=
  .lst (fresh_not zok) (Heap.get?_push_size _ rfl) r.1 fun i v d hv hd => (r.2 i v d hv hd).kept (Kept.push _ _)
theorem rep_newT {Z : Addr → Prop} {h : Heap} {vs : List Value} {ds : List D} (zok : ∀ b, Z b → ∃ o, h.get? b = some o) (r : RepAll Z h vs ds) :
    Rep Z (h.push { cls := .type "tuple", data := .seq vs.toArray }) (.ref h.objs.size) (.tup ds) :=
  .tup (fresh_not zok) (Heap.get?_push_size _ rfl) r.1 fun i v d hv hd => (r.2 i v d hv hd).kept (Kept.push _ _)
theorem Ev.addLst {l r : Expr} {pos : Pos} {a b : List D} (h₁ : Ev U k σ m l (.lst a)) (h₂ : Ev U k σ m r (.lst b)) (hs : a.length + b.length ≤ sizeLine) : Ev U k σ m (.BinOp l .Add r pos) (.lst (a ++ b)) :=
  h₁.bin h₂ fun A Z s v₁ v₂ _ zok r₁ r₂ Q E hQ => by
    obtain ⟨x, xs, n, rfl, hz, ho, rx⟩ := r₁.lst_inv; obtain ⟨y, ys, n', rfl, hz', ho', ry⟩ := r₂.lst_inv
    refine P.add_list ho ho' ?_ (by simpa [rx.1, ry.1] using hs)
    rw [List.append_toArray]
    exact hQ _ _ _ (Kept.push _ _) (rep_new (cls := "list") zok (rx.append ry))

theorem EvT.cmp {l r : Expr} {op : CmpOp} {pos : Pos} {d₁ d₂ : D} {b : Bool} (h₁ : Ev U k σ m l d₁) (h₂ : Ev U k σ m r d₂)
    (hop : ∀ (A : Around) (Z : Addr → Prop) (s : Shared) (v₁ v₂ : Value), Fit k A → Rep Z s.heap v₁ d₁ → Rep Z s.heap v₂ d₂ → Yields U A (compareOp op v₁ v₂) Z (.bool b) s)
    (hm : behindInMarks op r = false := by with_unfolding_all rfl) :
    EvT U k σ m (.Compare l [op] [r] pos) b := fun A env Z s f X Q E hQ => by
  refine wpAny_isTrue_Compare1 (h₁ A env Z s f X _ _ fun v₁ h' tk hk r₁ => h₂ A env Z _ f (X.kept hk) _ _ fun v₂ h'' tk' hk' r₂ => ?_) hm
  refine hop A Z _ v₁ v₂ f (r₁.kept hk') r₂ _ _ fun v h₃ tk₃ hk₃ r₃ => ?_
  obtain rfl := r₃.bool_inv
  exact wpAny_truthy_bool (hQ h₃ tk₃ ((hk.trans hk').trans hk₃))
theorem Ev.cmp {l r : Expr} {op : CmpOp} {pos : Pos} {d₁ d₂ : D} {b : Bool} (h₁ : Ev U k σ m l d₁) (h₂ : Ev U k σ m r d₂)
    (hop : ∀ (A : Around) (Z : Addr → Prop) (s : Shared) (v₁ v₂ : Value), Fit k A → Rep Z s.heap v₁ d₁ → Rep Z s.heap v₂ d₂ → Yields U A (compareOp op v₁ v₂) Z (.bool b) s)
    (hm : behindInMarks op r = false := by with_unfolding_all rfl) :
    Ev U k σ m (.Compare l [op] [r] pos) (.bool b) := fun A env Z s f X Q E hQ => by
  refine wpAny_Compare1 (h₁ A env Z s f X _ _ fun v₁ h' tk hk r₁ => h₂ A env Z _ f (X.kept hk) _ _ fun v₂ h'' tk' hk' r₂ => ?_) hm
  exact hop A Z _ v₁ v₂ f (r₁.kept hk') r₂ _ _ fun v h₃ tk₃ hk₃ r₃ => hQ v h₃ tk₃ ((hk.trans hk').trans hk₃) r₃

section
variable {A : Around} {Z : Addr → Prop} {s : Shared} {v₁ v₂ : Value} {a b : Int} {x y : PySem.Str}
theorem opEq (r₁ : Rep Z s.heap v₁ (.int a)) (r₂ : Rep Z s.heap v₂ (.int b)) : Yields U A (compareOp .Eq v₁ v₂) Z (.bool (a == b)) s := fun Q E hQ => by
  obtain ⟨t, rfl⟩ := r₁.int_inv; obtain ⟨u, rfl⟩ := r₂.int_inv
  exact P.eq_int (hQ _ s.heap s.toks (Kept.refl _) (.bool _))
theorem opNe (r₁ : Rep Z s.heap v₁ (.int a)) (r₂ : Rep Z s.heap v₂ (.int b)) : Yields U A (compareOp .NotEq v₁ v₂) Z (.bool (a != b)) s := fun Q E hQ => by
  obtain ⟨t, rfl⟩ := r₁.int_inv; obtain ⟨u, rfl⟩ := r₂.int_inv
  exact P.ne_int (hQ _ s.heap s.toks (Kept.refl _) (.bool _))
theorem opLt (r₁ : Rep Z s.heap v₁ (.int a)) (r₂ : Rep Z s.heap v₂ (.int b)) : Yields U A (compareOp .Lt v₁ v₂) Z (.bool (decide (a < b))) s := fun Q E hQ => by
  obtain ⟨t, rfl⟩ := r₁.int_inv; obtain ⟨u, rfl⟩ := r₂.int_inv
  exact P.lt_int (hQ _ s.heap s.toks (Kept.refl _) (.bool _))
theorem opGt (r₁ : Rep Z s.heap v₁ (.int a)) (r₂ : Rep Z s.heap v₂ (.int b)) : Yields U A (compareOp .Gt v₁ v₂) Z (.bool (decide (a > b))) s := fun Q E hQ => by
  obtain ⟨t, rfl⟩ := r₁.int_inv; obtain ⟨u, rfl⟩ := r₂.int_inv
  exact P.gt_int (hQ _ s.heap s.toks (Kept.refl _) (.bool _))
theorem opEqS (r₁ : Rep Z s.heap v₁ (.str x)) (r₂ : Rep Z s.heap v₂ (.str y)) : Yields U A (compareOp .Eq v₁ v₂) Z (.bool (x == y)) s := fun Q E hQ => by
  obtain ⟨t, rfl⟩ := r₁.str_inv; obtain ⟨u, rfl⟩ := r₂.str_inv
  exact PyProof.Rows.eq_str (hQ _ s.heap s.toks (Kept.refl _) (.bool _))
theorem opNeS (r₁ : Rep Z s.heap v₁ (.str x)) (r₂ : Rep Z s.heap v₂ (.str y)) : Yields U A (compareOp .NotEq v₁ v₂) Z (.bool (x != y)) s := fun Q E hQ => by
  obtain ⟨t, rfl⟩ := r₁.str_inv; obtain ⟨u, rfl⟩ := r₂.str_inv
  exact PyProof.Rows.ne_str (hQ _ s.heap s.toks (Kept.refl _) (.bool _))
end

theorem EvT.or {e₁ e₂ : Expr} {pos : Pos} {a b : Bool} (h₁ : EvT U k σ m e₁ a) (h₂ : a = false → EvT U k σ m e₂ b) : EvT U k σ m (.BoolOp .Or [e₁, e₂] pos) (a || b) := fun A env Z s f X Q E hQ => by
  refine wpAny_isTrue_BoolOp (wpAny_allTrue_Or_cons (h₁ A env Z s f X _ _ fun h' tk hk => ?_))
  cases a with
  | true => exact hQ h' tk hk
  | false =>
    refine wpAny_allTrue_Or_cons (h₂ rfl A env Z _ f (X.kept hk) _ _ fun h'' tk' hk' => ?_)
    cases b with
    | true => exact hQ _ _ (hk.trans hk')
    | false => exact wpAny_allTrue_Or_nil (hQ _ _ (hk.trans hk'))
theorem Ev.ifexp {t e₁ e₂ : Expr} {pos : Pos} {b : Bool} {d : D} (ht : EvT U k σ m t b) (h₁ : b = true → Ev U k σ m e₁ d) (h₂ : b = false → Ev U k σ m e₂ d) :
    Ev U k σ m (.IfExp t e₁ e₂ pos) d := fun A env Z s f X Q E hQ => by
  refine wpAny_IfExp (ht A env Z s f X _ _ fun h' tk hk => ?_)
  cases b with
  | true => exact h₁ rfl A env Z _ f (X.kept hk) _ _ fun v h'' tk' hk' r => hQ v h'' tk' (hk.trans hk') r
  | false => exact h₂ rfl A env Z _ f (X.kept hk) _ _ fun v h'' tk' hk' r => hQ v h'' tk' (hk.trans hk') r
end

section
variable (U : Uni) (k : Nat) (σ : Scope) (m : PySem.Str → Option D)
def EvAll : List Expr → List D → Prop
  | [], [] => True
  | e :: es, d :: ds => (∀ env rest, starEach (e :: rest) env = (false, eval e env) :: starEach rest env) ∧ Ev U k σ m e d ∧ EvAll es ds
  | _, _ => False
end

section
variable {U : Uni} {k : Nat} {σ : Scope} {m : PySem.Str → Option D} {A : Around} {Z : Addr → Prop} {s : Shared}

theorem EvAll.nil : EvAll U k σ m [] [] := trivial
theorem EvAll.cons {e : Expr} {es : List Expr} {d : D} {ds : List D} (h : Ev U k σ m e d) (hs : EvAll U k σ m es ds)
    (hst : ∀ env rest, starEach (e :: rest) env = (false, eval e env) :: starEach rest env := by intro _ _; rfl) : EvAll U k σ m (e :: es) (d :: ds) := ⟨hst, h, hs⟩

theorem EvAll.spliced {pos : Pos} : ∀ {es : List Expr} {ds : List D}, EvAll U k σ m es ds → ∀ (A : Around) (env : Env) (Z : Addr → Prop) (s : Shared) (Q : List Value → Shared → Prop) (E : Value → Shared → Prop),
    Fit k A → EnvAt U σ m Z env s.heap → (∀ vs h' tk, Kept s.heap h' → RepAll Z h' vs ds → Q vs { s with heap := h', toks := tk }) → wpAny (model U.prog U.w) A (PySem.spliced (backTo pos (starEach es env))) Q E s
  | [], [], _, A, env, Z, s, Q, E, f, X, hQ => Calls.spliced_nil (hQ [] s.heap s.toks (Kept.refl _) .nil)
  | e :: es, d :: ds, ⟨hst, h, hs⟩, A, env, Z, s, Q, E, f, X, hQ => by
    rw [hst env es]
    show wpAny _ A (PySem.spliced ((false, eval e env) :: backTo pos (starEach es env))) Q E s
    refine Calls.spliced_cons (h A env Z s f X _ _ fun v h' tk hk r => ?_)
    exact EvAll.spliced hs A env Z _ _ E f (X.kept hk) fun vs h'' tk' hk' rs => hQ (v :: vs) h'' tk' (hk.trans hk') (.cons (r.kept hk') rs)
  | [], _ :: _, h, _, _, _, _, _, _, _, _, _ => h.elim
  | _ :: _, [], h, _, _, _, _, _, _, _, _, _ => h.elim

theorem Ev.list {es : List Expr} {ds : List D} {pos : Pos} (h : EvAll U k σ m es ds) (hs : ds.length ≤ sizeLine) : Ev U k σ m (.List es pos) (.lst ds) := fun A env Z s f X Q E hQ =>
  wpAny_List (h.spliced A env Z s _ E f X fun vs h' tk hk rs => ⟨by rw [rs.1]; exact hs, hQ _ _ _ (hk.trans (Kept.push _ _)) (rep_new (cls := "list") (zok_kept X.zok hk) rs)⟩)
theorem Ev.tuple {es : List Expr} {ds : List D} {kk : Nat} {pos : Pos} (h : EvAll U k σ m es ds) (hs : ds.length ≤ sizeLine) : Ev U k σ m (.Tuple es kk pos) (.tup ds) := fun A env Z s f X Q E hQ =>
  wpAny_Tuple (h.spliced A env Z s _ E f X fun vs h' tk hk rs => ⟨by rw [rs.1]; exact hs, hQ _ _ _ (hk.trans (Kept.push _ _)) (rep_newT (zok_kept X.zok hk) rs)⟩)

/-- a global name -/
theorem glob_load {x : PySem.Str} {pos : Pos} {v : Value} {env : Env} {Q : Value → Shared → Prop} {E : Value → Shared → Prop} (X : EnvAt U σ m Z env s.heap) (hx : σ.names.lookup x = some .globalImplicit) (hv : U.mg x = some v) (h : Q v s)
    (hd : (x == ("__debug__" : PySem.Str)) = false := by decide) : wpAny (model U.prog U.w) A (eval (.Name x pos) env) Q E s :=
  Calls.Name_function_global (by rw [X.scope]; exact X.kind) (by show env.scope.names.lookup x = _; rw [X.scope]; exact hx) (Calls.loadGlobal_global (by rw [X.glob]; exact X.gl.g) hv h) hd
theorem built_load {x : PySem.Str} {pos : Pos} {v : Value} {env : Env} {Q : Value → Shared → Prop} {E : Value → Shared → Prop} (X : EnvAt U σ m Z env s.heap) (hx : σ.names.lookup x = some .globalImplicit) (hu : x ∈ usedNames) (hv : bootBuiltins x = some v) (h : Q v s)
    (hd : (x == ("__debug__" : PySem.Str)) = false := by decide) (hn : x ≠ "__name__" := by decide) : wpAny (model U.prog U.w) A (eval (.Name x pos) env) Q E s :=
  Calls.Name_function_global (by rw [X.scope]; exact X.kind) (by show env.scope.names.lookup x = _; rw [X.scope]; exact hx)
    (Calls.loadGlobal_builtin (by rw [X.glob]; exact X.gl.g) (X.gl.top.free x hu) (by rw [X.blt]; exact X.gl.b) ((X.gl.top.bb x hn).trans hv) h) hd

theorem evalArgs_of {fv : Value} {e : Expr} {es : List Expr} {ds : List D} {pos : Pos} (h : EvAll U k σ m (e :: es) ds) (A : Around) (env : Env) (Z : Addr → Prop) (s : Shared) (Q : Args → Shared → Prop) (E : Value → Shared → Prop)
    (f : Fit k A) (X : EnvAt U σ m Z env s.heap) (hQ : ∀ vs h' tk, Kept s.heap h' → RepAll Z h' vs ds → Q ⟨vs, []⟩ { s with heap := h', toks := tk }) :
    wpAny (model U.prog U.w) A (evalArgs fv true (backTo pos (starEach (e :: es) env)) []) Q E s := by
  cases ds with
  | nil => exact h.elim
  | cons d ds =>
    have hst := h.1 env es
    have e1 : backTo pos (starEach (e :: es) env) = (false, eval e env) :: backTo pos (starEach es env) := by rw [hst]; rfl
    have := h.spliced (pos := pos) A env Z s (fun vs s' => Q ⟨vs, []⟩ s') E f X hQ
    rw [e1] at this ⊢
    exact Calls.evalArgs_plain this
theorem any_star {pos : Pos} {env : Env} : ∀ {es : List Expr} {ds : List D}, EvAll U k σ m es ds → (backTo pos (starEach es env)).any (·.1) = false
  | [], [], _ => rfl
  | e :: es, d :: ds, ⟨hst, _, hs⟩ => by
    rw [hst env es]
    show (((false, eval e env) :: backTo pos (starEach es env)).any (·.1)) = false
    rw [List.any_cons, any_star hs]; rfl
  | [], _ :: _, h => h.elim
  | _ :: _, [], h => h.elim

/-- a call of a built-in function -/
theorem Ev.callB {x : PySem.Str} {id : String} {np pos : Pos} {e : Expr} {es : List Expr} {ds : List D} {d : D} (h : EvAll U k σ m (e :: es) ds) (hx : σ.names.lookup x = some .globalImplicit) (hu : x ∈ usedNames) (hv : bootBuiltins x = some (.builtin id))
    (hc : ∀ (A : Around) (Z : Addr → Prop) (s : Shared) (vs : List Value), Fit k A → (∀ b, Z b → ∃ o, s.heap.get? b = some o) → RepAll Z s.heap vs ds → Yields U A (call (.builtin id) vs) Z d s)
    (hd : (x == ("__debug__" : PySem.Str)) = false := by decide) (hn : x ≠ "__name__" := by decide) :
    Ev U k σ m (.Call (.Name x np) (e :: es) [] pos) d := fun A env Z s f X Q E hQ => by
  refine wpAny_Call_ofName (built_load X hx hu hv ?_ hd hn)
  refine Calls.callWith_builtin (any_star h) ?_
  exact evalArgs_of h A env Z s _ E f X fun vs h' tk hk rs => hc A Z _ vs f (zok_kept X.zok hk) rs _ E fun v h'' tk' hk' r => hQ v h'' tk' (hk.trans hk') r
theorem Ev.callT {x : PySem.Str} {T : String} {np pos : Pos} {e : Expr} {es : List Expr} {ds : List D} {d : D} (h : EvAll U k σ m (e :: es) ds) (hx : σ.names.lookup x = some .globalImplicit) (hu : x ∈ usedNames) (hv : bootBuiltins x = some (.type T))
    (hc : ∀ (A : Around) (Z : Addr → Prop) (s : Shared) (vs : List Value), Fit k A → (∀ b, Z b → ∃ o, s.heap.get? b = some o) → RepAll Z s.heap vs ds → Yields U A (call (.type T) vs) Z d s)
    (hd : (x == ("__debug__" : PySem.Str)) = false := by decide) (hn : x ≠ "__name__" := by decide) :
    Ev U k σ m (.Call (.Name x np) (e :: es) [] pos) d := fun A env Z s f X Q E hQ => by
  refine wpAny_Call_ofName (built_load X hx hu hv ?_ hd hn)
  refine PyProof.Rows.callWith_type (any_star h) ?_
  exact evalArgs_of h A env Z s _ E f X fun vs h' tk hk rs => hc A Z _ vs f (zok_kept X.zok hk) rs _ E fun v h'' tk' hk' r => hQ v h'' tk' (hk.trans hk') r
/-- the def named x -/
structure FnAt (U : Uni) (x : PySem.Str) (a : Addr) (fd : FuncData) : Prop where
  name : U.mg x = some (.ref a)
  obj : ∃ o, U.base.get? a = some o ∧ o.data = .func fd
  code : U.base.CodeRec fd.code fd.qualname
/-- a call of one of the text's own defs -/
theorem Ev.callF {x : PySem.Str} {a : Addr} {fd : FuncData} {np pos : Pos} {e : Expr} {es : List Expr} {ds : List D} {d : D} (h : EvAll U k σ m (e :: es) ds) (hx : σ.names.lookup x = some .globalImplicit) (F : FnAt U x a fd)
    (hc : ∀ (A : Around) (Z : Addr → Prop) (s : Shared) (vs : List Value), Fit k A → (∀ b, Z b → ∃ o, s.heap.get? b = some o) → Gl U s.heap → RepAll Z s.heap vs ds → Yields U A (call (.ref a) vs) Z d s)
    (hd : (x == ("__debug__" : PySem.Str)) = false := by decide) :
    Ev U k σ m (.Call (.Name x np) (e :: es) [] pos) d := fun A env Z s f X Q E hQ => by
  obtain ⟨o, ho, hdat⟩ := F.obj
  refine wpAny_Call_ofName (glob_load X hx F.name ?_ hd)
  refine Calls.callWith_function (o := o) (fd := fd) ?_
  exact evalArgs_of h A env Z s _ E f X fun vs h' tk hk rs => ⟨⟨(X.gl.kept hk).keep _ _ ho, hdat⟩, hc A Z _ vs f (zok_kept X.zok hk) (X.gl.kept hk) rs _ E fun v h'' tk' hk' r => hQ v h'' tk' (hk.trans hk') r⟩
end
end Mine

namespace Mine

/-- the tree gives something that can be gone through: its items bear the data -/
def Iters (U : Uni) (A : Around) (t : Sem Value) (Z : Addr → Prop) (items : List D) (s : Shared) : Prop :=
  ∀ (K : Value → Shared → Prop) (E : Value → Shared → Prop),
    (∀ (I : Addr) (fp wr : List Addr) (P : Nat → Value → Prop) (St : Nat → Heap → Prop) (h' : Heap) (tk : Nat), Kept s.heap h' →
      (∀ A' : Around, A'.handled = none → Walks U.prog U.w A' I fp wr items.length P St) → St 0 h' → (∀ b ∈ fp, b < h'.objs.size) → (∀ b ∈ fp, ¬ Z b) → (∀ b ∈ wr, s.heap.get? b = none) → (∀ i h₁, St i h₁ → ∀ b ∈ wr, ∃ o, h₁.get? b = some o) →
      (∀ i d v, items[i]? = some d → P i v → Rep (fun b => Z b ∨ b ∈ wr) h' v d) →
      (∀ i h₁ v (A' : Around) tgt tk' s₁ (Q' : Unit → Shared → Prop) (E' : Value → Shared → Prop), St i h₁ → s₁ = { s with heap := h₁, toks := tk' } → Q' () s₁ → wpAny (model U.prog U.w) A' (letOwnedTupleGo tgt (.ref I) v) Q' E' s₁) →
      K (.ref I) { s with heap := h', toks := tk }) →
    wpAny (model U.prog U.w) A t K E s
def EvIter (U : Uni) (k : Nat) (σ : Scope) (m : PySem.Str → Option D) (e : Expr) (items : List D) : Prop :=
  ∀ (A : Around) (env : Env) (Z : Addr → Prop) (s : Shared), Fit k A → EnvAt U σ m Z env s.heap → ∀ (K : Value → Shared → Prop) (E : Value → Shared → Prop),
    (∀ (v : Value) (h' : Heap) (tk : Nat), Kept s.heap h' → (∀ A' : Around, A'.handled = none → Iters U A' (pyIter v) Z items { s with heap := h', toks := tk }) → K v { s with heap := h', toks := tk }) → wpAny (model U.prog U.w) A (eval e env) K E s

section
variable {U : Uni} {k : Nat} {σ : Scope} {m : PySem.Str → Option D} {A : Around} {Z : Addr → Prop} {s : Shared}

theorem letOwned_cls {tgt : Expr} {I : Addr} {v : Value} {o : Obj} {T : String} {Q : Unit → Shared → Prop} {E : Value → Shared → Prop} (ho : s.heap.get? I = some o) (hc : o.cls = .type T)
    (hT : (["enumerate", "zip", "dict_itemiterator", "dict_reverseitemiterator", "odict_iterator", "itertools.zip_longest", "itertools.pairwise"] : List String).contains T = false) (h : Q () s) :
    wpAny (model U.prog U.w) A (letOwnedTupleGo tgt (.ref I) v) Q E s := by
  unfold letOwnedTupleGo
  cases tgt with
  | Tuple => cases v with
    | ref a =>
      refine wpAny_bind (wpAny_load ho ?_)
      rw [hc]
      cases hd : o.data with
      | fields vs =>
        dsimp only
        rw [hT, Bool.false_and, if_neg (by simp)]
        exact wpAny_pure h
      | _ => exact wpAny_pure h
    | _ => exact wpAny_pure h
  | List => cases v with
    | ref a =>
      refine wpAny_bind (wpAny_load ho ?_)
      rw [hc]
      cases hd : o.data with
      | fields vs =>
        dsimp only
        rw [hT, Bool.false_and, if_neg (by simp)]
        exact wpAny_pure h
      | _ => exact wpAny_pure h
    | _ => exact wpAny_pure h
  | _ => exact wpAny_pure h

theorem fresh_mono {Z : Addr → Prop} {h h' : Heap} {wr : List Addr} (hk : Kept h h') (hw : ∀ b ∈ wr, h.get? b = none) {v : Value} {d : D} (r : Rep Z h v d) : Rep (fun b => Z b ∨ b ∈ wr) h' v d :=
  r.mono fun b o hz e => And.intro (fun hc => hc.elim hz fun hb => by rw [hw b hb] at e; exact nomatch e) (hk b o e)

theorem none_size (h : Heap) : h.get? h.objs.size = none := by
  cases e : h.get? h.objs.size with
  | none => rfl
  | some o => exact absurd (Heap.lt_size e) (Nat.lt_irrefl _)

theorem iters_lst {v : Value} {ds : List D} (zok : ∀ b, Z b → ∃ o, s.heap.get? b = some o) (hh : A.handled = none) (r : Rep Z s.heap v (.lst ds)) : Iters U A (pyIter v) Z ds s := fun K E hK => by
  obtain ⟨a, vs, n, rfl, hz, ho, ra⟩ := r.lst_inv
  have hl : s.heap.IsList a vs.toArray := ⟨_, ho, rfl, n, rfl⟩
  have hne : a ≠ s.heap.objs.size := Nat.ne_of_lt (Heap.lt_size ho)
  have hsz : vs.toArray.size = ds.length := by rw [List.size_toArray, ra.1]
  refine wpAny_pyIter_list hl ?_
  refine hK s.heap.objs.size [s.heap.objs.size, a] [s.heap.objs.size] _ _ _ s.toks (Kept.push _ _) (fun A' hh' => hsz ▸ Walks.list hh' s.heap.objs.size a hne vs.toArray) ⟨⟨_, Heap.get?_push_size _ rfl, rfl, rfl⟩, hl.at fun o e => Heap.get?_push_of_some _ e⟩ ?_ ?_ ?_ ?_ ?_ ?_
  · intro b hb
    rw [Heap.size_push]
    simp only [List.mem_cons, List.not_mem_nil, or_false] at hb
    rcases hb with rfl | rfl
    · exact Nat.lt_succ_self _
    · exact Nat.lt_succ_of_lt (Heap.lt_size ho)
  · intro b hb
    simp only [List.mem_cons, List.not_mem_nil, or_false] at hb
    rcases hb with rfl | rfl
    · exact fresh_not zok
    · exact hz
  · intro b hb; rw [List.mem_singleton.mp hb]; exact none_size _
  · intro i h₁ hst b hb; rw [List.mem_singleton.mp hb]; obtain ⟨⟨o, ho', _⟩, _⟩ := hst; exact ⟨o, ho'⟩
  · intro i d v hd hv
    exact fresh_mono (Kept.push _ _) (fun b hb => by rw [List.mem_singleton.mp hb]; exact none_size _) (ra.2 i v d (by simpa using hv) hd)
  · rintro i h₁ v A' tgt tk' s₁ Q' E' ⟨⟨o, ho', hc, _⟩, _⟩ rfl hq
    exact letOwned_cls ho' hc (by decide) hq

theorem iters_tup {v : Value} {ds : List D} (zok : ∀ b, Z b → ∃ o, s.heap.get? b = some o) (hh : A.handled = none) (r : Rep Z s.heap v (.tup ds)) : Iters U A (pyIter v) Z ds s := fun K E hK => by
  obtain ⟨a, vs, n, rfl, hz, ho, ra⟩ := r.tup_inv
  have hl : s.heap.IsTuple a vs.toArray := ⟨_, ho, rfl, n, rfl⟩
  have hne : a ≠ s.heap.objs.size := Nat.ne_of_lt (Heap.lt_size ho)
  have hsz : vs.toArray.size = ds.length := by rw [List.size_toArray, ra.1]
  refine wpAny_pyIter_tuple hl ?_
  refine hK s.heap.objs.size [s.heap.objs.size, a] [s.heap.objs.size] _ _ _ s.toks (Kept.push _ _) (fun A' hh' => hsz ▸ Walks.tuple hh' s.heap.objs.size a hne vs.toArray) ⟨⟨_, Heap.get?_push_size _ rfl, rfl, rfl⟩, hl.at fun o e => Heap.get?_push_of_some _ e⟩ ?_ ?_ ?_ ?_ ?_ ?_
  · intro b hb
    rw [Heap.size_push]
    simp only [List.mem_cons, List.not_mem_nil, or_false] at hb
    rcases hb with rfl | rfl
    · exact Nat.lt_succ_self _
    · exact Nat.lt_succ_of_lt (Heap.lt_size ho)
  · intro b hb
    simp only [List.mem_cons, List.not_mem_nil, or_false] at hb
    rcases hb with rfl | rfl
    · exact fresh_not zok
    · exact hz
  · intro b hb; rw [List.mem_singleton.mp hb]; exact none_size _
  · intro i h₁ hst b hb; rw [List.mem_singleton.mp hb]; obtain ⟨⟨o, ho', _⟩, _⟩ := hst; exact ⟨o, ho'⟩
  · intro i d v hd hv
    exact fresh_mono (Kept.push _ _) (fun b hb => by rw [List.mem_singleton.mp hb]; exact none_size _) (ra.2 i v d (by simpa using hv) hd)
  · rintro i h₁ v A' tgt tk' s₁ Q' E' ⟨⟨o, ho', hc, _⟩, _⟩ rfl hq
    exact letOwned_cls ho' hc (by decide) hq

/-- the ints of a range -/
def rngInts (a b c : Int) : List D := (List.range (Builtin.Range.rangeSize a b c).toNat).map fun (i : Nat) => D.int (a + (i : Int) * c)
theorem iters_rng {v : Value} {a b c : Int} (zok : ∀ b, Z b → ∃ o, s.heap.get? b = some o) (hh : A.handled = none) (r : Rep Z s.heap v (.rng a b c)) (hsmall : Builtin.Range.small a b c = true) (hpos : 0 ≤ Builtin.Range.rangeSize a b c) : Iters U A (pyIter v) Z (rngInts a b c) s := fun K E hK => by
  obtain ⟨x, t, u, w', rfl, hz, ho⟩ := r.rng_inv
  refine wpAny_pyIter_range ho hsmall ?_
  have hlen : (rngInts a b c).length = (Builtin.Range.rangeSize a b c).toNat := by simp [rngInts]
  refine hK s.heap.objs.size [s.heap.objs.size] [s.heap.objs.size] _ _ _ s.toks (Kept.push _ _) (fun A' hh' => by rw [hlen]; exact Walks.range hh' s.heap.objs.size a c _) ?_ ?_ ?_ ?_ ?_ ?_ ?_
  · have e : ((Builtin.Range.rangeSize a b c).toNat : Int) = Builtin.Range.rangeSize a b c := Int.toNat_of_nonneg hpos
    rw [e]
    simp only [Int.ofNat_zero, Int.natCast_zero, Int.zero_mul, Int.add_zero, Int.sub_zero]
    exact Heap.get?_push_size _ rfl
  · intro b hb; rw [List.mem_singleton.mp hb, Heap.size_push]; exact Nat.lt_succ_self _
  · intro b hb; rw [List.mem_singleton.mp hb]; exact fresh_not zok
  · intro b hb; rw [List.mem_singleton.mp hb]; exact none_size _
  · intro i h₁ hst b hb; rw [List.mem_singleton.mp hb]; exact ⟨_, hst⟩
  · rintro i d v hd ⟨t, rfl⟩
    simp only [rngInts, List.getElem?_map, Option.map_eq_some_iff] at hd
    obtain ⟨j, hj, rfl⟩ := hd
    obtain rfl : i = j := by
      rw [List.getElem?_range (by
        have := (List.getElem?_eq_some_iff.mp hj).1
        simpa using this)] at hj
      exact Option.some.inj hj
    exact .int _ _
  · rintro i h₁ v A' tgt tk' s₁ Q' E' ho' rfl hq
    exact letOwned_cls ho' rfl (by decide) hq

theorem EvIter.lst {e : Expr} {ds : List D} (h : Ev U k σ m e (.lst ds)) : EvIter U k σ m e ds := fun A env Z s f X K E hK =>
  h A env Z s f X _ E fun v h' tk hk r => hK v h' tk hk fun A' hh' => iters_lst (zok_kept X.zok hk) hh' r
theorem EvIter.tup {e : Expr} {ds : List D} (h : Ev U k σ m e (.tup ds)) : EvIter U k σ m e ds := fun A env Z s f X K E hK =>
  h A env Z s f X _ E fun v h' tk hk r => hK v h' tk hk fun A' hh' => iters_tup (zok_kept X.zok hk) hh' r
theorem EvIter.rng {e : Expr} {a b c : Int} (h : Ev U k σ m e (.rng a b c)) (hsmall : Builtin.Range.small a b c = true) (hpos : 0 ≤ Builtin.Range.rangeSize a b c) : EvIter U k σ m e (rngInts a b c) := fun A env Z s f X K E hK =>
  h A env Z s f X _ E fun v h' tk hk r => hK v h' tk hk fun A' hh' => iters_rng (zok_kept X.zok hk) hh' r hsmall hpos
end
end Mine

namespace Mine

section
variable {prog : Program} {w : World} {A : Around} {R : Result → Shared → Prop} {s : Shared}
/-- what a comprehension's tests have to bring: there is none, or there is one -/
def TestWp (M : Model) (A : Around) (env : Env) (Q : Bool → Shared → Prop) (E : Value → Shared → Prop) (s : Shared) : List Expr → Prop
  | [] => Q true s
  | [c] => wpAny M A (isTrue c env (eval c env)) Q E s
  | _ => False
/-- a comprehension's loop with one test at most: the kit's two rules under one roof -/
theorem loop_any {elt target iter : Expr} {ifs : List Expr} {scope : Scope} {pos : Pos} {it acc : Value} {env : Env} (hone : ifs.length ≤ 1) (I : Nat → Shared → Prop)
    (turn : ∀ n s, I n s → ∀ E, wpAny (model prog w) A (pyNext it) (fun r s₁ => match r with
      | none => R (.ok .next) s₁
      | some v => wpAny (model prog w) A (letOwnedTupleGo target it v) (fun _ s₂ => wpAny (model prog w) A (assign target env v) (fun _ s₃ =>
          TestWp (model prog w) A env (fun keep s₄ => if keep = true then wpAny (model prog w) A (eval elt env) (fun x s₅ => wpAny (model prog w) A (call (.builtin "list.append") [acc, x]) (fun _ s₆ => ∃ m, m < n ∧ I m s₆) E s₅) E s₄
            else ∃ m, m < n ∧ I m s₄) E s₃ ifs) E s₂) E s₁) E s)
    (n : Nat) (h : I n s) : codeAny (model prog w) A (.compLoop (.ListComp elt [⟨target, iter, ifs, 0⟩] scope pos) 0 it acc env) R s := by
  match ifs, hone with
  | [], _ => exact kcp_loop I (fun n s hI => wpAny_mono (turn n s hI _) (fun r _ hr => by cases r <;> exact hr) fun _ _ e => e) n h
  | [c], _ => exact kct_loop I (fun n s hI => wpAny_mono (turn n s hI _) (fun r _ hr => by cases r <;> exact hr) fun _ _ e => e) n h
  | _ :: _ :: _, hone => exact absurd hone (by simp only [List.length_cons]; omega)
end

theorem cellsFrom_app : ∀ (names : List (PySem.Str × NameKind)) (n : Nat) (acc : List (PySem.Str × Addr)), cellsFrom n names acc = cellsFrom n names [] ++ acc
  | [], _, acc => by simp [cellsFrom]
  | (x, kd) :: r, n, acc => by
    unfold cellsFrom
    split
    · rw [cellsFrom_app r (n + 1) ((x, n) :: acc), cellsFrom_app r (n + 1) [(x, n)]]; simp
    · exact cellsFrom_app r n acc

/-- the env in which a comprehension's parts are read -/
def innerEnv (scope : Scope) (cl : List (PySem.Str × Addr)) (C : Addr) (env : Env) : Env := compEnvC scope (cellsFrom (C + 1) scope.names [] ++ cl) C env

section
variable {M : Model} {A : Around} {E : Value → Shared → Prop} {s : Shared}
theorem newEnv_inner {scope : Scope} {cl : List (PySem.Str × Addr)} {env : Env} {Q : Env → Shared → Prop}
    (h : Q (newEnv scope s.heap.objs.size env.globals (cellsFrom (s.heap.objs.size + 1) scope.names [] ++ cl) env.qual none .none (some env) builtinsNs)
      { s with heap := pushCells (s.heap.push { cls := .type "dict", data := .dict #[] }) scope.names }) :
    wpAny M A (newFunctionEnv scope env.globals cl [] env.qual none .none (some env)) Q E s := by
  simp only [newFunctionEnv, Option.isSome_some, if_true]
  refine wpAny_bind (wpAny_alloc ?_)
  refine wpAny_bind (wpAny_layCells _ (fun name kind cells => by cases kind == NameKind.cell <;> simp) _ _ _ _ ?_)
  rw [show ({ s with heap := s.heap.push { cls := .type "dict", data := .dict #[] } } : Shared).heap.objs.size = s.heap.objs.size + 1 from Heap.size_push .., cellsFrom_app]
  simp only [List.forIn_nil]
  exact wpAny_bind (wpAny_pure (wpAny_pure h))
end

/-- what holds of a comprehension's own names -/
structure InnerAt (scope : Scope) (cenv : Env) (h : Heap) : Prop where
  kind : cenv.scope.kind = .function
  ns : ∃ mm, h.Ns cenv.locals mm
  cell : ∀ n c, (n, c) ∈ cellsFrom (cenv.locals + 1) scope.names [] → ∃ v, h.IsCell c v
  above : ∀ n c, (n, c) ∈ cellsFrom (cenv.locals + 1) scope.names [] → cenv.locals < c
  apart : (cellsFrom (cenv.locals + 1) scope.names []).Pairwise fun x y => x.2 ≠ y.2
  kinds : ∀ x kd, scope.names.lookup x = some kd → kd ≠ .free → cenv.kindOf x = some kd
  cells : ∀ x c, (cellsFrom (cenv.locals + 1) scope.names []).lookup x = some c → cenv.cells.lookup x = some c
def ownAt (scope : Scope) (C b : Addr) : Prop := b = C ∨ ∃ n, (n, b) ∈ cellsFrom (C + 1) scope.names []
theorem InnerAt.kept {scope : Scope} {cenv : Env} {h h' : Heap} (X : InnerAt scope cenv h) (hk : ∀ b o, ownAt scope cenv.locals b → h.get? b = some o → h'.get? b = some o) : InnerAt scope cenv h' :=
  ⟨X.kind, let ⟨mm, hn⟩ := X.ns; ⟨mm, hn.at' fun o e => hk _ o (.inl rfl) e⟩, fun n c hc => let ⟨v, o, ho, hd⟩ := X.cell n c hc; ⟨v, o, hk c o (.inr ⟨n, hc⟩) ho, hd⟩, X.above, X.apart, X.kinds, X.cells⟩

/-- what a target binds -/
def TgtOk (U : Uni) (k : Nat) (scope : Scope) (target : Expr) (bindD : D → PySem.Str → Option D) (ok : D → Prop) : Prop :=
  ∀ (A : Around) (cenv : Env) (s : Shared) (v : Value) (d : D) (Z : Addr → Prop), Fit k A → InnerAt scope cenv s.heap → (∀ b, ownAt scope cenv.locals b → Z b) → ok d → Rep Z s.heap v d →
    ∀ (Q : Unit → Shared → Prop) (E : Value → Shared → Prop),
      (∀ h' tk, InnerAt scope cenv h' → (∀ b o, ¬ ownAt scope cenv.locals b → s.heap.get? b = some o → h'.get? b = some o) →
        (∀ y d', bindD d y = some d' → (y == ("__debug__" : PySem.Str)) = false ∧ ∃ v', Held cenv h' y v' ∧ Rep Z h' v' d') → Q () { s with heap := h', toks := tk }) →
      wpAny (model U.prog U.w) A (assign target cenv v) Q E s

def bind1 (x : PySem.Str) (d : D) (y : PySem.Str) : Option D := if y = x then some d else none

section
variable {U : Uni} {k : Nat} {σ : Scope} {m : PySem.Str → Option D}
theorem tgt_local {scope : Scope} {x : PySem.Str} {px : Pos} (hx : scope.names.lookup x = some .local) (hd : (x == ("__debug__" : PySem.Str)) = false := by decide) : TgtOk U k scope (.Name x px) (bind1 x) (fun _ => True) := fun A cenv s v d Z f X hz _ r Q E hQ => by
  obtain ⟨mm, hn⟩ := X.ns
  have hl : cenv.kindOf x = some .local := X.kinds x .local hx (by decide)
  refine wpAny_assign_Name (wpAny_storeName_local hl hn (fun h' hn' hs' => ?_) (by rw [X.kind]; rfl))
  have hk : ∀ b o, ¬ ownAt scope cenv.locals b → s.heap.get? b = some o → h'.get? b = some o := fun b o hb e => hs'.extBut b o (fun e' => hb (.inl e')) e
  refine hQ h' _ ⟨X.kind, ⟨_, hn'⟩, fun n c hc => ?_, X.above, X.apart, X.kinds, X.cells⟩ hk fun y d' hy => ?_
  · obtain ⟨v', hv'⟩ := X.cell n c hc
    exact ⟨v', hv'.sameBut hs' (Nat.ne_of_gt (X.above n c hc))⟩
  · unfold bind1 at hy
    split at hy
    · rename_i e; subst e; cases hy
      exact ⟨hd, v, .inl ⟨hl, _, hn', by simp⟩, r.mono fun b o hz' e => ⟨hz', hk b o (fun h => hz' (hz b h)) e⟩⟩
    · cases hy
theorem tgt_cell {scope : Scope} {x : PySem.Str} {px : Pos} (hx : scope.names.lookup x = some .cell) (hc : ∀ C, ∃ c, (cellsFrom (C + 1) scope.names []).lookup x = some c) (hd : (x == ("__debug__" : PySem.Str)) = false := by decide) : TgtOk U k scope (.Name x px) (bind1 x) (fun _ => True) := fun A cenv s v d Z f X hz _ r Q E hQ => by
  obtain ⟨c, hlc⟩ := hc cenv.locals
  have hmem := PySem.mem_of_lookup hlc
  obtain ⟨v₀, hv₀⟩ := X.cell x c hmem
  have hl : cenv.kindOf x = some .cell := X.kinds x .cell hx (by decide)
  refine wpAny_assign_Name (wpAny_storeName_cell X.kind hl (X.cells x c hlc) hv₀ fun h' hc' hs' => ?_)
  have hk : ∀ b o, ¬ ownAt scope cenv.locals b → s.heap.get? b = some o → h'.get? b = some o := fun b o hb e => hs'.extBut b o (fun e' => hb (.inr ⟨x, e' ▸ hmem⟩)) e
  obtain ⟨mm, hn⟩ := X.ns
  refine hQ h' _ ⟨X.kind, ⟨mm, hn.sameBut hs' (Nat.ne_of_lt (X.above x c hmem))⟩, fun n c' hc'' => ?_, X.above, X.apart, X.kinds, X.cells⟩ hk fun y d' hy => ?_
  · by_cases e : c' = c
    · exact ⟨some v, e ▸ hc'⟩
    · obtain ⟨v', hv'⟩ := X.cell n c' hc''
      exact ⟨v', hv'.sameBut hs' e⟩
  · unfold bind1 at hy
    split at hy
    · rename_i e; subst e; cases hy
      exact ⟨hd, v, .inr ⟨.inl hl, c, X.cells _ c hlc, hc'⟩, r.mono fun b o hz' e => ⟨hz', hk b o (fun h => hz' (hz b h)) e⟩⟩
    · cases hy
end

def relabelS (scope σ : Scope) : Scope :=
  { scope with names := scope.names.map fun (n, kd) => if (kd == .free && σ.kind == .function && σ.names.lookup n == some .cell) then (n, .cell) else (n, kd) }
theorem relabel_eq (scope : Scope) (env : Env) : relabel scope env = relabelS scope env.scope := rfl

theorem lookup_map_kind (g : PySem.Str → NameKind → NameKind) : ∀ (names : List (PySem.Str × NameKind)) (x : PySem.Str) (kd : NameKind), names.lookup x = some kd → (names.map fun p => (p.1, g p.1 p.2)).lookup x = some (g x kd)
  | [], _, _, h => by simp at h
  | (n, k0) :: r, x, kd, h => by
    rw [List.map_cons, List.lookup_cons]
    rw [List.lookup_cons] at h
    cases hx : x == n with
    | true => rw [hx] at h; cases h; rw [beq_iff_eq.mp hx]
    | false => rw [hx] at h; exact lookup_map_kind g r x kd h

theorem relabelS_lookup {scope σ : Scope} {x : PySem.Str} {kd : NameKind} (h : scope.names.lookup x = some kd) :
    (relabelS scope σ).names.lookup x = some (if (kd == .free && σ.kind == .function && σ.names.lookup x == some .cell) then .cell else kd) := by
  have e : (relabelS scope σ).names = scope.names.map fun p => (p.1, if (p.2 == .free && σ.kind == .function && σ.names.lookup p.1 == some .cell) then .cell else p.2) := by
    unfold relabelS
    simp only
    congr 1
    funext p
    split <;> simp_all
  rw [e]
  exact lookup_map_kind (fun n k0 => if (k0 == .free && σ.kind == .function && σ.names.lookup n == some .cell) then .cell else k0) _ _ _ h

theorem mem_cellsFrom : ∀ {names : List (PySem.Str × NameKind)} {n : Nat} {y : PySem.Str} {c : Addr}, (y, c) ∈ cellsFrom n names [] → (y, NameKind.cell) ∈ names
  | [], _, _, _, h => by simp [cellsFrom] at h
  | (x, kd) :: r, n, y, c, h => by
    unfold cellsFrom at h
    split at h
    · rename_i hk
      rw [cellsFrom_app] at h
      rcases List.mem_append.mp h with h | h
      · exact List.mem_cons_of_mem _ (mem_cellsFrom h)
      · obtain ⟨rfl, rfl⟩ := Prod.mk.inj (List.mem_singleton.mp h)
        rw [beq_iff_eq.mp hk]; exact List.mem_cons_self
    · exact List.mem_cons_of_mem _ (mem_cellsFrom h)
theorem lookup_none_of {α : Type} : ∀ {l : List (PySem.Str × α)} {y : PySem.Str}, (∀ c, (y, c) ∉ l) → l.lookup y = none
  | [], _, _ => rfl
  | (x, v) :: r, y, h => by
    rw [List.lookup_cons]
    cases hx : y == x with
    | true => exact absurd (by rw [beq_iff_eq.mp hx]; exact List.mem_cons_self) (h v)
    | false => exact lookup_none_of fun c hc => h c (List.mem_cons_of_mem _ hc)

/-- a look at a comprehension's scope: its locals are told once, its free names are the outer's cells -/
def scopeOk (scope σ : Scope) : Bool :=
  scope.kind == .function && scope.names.all fun p =>
    (p.2 != .local || scope.names.lookup p.1 == some .local) &&
    (p.2 != .free || (scope.names.lookup p.1 == some .free && (σ.names.lookup p.1 == some .cell || σ.names.lookup p.1 == some .free) && p.1 != ("__classdict__" : PySem.Str) && scope.names.all fun q => q.1 != p.1 || q.2 != .cell))

/-- what a comprehension's parts see -/
def inn (m : PySem.Str → Option D) (scope : Scope) (b : PySem.Str → Option D) (y : PySem.Str) : Option D :=
  match b y with
  | some d => some d
  | none => if scope.names.lookup y == some .free then m y else none

def EvIfs (U : Uni) (k : Nat) (σ : Scope) (m : PySem.Str → Option D) : List Expr → Bool → Prop
  | [], b => b = true
  | [c], b => EvT U k σ m c b
  | _, _ => False

theorem closure_ok {scope : Scope} {env : Env} (h : ∀ y, (y, NameKind.free) ∈ scope.names → ∃ c, env.cells.lookup y = some c) :
    ∃ cl, closureFor scope env = pure cl ∧ ∀ y, (y, NameKind.free) ∈ scope.names → cl.lookup y = env.cells.lookup y := by
  have gen : ∀ (names : List (PySem.Str × NameKind)) (acc : List (PySem.Str × Addr)), (∀ y, (y, NameKind.free) ∈ names → ∃ c, env.cells.lookup y = some c) → (∀ y c, acc.lookup y = some c → env.cells.lookup y = some c) →
      ∃ cl, (forIn names acc fun (x : PySem.Str × NameKind) (cs : List (PySem.Str × Addr)) => (if x.2 == NameKind.free then (do let c ← cellOf env x.1; pure (ForInStep.yield ((x.1, c) :: cs))) else pure (ForInStep.yield cs) : Sem (ForInStep (List (PySem.Str × Addr))))) = pure cl ∧
        (∀ y c, cl.lookup y = some c → env.cells.lookup y = some c) ∧ (∀ y, (y, NameKind.free) ∈ names ∨ (acc.lookup y).isSome = true → (cl.lookup y).isSome = true) := by
    intro names
    induction names with
    | nil => intro acc _ ha; exact ⟨acc, by rw [List.forIn_nil], ha, fun y hy => hy.elim (fun h => by simp at h) id⟩
    | cons x r ih =>
      obtain ⟨n, kd⟩ := x
      intro acc hf ha
      rw [List.forIn_cons]
      by_cases hk : (kd == NameKind.free) = true
      · have hk' : kd = .free := beq_iff_eq.mp hk
        obtain ⟨c, hc⟩ := hf n (by rw [hk']; exact List.mem_cons_self)
        have hco : cellOf env n = pure c := by unfold cellOf; rw [hc]
        obtain ⟨cl, e, h1, h2⟩ := ih ((n, c) :: acc) (fun y hy => hf y (List.mem_cons_of_mem _ hy)) (fun y c' hy => by
          rw [List.lookup_cons] at hy
          cases hb : y == n with
          | true => rw [hb] at hy; cases hy; rw [beq_iff_eq.mp hb]; exact hc
          | false => rw [hb] at hy; exact ha y c' hy)
        refine ⟨cl, ?_, h1, fun y hy => h2 y ?_⟩
        · simp only [hk, if_true, hco, pure_bind]; exact e
        · rcases hy with hy | hy
          · rcases List.mem_cons.mp hy with e' | hy
            · cases e'; exact .inr (by simp [List.lookup_cons])
            · exact .inl hy
          · refine .inr ?_
            rw [List.lookup_cons]
            cases hb : y == n with
            | true => rfl
            | false => exact hy
      · obtain ⟨cl, e, h1, h2⟩ := ih acc (fun y hy => hf y (List.mem_cons_of_mem _ hy)) ha
        refine ⟨cl, ?_, h1, fun y hy => h2 y ?_⟩
        · simp only [hk, Bool.false_eq_true, if_false, pure_bind]; exact e
        · rcases hy with hy | hy
          · rcases List.mem_cons.mp hy with e' | hy
            · cases e'; exact absurd rfl hk
            · exact .inl hy
          · exact .inr hy
  obtain ⟨cl, e, h1, h2⟩ := gen scope.names [] h (fun y c hy => by simp at hy)
  refine ⟨cl, ?_, fun y hy => ?_⟩
  · unfold closureFor
    have e' : (forIn scope.names ([] : List (PySem.Str × Addr)) fun x r =>
        (match x with
        | (name, kind) => if (kind == NameKind.free) = true then (do let c ← cellOf env name; pure (ForInStep.yield ((name, c) :: r))) else pure (ForInStep.yield r) : Sem (ForInStep (List (PySem.Str × Addr))))) = pure cl := e
    simp only [e', pure_bind]
  · obtain ⟨c, hc⟩ := Option.isSome_iff_exists.mp (h2 y (.inl hy))
    rw [hc, h1 y c hc]
end Mine

namespace Mine

section
variable {U : Uni} {k : Nat} {σ : Scope} {m : PySem.Str → Option D} {A : Around} {Z : Addr → Prop}

theorem scopeOk_kind {scope σ : Scope} (h : scopeOk scope σ = true) : scope.kind = .function := beq_iff_eq.mp (Bool.and_eq_true_iff.mp h).1
theorem scopeOk_local {scope σ : Scope} (h : scopeOk scope σ = true) : ∀ y ∈ scope.names, y.2 = .local → scope.names.lookup y.1 = some .local := fun y hy hl => by
  have := (Bool.and_eq_true_iff.mp (List.all_eq_true.mp (Bool.and_eq_true_iff.mp h).2 y hy)).1
  simpa [hl] using this
theorem scopeOk_free {scope σ : Scope} (h : scopeOk scope σ = true) {y : PySem.Str} (hy : (y, NameKind.free) ∈ scope.names) :
    scope.names.lookup y = some .free ∧ (σ.names.lookup y = some .cell ∨ σ.names.lookup y = some .free) ∧ (y == ("__classdict__" : PySem.Str)) = false ∧ ∀ C, (cellsFrom (C + 1) scope.names []).lookup y = none := by
  have := (Bool.and_eq_true_iff.mp (List.all_eq_true.mp (Bool.and_eq_true_iff.mp h).2 _ hy)).2
  simp only [bne_self_eq_false, Bool.false_or, Bool.and_eq_true, Bool.or_eq_true, beq_iff_eq, bne_iff_ne, ne_eq, List.all_eq_true] at this
  obtain ⟨⟨⟨h1, h2⟩, h3⟩, h4⟩ := this
  refine ⟨h1, h2, beq_eq_false_iff_ne.mpr h3, fun C => lookup_none_of fun c hc => ?_⟩
  have := h4 _ (mem_cellsFrom hc)
  simp at this

theorem comp_core {elt target iter : Expr} {ifs : List Expr} {scope : Scope} {pos : Pos} {s₂ : Shared} {h₀ : Heap} {I : Addr} {fp wr : List Addr} {P : Nat → Value → Prop} {St : Nat → Heap → Prop} {env : Env} {cl : List (PySem.Str × Addr)} {E : Value → Shared → Prop}
    {items : List D} {keep : D → Bool} {out : D → D} {bindD : D → PySem.Str → Option D} {ok : D → Prop} {RR : Value → Addr → Result → Shared → Prop}
    (hone : ifs.length ≤ 1) (f : Fit k A) (X : EnvAt U σ m Z env h₀) (hk₀ : Kept h₀ s₂.heap) (W : Walks U.prog U.w A I fp wr items.length P St) (hst : St 0 s₂.heap) (hfp : ∀ b ∈ fp, b < s₂.heap.objs.size) (hwr : ∀ b ∈ wr, h₀.get? b = none)
    (hex : ∀ i h₁, St i h₁ → ∀ b ∈ wr, ∃ o, h₁.get? b = some o) (hP : ∀ i d v, items[i]? = some d → P i v → Rep (fun b => Z b ∨ b ∈ wr) s₂.heap v d)
    (hlet : ∀ i h₁ v (A' : Around) tgt tk' s₁ (Q' : Unit → Shared → Prop) (E' : Value → Shared → Prop), St i h₁ → s₁ = { s₂ with heap := h₁, toks := tk' } → Q' () s₁ → wpAny (model U.prog U.w) A' (letOwnedTupleGo tgt (.ref I) v) Q' E' s₁)
    (hsz : items.length ≤ sizeLine) (hsc : scopeOk scope σ = true) (hcl : ∀ y, (y, NameKind.free) ∈ scope.names → cl.lookup y = env.cells.lookup y)
    (htgt : TgtOk U k scope target bindD ok) (hok : ∀ d ∈ items, ok d)
    (htest : ∀ d ∈ items, EvIfs U k (relabelS scope σ) (inn m scope (bindD d)) ifs (keep d)) (helt : ∀ d ∈ items, keep d = true → Ev U k (relabelS scope σ) (inn m scope (bindD d)) elt (out d))
    (hRR : ∀ Dd C h' tk m', h₀.get? Dd = none → h₀.get? C = none → Dd ≠ C → h'.Ns C m' → Rep (fun b => Z b ∨ b = C) h' (.ref Dd) (.lst ((items.filter keep).map out)) → Kept h₀ h' → RR (.ref Dd) C (.ok .next) { s₂ with heap := h', toks := tk }) :
    wpAny (model U.prog U.w) A (newList []) (fun acc s₃ => wpAny (model U.prog U.w) A (newFunctionEnv scope env.globals cl [] env.qual none .none (some env)) (fun cenv s₄ =>
      codeAny (model U.prog U.w) A (.compStart (.ListComp elt [⟨target, iter, ifs, 0⟩] scope pos) 0 (.ref I) acc { cenv with scope := relabel scope env }) (RR acc cenv.locals) s₄) E s₃) E s₂ := by
  have hkind := scopeOk_kind hsc
  refine wpAny_newObj_type (newEnv_inner ?_)
  dsimp only
  -- the new objects
  generalize hH3 : s₂.heap.push { cls := .type "list", dict := none, data := .seq ([] : List Value).toArray } = H3
  have hC : H3.objs.size = s₂.heap.objs.size + 1 := by rw [← hH3, Heap.size_push]
  generalize hDd : s₂.heap.objs.size = Dd at hC
  generalize hCe : H3.objs.size = C at hC
  have ck := cellsFrom_ok scope.names (H3.push { cls := .type "dict", data := .dict #[] }) (C + 1) [] ⟨fun _ _ hm => (nomatch hm), List.Pairwise.nil⟩ (by rw [Heap.size_push, hCe]; exact Nat.le_refl _)
  rw [Heap.size_push, hCe] at ck
  generalize hH4 : pushCells (H3.push { cls := .type "dict", data := .dict #[] }) scope.names = H4 at ck
  have k34 : Kept H3 H4 := fun b o e => hH4 ▸ pushCells_keeps _ _ b o (Heap.get?_push_of_some _ e)
  have k24 : Kept s₂.heap H4 := fun b o e => k34 b o (hH3 ▸ Heap.get?_push_of_some _ e)
  have hlt2 : ∀ (b : Nat) o, s₂.heap.get? b = some o → @LT.lt Nat _ b Dd := fun b o e => hDd ▸ Heap.lt_size e
  have hownge : ∀ (b : Nat), ownAt scope C b → @LT.lt Nat _ Dd b := fun b hb => by
    rcases hb with rfl | ⟨n, hn⟩
    · omega
    · have : @LE.le Nat _ (C + 1) b := (ck.empty n b hn).2
      omega
  let cenv : Env := innerEnv scope cl C env
  have hacc4 : H4.PlainList Dd #[] := ⟨0, k34 _ _ (by rw [← hH3, ← hDd]; exact Heap.get?_push_size _ rfl)⟩
  have hns4 : H4.Ns C (fun _ => none) := by
    have : (H3.push { cls := .type "dict", data := .dict #[] }).Ns H3.objs.size (fun _ => none) := Heap.Ns.new H3 (.type "dict")
    rw [hCe] at this
    exact this.keeps fun b o e => hH4 ▸ pushCells_keeps _ _ b o e
  have hinn4 : InnerAt scope cenv H4 := by
    refine ⟨hkind, ⟨_, hns4⟩, fun n c hc => ⟨_, (ck.empty n c hc).1⟩, fun n c hc => (ck.empty n c hc).2, ck.apart, fun x kd hx hne => ?_, fun x c hx => ?_⟩
    · show (relabelS scope env.scope).names.lookup x = some kd
      rw [relabelS_lookup hx]
      have : (kd == NameKind.free) = false := by simpa using hne
      simp [this]
    · show (cellsFrom (C + 1) scope.names [] ++ cl).lookup x = some c
      have hx' : (cellsFrom (C + 1) scope.names []).lookup x = some c := hx
      rw [List.lookup_append, hx']; rfl
  -- the places that may change while the loop runs
  let Z' : Addr → Prop := fun b => (Z b ∨ b ∈ wr) ∨ ownAt scope C b ∨ b = Dd
  have hfp' : ∀ (b : Nat), b ∈ fp → @LT.lt Nat _ b Dd := fun b hb => hDd ▸ hfp b hb
  have hDf : Dd ∉ fp := fun h => by have := hfp' _ h; omega
  have hOf : ∀ b, ownAt scope C b → b ∉ fp := fun b hb h => by have h1 := hfp' _ h; have h2 := hownge b hb; omega
  have hwf := W.sub
  have stay : ∀ h' : Heap, (∀ b o, ¬ ownAt scope C b → b ∉ wr → b ≠ Dd → s₂.heap.get? b = some o → h'.get? b = some o) → ∀ b o, b ∉ wr → s₂.heap.get? b = some o → h'.get? b = some o :=
    fun h' hk b o hb e => hk b o (fun hO => by have h1 := hlt2 b o e; have h2 := hownge b hO; omega) hb (Nat.ne_of_lt (hlt2 b o e)) e
  have stay0 : ∀ h' : Heap, (∀ b o, ¬ ownAt scope C b → b ∉ wr → b ≠ Dd → s₂.heap.get? b = some o → h'.get? b = some o) → Kept h₀ h' :=
    fun h' hk b o e => stay h' hk b o (fun hw => by rw [hwr b hw] at e; exact nomatch e) (hk₀ b o e)
  have loop : ∀ s₃ : Shared, s₃ = { s₂ with heap := H4 } → codeAny (model U.prog U.w) A (.compLoop (.ListComp elt [⟨target, iter, ifs, 0⟩] scope pos) 0 (.ref I) (.ref Dd) cenv) (RR (.ref Dd) C) s₃ := by
    rintro s₃ rfl
    refine loop_any hone (fun n s' => ∃ h' tk ys i, s' = { s₂ with heap := h', toks := tk } ∧ i ≤ items.length ∧ n = items.length + 1 - i ∧ St i h' ∧ h'.PlainList Dd ys ∧ InnerAt scope cenv h' ∧
      RepAll Z' h' ys.toList (((items.take i).filter keep).map out) ∧ (∀ b o, ¬ ownAt scope C b → b ∉ wr → b ≠ Dd → s₂.heap.get? b = some o → h'.get? b = some o)) ?_ (items.length + 1)
      ⟨H4, s₂.toks, #[], 0, rfl, Nat.zero_le _, rfl, W.frame _ _ _ hst fun b _ o e => k24 b o e, hacc4, hinn4, by simpa using RepAll.nil, fun b o _ _ _ e => k24 b o e⟩
    rintro n s' ⟨h', tk, ys, i, rfl, hi, rfl, hsti, hacc, hinn, hrep, hk⟩ E'
    by_cases hlt : i < items.length
    · -- one more item
      refine W.item i _ _ _ hlt hsti fun v h₁ tk₁ hPv hst₁ hk₁ => ?_
      refine hlet (i + 1) h₁ v A target tk₁ _ _ _ hst₁ rfl ?_
      have hid : items[i]? = some items[i] := List.getElem?_eq_getElem hlt
      have hmem : items[i] ∈ items := List.getElem_mem hlt
      have hk1 : ∀ b o, ¬ ownAt scope C b → b ∉ wr → b ≠ Dd → s₂.heap.get? b = some o → h₁.get? b = some o := fun b o a1 a2 a3 e => hk₁ b o a2 (hk b o a1 a2 a3 e)
      have up : ∀ {v : Value} {d : D}, Rep (fun b => Z b ∨ b ∈ wr) s₂.heap v d → ∀ h'' : Heap, (∀ b o, ¬ ownAt scope C b → b ∉ wr → b ≠ Dd → s₂.heap.get? b = some o → h''.get? b = some o) → Rep Z' h'' v d := fun r h'' hk'' =>
        r.mono fun b o hz e => by
          have h1 := hlt2 b o e
          have h2 : ¬ ownAt scope C b := fun hO => by have := hownge b hO; omega
          have h3 : b ≠ Dd := Nat.ne_of_lt h1
          exact ⟨fun hc => hc.elim hz fun hc => hc.elim h2 h3, hk'' b o h2 (fun hw => hz (.inr hw)) h3 e⟩
      have hinn1 : InnerAt scope cenv h₁ := hinn.kept fun b o hb e => hk₁ b o (fun hw => hOf b hb (hwf b hw)) e
      have r1 : Rep Z' h₁ v items[i] := up (hP i _ v hid hPv) h₁ hk1
      refine htgt A cenv _ v items[i] Z' f hinn1 (fun b hb => .inr (.inl hb)) (hok _ hmem) r1 _ _ fun h₂ tk₂ hinn2 hk2 hvars => ?_
      have hk2' : ∀ b o, ¬ ownAt scope C b → b ∉ wr → b ≠ Dd → s₂.heap.get? b = some o → h₂.get? b = some o := fun b o a1 a2 a3 e => hk2 b o a1 (hk1 b o a1 a2 a3 e)
      have hDown : ¬ ownAt scope C Dd := fun h => by have := hownge _ h; omega
      have hDwr : Dd ∉ wr := fun h => hDf (hwf _ h)
      have hacc2 : h₂.PlainList Dd ys := (hacc.at fun o e => hk₁ Dd o hDwr e).at fun o e => hk2 Dd o hDown e
      have hst2 : St (i + 1) h₂ := W.frame _ _ _ hst₁ fun b hb o e => hk2 b o (fun hO => hOf b hO hb) e
      have zok2 : ∀ b, Z' b → ∃ o, h₂.get? b = some o := fun b hb => by
        rcases hb with (hb | hb) | hb | rfl
        · obtain ⟨o, e⟩ := X.zok b hb
          exact ⟨o, stay0 h₂ hk2' b o e⟩
        · exact hex _ _ hst2 b hb
        · rcases hb with rfl | ⟨n, hn⟩
          · obtain ⟨mm, o, _, _, e, _⟩ := hinn2.ns; exact ⟨o, e⟩
          · obtain ⟨v, o, e, _⟩ := hinn2.cell n b hn; exact ⟨o, e⟩
        · obtain ⟨n, e⟩ := hacc2; exact ⟨_, e⟩
      have X2 : EnvAt U (relabelS scope σ) (inn m scope (bindD items[i])) Z' cenv h₂ := by
        refine ⟨X.gl.kept (stay0 h₂ hk2'), ?_, ?_, X.glob, X.blt, zok2, fun y d hy => ?_⟩
        · show relabelS scope env.scope = _; rw [X.scope]
        · show scope.kind = _; exact hkind
        · unfold inn at hy
          split at hy
          · rename_i d' hb; cases hy; exact hvars y _ hb
          · split at hy
            · rename_i hfr
              have hfr' : scope.names.lookup y = some .free := by simpa using hfr
              have hmemf := PySem.mem_of_lookup hfr'
              obtain ⟨_, hσ, hcd, hown⟩ := scopeOk_free hsc hmemf
              obtain ⟨hdb, v', hv', rv'⟩ := X.vars y d hy
              refine ⟨hdb, v', .inr ⟨?_, ?_⟩, ?_⟩
              · show ((relabelS scope env.scope).names.lookup y = some .cell ∨ ((relabelS scope env.scope).names.lookup y = some .free ∧ _))
                rw [relabelS_lookup hfr']
                by_cases hcx : (NameKind.free == NameKind.free && env.scope.kind == .function && env.scope.names.lookup y == some .cell) = true
                · rw [if_pos hcx]; exact .inl rfl
                · rw [if_neg hcx]; exact .inr ⟨rfl, hcd⟩
              · rcases hv' with ⟨hl, _⟩ | ⟨_, c, hlc, hcell⟩
                · have : σ.names.lookup y = some .local := by rw [← X.scope]; exact hl
                  rcases hσ with h | h <;> rw [h] at this <;> cases this
                · refine ⟨c, ?_, hcell.keeps (stay0 h₂ hk2')⟩
                  show (cellsFrom (C + 1) scope.names [] ++ cl).lookup y = some c
                  rw [List.lookup_append, hown C, Option.none_or, hcl y hmemf]; exact hlc
              · exact rv'.mono fun b o hz e => by
                  have h1 := hlt2 b o (hk₀ b o e)
                  exact ⟨fun hc => hc.elim (fun h => h.elim hz fun hw => by rw [hwr b hw] at e; exact nomatch e) fun h => h.elim (fun hO => by have := hownge b hO; omega) (Nat.ne_of_lt h1), stay0 h₂ hk2' b o e⟩
            · cases hy
      have hrep2 : RepAll Z' h₂ ys.toList (((items.take i).filter keep).map out) := hrep.mono fun b o hz e => ⟨hz, hk2 b o (fun hO => hz (.inr (.inl hO))) (hk₁ b o (fun hw => hz (.inl (.inr hw))) e)⟩
      have htake : items.take (i + 1) = items.take i ++ [items[i]] := (List.take_append_getElem hlt).symm
      -- the tests
      have tests : ∀ (Q'' : Bool → Shared → Prop) (E'' : Value → Shared → Prop), (∀ h' tk', Kept h₂ h' → Q'' (keep items[i]) { s₂ with heap := h', toks := tk' }) → TestWp (model U.prog U.w) A cenv Q'' E'' { s₂ with heap := h₂, toks := tk₂ } ifs := by
        intro Q'' E'' hQ''
        have ht := htest _ hmem
        match ifs, ht with
        | [], ht =>
          have ht' : keep items[i] = true := ht
          rw [ht'] at hQ''
          exact hQ'' h₂ tk₂ (Kept.refl _)
        | [c], ht => exact ht A cenv Z' _ f X2 Q'' E'' hQ''
        | _ :: _ :: _, ht => exact ht.elim
      refine tests _ _ fun h₃ tk₃ hk3 => ?_
      cases hkeep : keep items[i] with
      | false =>
        simp only [Bool.false_eq_true, if_false]
        refine ⟨items.length + 1 - (i + 1), by omega, h₃, tk₃, ys, i + 1, rfl, hlt, rfl, W.frame _ _ _ hst2 fun b _ o e => hk3 b o e, hacc2.at fun o e => hk3 _ o e, hinn2.kept fun b o _ e => hk3 b o e, ?_, fun b o a1 a2 a3 e => hk3 b o (hk2' b o a1 a2 a3 e)⟩
        rw [htake, List.filter_append]
        simp only [List.filter_cons, hkeep, Bool.false_eq_true, if_false, List.filter_nil, List.append_nil]
        exact hrep2.kept hk3
      | true =>
        simp only [if_true]
        refine helt _ hmem hkeep A cenv Z' _ f (X2.kept hk3) _ _ fun y h₄ tk₄ hk4 ry => ?_
        have hacc4 : h₄.PlainList Dd ys := (hacc2.at fun o e => hk3 _ o e).at fun o e => hk4 _ o e
        have hlen : ys.size ≤ sizeLine := by
          have e1 := hrep.1
          have e2 : ((items.take i).filter keep).length ≤ (items.take i).length := List.length_filter_le _ _
          rw [List.length_map, Array.length_toList] at e1
          have e3 : (items.take i).length ≤ items.length := by rw [List.length_take]; omega
          omega
        refine wpAny_list_append_plain (hsz := hlen) hacc4 fun h₅ hacc5 hs5 => ?_
        have k5 : ∀ b o, b ≠ Dd → h₄.get? b = some o → h₅.get? b = some o := fun b o hb e => hs5.extBut b o hb e
        refine ⟨items.length + 1 - (i + 1), by omega, h₅, tk₄, ys.push y, i + 1, rfl, hlt, rfl, W.frame _ _ _ hst2 fun b hb o e => k5 b o (fun e' => hDf (e' ▸ hb)) (hk4 b o (hk3 b o e)), hacc5,
          hinn2.kept fun b o hb e => k5 b o (fun e' => hDown (e' ▸ hb)) (hk4 b o (hk3 b o e)), ?_, fun b o a1 a2 a3 e => k5 b o a3 (hk4 b o (hk3 b o (hk2' b o a1 a2 a3 e)))⟩
        rw [htake, List.filter_append]
        simp only [List.filter_cons, hkeep, if_true, List.filter_nil, List.map_append, List.map_cons, List.map_nil, Array.toList_push]
        have hz5 : ∀ b o, ¬ Z' b → h₄.get? b = some o → ¬ Z' b ∧ h₅.get? b = some o := fun b o hz e => ⟨hz, k5 b o (fun e' => hz (.inr (.inr e'))) e⟩
        exact (((hrep2.kept hk3).kept hk4).mono hz5).append (.cons (ry.mono hz5) .nil)
    · -- the end
      have hin : i = items.length := by omega
      subst hin
      refine W.done _ _ _ hsti fun h₁ tk₁ hk₁ => ?_
      have hDwr : Dd ∉ wr := fun h => hDf (hwf _ h)
      obtain ⟨mm, hn⟩ := hinn.ns
      have hk1 : ∀ b o, ¬ ownAt scope C b → b ∉ wr → b ≠ Dd → s₂.heap.get? b = some o → h₁.get? b = some o := fun b o a1 a2 a3 e => hk₁ b o a2 (hk b o a1 a2 a3 e)
      have hfresh : ∀ b, Dd ≤ b → h₀.get? b = none := fun b hb => by
        cases e : h₀.get? b with
        | none => rfl
        | some o => have := hlt2 b o (hk₀ b o e); omega
      refine hRR Dd C h₁ tk₁ mm (hfresh _ (Nat.le_refl _)) (hfresh _ (hC ▸ Nat.le_succ _)) (Nat.ne_of_lt (hC ▸ Nat.lt_succ_self _)) (hn.at' fun o e => hk₁ _ o (fun hw => hOf C (.inl rfl) (hwf _ hw)) e) ?_ (stay0 h₁ hk1)
      rw [List.take_length] at hrep
      obtain ⟨n, ho⟩ := hacc.at fun o e => hk₁ Dd o hDwr e
      have hrep1 : RepAll Z' h₁ ys.toList ((items.filter keep).map out) := hrep.mono fun b o hz e => ⟨hz, hk₁ b o (fun hw => hz (.inl (.inr hw))) e⟩
      have hZD : ¬ (Z Dd ∨ Dd = C) := fun h => h.elim (fun hz => by obtain ⟨o, e⟩ := X.zok _ hz; rw [hfresh _ (Nat.le_refl _)] at e; exact nomatch e) (Nat.ne_of_lt (by omega))
      refine .lst (vs := ys.toList) (n := n) hZD (by simpa using ho) hrep1.1 fun i v d hv hd => (hrep1.2 i v d hv hd).mono fun b o hz e => ⟨fun hc => hc.elim (fun h => hz (.inl (.inl h))) fun h => hz (.inr (.inl (.inl h))), e⟩
  have henv : ({ newEnv scope C env.globals (cellsFrom (C + 1) scope.names [] ++ cl) env.qual none .none (some env) builtinsNs with scope := relabel scope env } : Env) = cenv := rfl
  have lp := loop _ rfl
  refine codeAny_compStart_list lp ?_
  exact W.self 0 _ _ _ (W.frame _ _ _ hst fun b _ o e => k24 b o e) lp

theorem free_cells {scope : Scope} {env : Env} {h : Heap} (X : EnvAt U σ m Z env h) (hsc : scopeOk scope σ = true) (hm : ∀ y, (y, NameKind.free) ∈ scope.names → ∃ d, m y = some d) :
    ∀ y, (y, NameKind.free) ∈ scope.names → ∃ c, env.cells.lookup y = some c := fun y hy => by
  obtain ⟨_, hσ, _, _⟩ := scopeOk_free hsc hy
  obtain ⟨d, hd⟩ := hm y hy
  obtain ⟨_, v', hv', _⟩ := X.vars y d hd
  rcases hv' with ⟨hl, _⟩ | ⟨_, c, hlc, _⟩
  · have : σ.names.lookup y = some .local := by rw [← X.scope]; exact hl
    rcases hσ with h | h <;> rw [h] at this <;> cases this
  · exact ⟨c, hlc⟩

theorem Ev.comp {elt target iter : Expr} {ifs : List Expr} {scope : Scope} {pos : Pos} {items : List D} {keep : D → Bool} {out : D → D} {bindD : D → PySem.Str → Option D} {ok : D → Prop}
    (hit : EvIter U k σ m iter items) (hsz : items.length ≤ sizeLine) (hsc : scopeOk scope σ = true) (hm : ∀ y, (y, NameKind.free) ∈ scope.names → ∃ d, m y = some d)
    (htgt : TgtOk U k scope target bindD ok) (hok : ∀ d ∈ items, ok d)
    (htest : ∀ d ∈ items, EvIfs U k (relabelS scope σ) (inn m scope (bindD d)) ifs (keep d)) (helt : ∀ d ∈ items, keep d = true → Ev U k (relabelS scope σ) (inn m scope (bindD d)) elt (out d))
    (hs : ∀ env x, foldedSetIterable iter env x = pure x := by intro _ _; rfl) (hone : ifs.length ≤ 1 := by exact Nat.le_of_ble_eq_true rfl) :
    Ev U k σ m (.ListComp elt [⟨target, iter, ifs, 0⟩] scope pos) (.lst ((items.filter keep).map out)) := fun A env Z s f X Q E hQ => by
  obtain ⟨cl, hclos, hcl⟩ := closure_ok (free_cells X hsc hm)
  rw [eval_ListComp]
  refine wpAny_comprehension_free (use := none) rfl (hs env) hclos (scopeOk_kind hsc) (scopeOk_local hsc) ?_
  refine hit A env Z s f X _ E fun v h₁ tk₁ hk₁ its => ?_
  refine its A f.hh _ E fun I fp wr P St h₂ tk₂ hk₂ W hst hfp hfz hwr hex hP hlet => ?_
  refine comp_core (h₀ := h₁) (RR := fun acc C => compPost (model U.prog U.w) A E none Q acc C) hone f (X.kept hk₁) hk₂ (W A f.hh) hst hfp hwr hex hP (fun i h' v A' tgt tk' s₁ Q' E' a1 a2 a3 => hlet i h' v A' tgt tk' s₁ Q' E' a1 a2 a3) hsz hsc hcl htgt hok htest helt ?_
  intro Dd C h' tk m' hD hC hDC hn r hk
  refine ⟨m', hn, fun h'' hs'' => ?_⟩
  have hk' : Kept h₁ h'' := fun b o e => hs''.extBut b o (fun e' => by rw [e', hC] at e; exact nomatch e) (hk b o e)
  exact hQ _ h'' tk (hk₁.trans hk') (r.mono fun b o hz e => ⟨fun hz' => hz (.inl hz'), hs''.extBut b o (fun e' => hz (.inr e')) e⟩)

/-- the free names of a comprehension, each bound outside -/
def freesOf (names : List (PySem.Str × NameKind)) : List PySem.Str := names.filterMap fun p => if p.2 == .free then some p.1 else none
def AllM (m : PySem.Str → Option D) : List PySem.Str → Prop
  | [] => True
  | y :: ys => (∃ d, m y = some d) ∧ AllM m ys
theorem AllM.mem {m : PySem.Str → Option D} : ∀ {ys : List PySem.Str}, AllM m ys → ∀ y ∈ ys, ∃ d, m y = some d
  | _ :: _, h, y, hy => by
    rcases List.mem_cons.mp hy with rfl | hy
    · exact h.1
    · exact AllM.mem h.2 y hy
theorem frees_ok {scope : Scope} {m : PySem.Str → Option D} (h : AllM m (freesOf scope.names)) : ∀ y, (y, NameKind.free) ∈ scope.names → ∃ d, m y = some d := fun y hy =>
  h.mem y (List.mem_filterMap.mpr ⟨_, hy, rfl⟩)
end
end Mine

namespace Mine

def intsD (ns : List Int) : List D := ns.map .int
def strsD (xs : List PySem.Str) : List D := xs.map .str

theorem RepAll.intsAre {Z : Addr → Prop} {h : Heap} : ∀ {vs : List Value} {ns : List Int}, RepAll Z h vs (intsD ns) → IntsAre vs ns
  | [], [], _ => .nil
  | v :: vs, n :: ns, r => by
    have r' : RepAll Z h (v :: vs) (D.int n :: intsD ns) := r
    obtain ⟨t, rfl⟩ := r'.head.int_inv
    exact .cons n t (RepAll.intsAre r'.tail)
  | [], _ :: _, r => by have := r.1; simp [intsD] at this
  | _ :: _, [], r => by have := r.1; simp [intsD] at this
theorem RepAll.strsAre {Z : Addr → Prop} {h : Heap} : ∀ {vs : List Value} {xs : List PySem.Str}, RepAll Z h vs (strsD xs) → StrsAre vs xs
  | [], [], _ => .nil
  | v :: vs, x :: xs, r => by
    have r' : RepAll Z h (v :: vs) (D.str x :: strsD xs) := r
    obtain ⟨t, rfl⟩ := r'.head.str_inv
    exact .cons x t (RepAll.strsAre r'.tail)
  | [], _ :: _, r => by have := r.1; simp [strsD] at this
  | _ :: _, [], r => by have := r.1; simp [strsD] at this
theorem RepAll.one {Z : Addr → Prop} {h : Heap} {vs : List Value} {d : D} (r : RepAll Z h vs [d]) : ∃ v, vs = [v] ∧ Rep Z h v d := by
  match vs, r with
  | [v], r => exact ⟨v, rfl, r.head⟩
  | [], r => have := r.1; simp at this
  | _ :: _ :: _, r => have := r.1; simp at this
theorem RepAll.two {Z : Addr → Prop} {h : Heap} {vs : List Value} {d e : D} (r : RepAll Z h vs [d, e]) : ∃ v u, vs = [v, u] ∧ Rep Z h v d ∧ Rep Z h u e := by
  match vs, r with
  | [v, u], r => exact ⟨v, u, rfl, r.head, r.tail.head⟩
  | [], r => have := r.1; simp at this
  | [_], r => have := r.1; simp at this
  | _ :: _ :: _ :: _, r => have := r.1; simp at this
theorem RepAll.three {Z : Addr → Prop} {h : Heap} {vs : List Value} {d e g : D} (r : RepAll Z h vs [d, e, g]) : ∃ v u w, vs = [v, u, w] ∧ Rep Z h v d ∧ Rep Z h u e ∧ Rep Z h w g := by
  match vs, r with
  | [v, u, w], r => exact ⟨v, u, w, rfl, r.head, r.tail.head, r.tail.tail.head⟩
  | [], r => have := r.1; simp at this
  | [_], r => have := r.1; simp at this
  | [_, _], r => have := r.1; simp at this
  | _ :: _ :: _ :: _ :: _, r => have := r.1; simp at this

section
variable {U : Uni} {k : Nat} {σ : Scope} {m : PySem.Str → Option D} {A : Around} {Z : Addr → Prop} {s : Shared}

theorem Ev.range1 {np pos : Pos} {e : Expr} {n : Int} (h : Ev U k σ m e (.int n)) (hx : σ.names.lookup ("range" : PySem.Str) = some .globalImplicit)
    (hst : ∀ env rest, starEach (e :: rest) env = (false, eval e env) :: starEach rest env := by intro _ _; rfl) : Ev U k σ m (.Call (.Name "range" np) [e] [] pos) (.rng 0 n 1) :=
  Ev.callT (.cons h .nil hst) hx (by decide) boot_range (fun A Z s vs f zok r Q E hQ => by
    obtain ⟨v, rfl, r1⟩ := r.one; obtain ⟨t, rfl⟩ := r1.int_inv
    exact call_range_1 (hQ _ _ _ (Kept.push _ _) (.rng (fresh_not zok) (IsRange.new ..))))
theorem Ev.range2 {np pos : Pos} {e₁ e₂ : Expr} {a b : Int} (h₁ : Ev U k σ m e₁ (.int a)) (h₂ : Ev U k σ m e₂ (.int b)) (hx : σ.names.lookup ("range" : PySem.Str) = some .globalImplicit)
    (hst₁ : ∀ env rest, starEach (e₁ :: rest) env = (false, eval e₁ env) :: starEach rest env := by intro _ _; rfl) (hst₂ : ∀ env rest, starEach (e₂ :: rest) env = (false, eval e₂ env) :: starEach rest env := by intro _ _; rfl) :
    Ev U k σ m (.Call (.Name "range" np) [e₁, e₂] [] pos) (.rng a b 1) :=
  Ev.callT (.cons h₁ (.cons h₂ .nil hst₂) hst₁) hx (by decide) boot_range (fun A Z s vs f zok r Q E hQ => by
    obtain ⟨v, u, rfl, r1, r2⟩ := r.two; obtain ⟨t, rfl⟩ := r1.int_inv; obtain ⟨t', rfl⟩ := r2.int_inv
    exact call_range_2 (hQ _ _ _ (Kept.push _ _) (.rng (fresh_not zok) (IsRange.new ..))))
theorem Ev.range3 {np pos : Pos} {e₁ e₂ e₃ : Expr} {a b c : Int} (h₁ : Ev U k σ m e₁ (.int a)) (h₂ : Ev U k σ m e₂ (.int b)) (h₃ : Ev U k σ m e₃ (.int c)) (hc : c ≠ 0) (hc' : c.natAbs < 1073741824) (hx : σ.names.lookup ("range" : PySem.Str) = some .globalImplicit)
    (hst₁ : ∀ env rest, starEach (e₁ :: rest) env = (false, eval e₁ env) :: starEach rest env := by intro _ _; rfl) (hst₂ : ∀ env rest, starEach (e₂ :: rest) env = (false, eval e₂ env) :: starEach rest env := by intro _ _; rfl)
    (hst₃ : ∀ env rest, starEach (e₃ :: rest) env = (false, eval e₃ env) :: starEach rest env := by intro _ _; rfl) :
    Ev U k σ m (.Call (.Name "range" np) [e₁, e₂, e₃] [] pos) (.rng a b c) :=
  Ev.callT (.cons h₁ (.cons h₂ (.cons h₃ .nil hst₃) hst₂) hst₁) hx (by decide) boot_range (fun A Z s vs f zok r Q E hQ => by
    obtain ⟨v, u, w', rfl, r1, r2, r3⟩ := r.three; obtain ⟨t, rfl⟩ := r1.int_inv; obtain ⟨t', rfl⟩ := r2.int_inv; obtain ⟨t'', rfl⟩ := r3.int_inv
    exact call_range_3 hc (hQ _ _ _ (Kept.push _ _) (.rng (fresh_not zok) (IsRange.new ..))) (.inl (PyProof.noPylong_small hc')))

theorem Ev.lenLst {np pos : Pos} {e : Expr} {ds : List D} (h : Ev U k σ m e (.lst ds)) (hl : ds.length ≤ sizeLine) (hx : σ.names.lookup ("len" : PySem.Str) = some .globalImplicit)
    (hst : ∀ env rest, starEach (e :: rest) env = (false, eval e env) :: starEach rest env := by intro _ _; rfl) : Ev U k σ m (.Call (.Name "len" np) [e] [] pos) (.int ds.length) :=
  Ev.callB (.cons h .nil hst) hx (by decide) boot_len (fun A Z s vs f zok r Q E hQ => by
    obtain ⟨v, rfl, r1⟩ := r.one
    obtain ⟨a, ws, n, rfl, hz, ho, ra⟩ := r1.lst_inv
    have e1 : ws.toArray.size = ds.length := by rw [List.size_toArray, ra.1]
    have hl' : ds.length ≤ 16777216 := hl
    refine len_list (items := ws.toArray) ⟨_, ho, rfl, n, rfl⟩ (by rw [e1]; omega) ?_
    rw [e1]
    exact hQ _ _ _ (Kept.refl _) (.int _ _))
theorem Ev.lenStr {np pos : Pos} {e : Expr} {x : PySem.Str} (h : Ev U k σ m e (.str x)) (hl : x.length ≤ sizeLine) (hx : σ.names.lookup ("len" : PySem.Str) = some .globalImplicit)
    (hst : ∀ env rest, starEach (e :: rest) env = (false, eval e env) :: starEach rest env := by intro _ _; rfl) : Ev U k σ m (.Call (.Name "len" np) [e] [] pos) (.int x.length) :=
  Ev.callB (.cons h .nil hst) hx (by decide) boot_len (fun A Z s vs f zok r Q E hQ => by
    obtain ⟨v, rfl, r1⟩ := r.one
    obtain ⟨t, rfl⟩ := r1.str_inv
    have hl' : x.length ≤ 16777216 := hl
    exact len_str (by omega) (hQ _ _ _ (Kept.refl _) (.int _ _)))
theorem Ev.lenBytes {np pos : Pos} {e : Expr} {x : Array UInt8} (h : Ev U k σ m e (.bytes x)) (hl : x.size ≤ sizeLine) (hx : σ.names.lookup ("len" : PySem.Str) = some .globalImplicit)
    (hst : ∀ env rest, starEach (e :: rest) env = (false, eval e env) :: starEach rest env := by intro _ _; rfl) : Ev U k σ m (.Call (.Name "len" np) [e] [] pos) (.int x.size) :=
  Ev.callB (.cons h .nil hst) hx (by decide) boot_len (fun A Z s vs f zok r Q E hQ => by
    obtain ⟨v, rfl, r1⟩ := r.one
    obtain ⟨t, rfl⟩ := r1.bytes_inv
    have hl' : x.size ≤ 16777216 := hl
    exact W.len_bytes (by omega) (hQ _ _ _ (Kept.refl _) (.int _ _)))

theorem Ev.chr {np pos : Pos} {e : Expr} {n : Int} (h : Ev U k σ m e (.int n)) (h0 : 0 ≤ n) (h1 : n ≤ 1114111) (hx : σ.names.lookup ("chr" : PySem.Str) = some .globalImplicit)
    (hst : ∀ env rest, starEach (e :: rest) env = (false, eval e env) :: starEach rest env := by intro _ _; rfl) : Ev U k σ m (.Call (.Name "chr" np) [e] [] pos) (.str ⟨#[n.toNat]⟩) :=
  Ev.callB (.cons h .nil hst) hx (by decide) boot_chr (fun A Z s vs f zok r Q E hQ => by
    obtain ⟨v, rfl, r1⟩ := r.one; obtain ⟨t, rfl⟩ := r1.int_inv
    exact chr_of_range h0 h1 (hQ _ _ _ (Kept.refl _) (.str _ _)))
theorem Ev.abs {np pos : Pos} {e : Expr} {n : Int} (h : Ev U k σ m e (.int n)) (hx : σ.names.lookup ("abs" : PySem.Str) = some .globalImplicit)
    (hst : ∀ env rest, starEach (e :: rest) env = (false, eval e env) :: starEach rest env := by intro _ _; rfl) : Ev U k σ m (.Call (.Name "abs" np) [e] [] pos) (.int (if n < 0 then -n else n)) :=
  Ev.callB (.cons h .nil hst) hx (by decide) boot_abs (fun A Z s vs f zok r Q E hQ => by
    obtain ⟨v, rfl, r1⟩ := r.one; obtain ⟨t, rfl⟩ := r1.int_inv
    exact call_abs_int fun u tk => hQ _ _ _ (Kept.refl _) (.int _ _))
theorem Ev.toInt {np pos : Pos} {e : Expr} {n : Int} (h : Ev U k σ m e (.int n)) (hx : σ.names.lookup ("int" : PySem.Str) = some .globalImplicit)
    (hst : ∀ env rest, starEach (e :: rest) env = (false, eval e env) :: starEach rest env := by intro _ _; rfl) : Ev U k σ m (.Call (.Name "int" np) [e] [] pos) (.int n) :=
  Ev.callT (.cons h .nil hst) hx (by decide) boot_int (fun A Z s vs f zok r Q E hQ => by
    obtain ⟨v, rfl, r1⟩ := r.one; obtain ⟨t, rfl⟩ := r1.int_inv
    exact call_int_int (hQ _ s.heap s.toks (Kept.refl _) (.int _ _)))
theorem Ev.divmod {np pos : Pos} {e₁ e₂ : Expr} {a b : Int} (h₁ : Ev U k σ m e₁ (.int a)) (h₂ : Ev U k σ m e₂ (.int b)) (hb : 0 < b) (hb' : b.natAbs < 1073741824) (hx : σ.names.lookup ("divmod" : PySem.Str) = some .globalImplicit)
    (hst₁ : ∀ env rest, starEach (e₁ :: rest) env = (false, eval e₁ env) :: starEach rest env := by intro _ _; rfl) (hst₂ : ∀ env rest, starEach (e₂ :: rest) env = (false, eval e₂ env) :: starEach rest env := by intro _ _; rfl) :
    Ev U k σ m (.Call (.Name "divmod" np) [e₁, e₂] [] pos) (.tup [.int (a / b), .int (a % b)]) :=
  Ev.callB (.cons h₁ (.cons h₂ .nil hst₂) hst₁) hx (by decide) boot_divmod (fun A Z s vs f zok r Q E hQ => by
    obtain ⟨v, u, rfl, r1, r2⟩ := r.two; obtain ⟨t, rfl⟩ := r1.int_inv; obtain ⟨t', rfl⟩ := r2.int_inv
    refine divmod_int (by omega) ?_ (.inl (PyProof.noPylong_small hb'))
    rw [Int.fdiv_eq_ediv_of_nonneg _ (by omega), Int.fmod_eq_emod_of_nonneg _ (by omega)]
    exact hQ _ _ _ (Kept.push _ _) (rep_newT (vs := [.int _ _, .int _ _]) zok (.cons (.int _ _) (.cons (.int _ _) .nil))))
theorem Ev.bytes {np pos : Pos} {e : Expr} {ns : List Int} (h : Ev U k σ m e (.lst (intsD ns))) (hr : ∀ n ∈ ns, 0 ≤ n ∧ n < 256) (hl : ns.length ≤ sizeLine) (hx : σ.names.lookup ("bytes" : PySem.Str) = some .globalImplicit)
    (hst : ∀ env rest, starEach (e :: rest) env = (false, eval e env) :: starEach rest env := by intro _ _; rfl) : Ev U k σ m (.Call (.Name "bytes" np) [e] [] pos) (.bytes (byteArr ns)) :=
  Ev.callT (.cons h .nil hst) hx (by decide) boot_bytes (fun A Z s vs f zok r Q E hQ => by
    obtain ⟨v, rfl, r1⟩ := r.one
    obtain ⟨a, ws, n, rfl, hz, ho, ra⟩ := r1.lst_inv
    have hi := RepAll.intsAre ra
    exact call_bytes_ints (vs := ws) ⟨_, ho, rfl, n, rfl⟩ hi hr (by rw [hi.length]; exact hl) f.hh fun h' t k hk => hQ _ h' k hk (.bytes _ _))

theorem preSum_take (ns : List Int) : ∀ j, j ≤ ns.length → preSum (fun i => ns.getD i 0) j = (ns.take j).sum
  | 0, _ => by simp [preSum]
  | j + 1, h => by
    have hj : j < ns.length := h
    rw [preSum, preSum_take ns j (by omega), List.take_succ_eq_append_getElem hj, List.sum_append]
    simp [List.getD_eq_getElem?_getD, List.getElem?_eq_getElem hj]
theorem Ev.sum {np pos : Pos} {e : Expr} {ns : List Int} (h : Ev U k σ m e (.lst (intsD ns))) (hr : ∀ n ∈ ns, 0 ≤ n) (hs : ns.sum < 2 ^ 63) (hx : σ.names.lookup ("sum" : PySem.Str) = some .globalImplicit)
    (hst : ∀ env rest, starEach (e :: rest) env = (false, eval e env) :: starEach rest env := by intro _ _; rfl) : Ev U k σ m (.Call (.Name "sum" np) [e] [] pos) (.int ns.sum) :=
  Ev.callB (.cons h .nil hst) hx (by decide) boot_sum (fun A Z s vs f zok r Q E hQ => by
    obtain ⟨v, rfl, r1⟩ := r.one
    have hnn : ∀ l : List Int, (∀ n ∈ l, 0 ≤ n) → 0 ≤ l.sum := fun l => by
      induction l with
      | nil => intro _; simp
      | cons a l ih => intro hl; rw [List.sum_cons]; have h1 := hl a (by simp); have h2 := ih fun n hn => hl n (by simp [hn]); omega
    refine call_sum_walk (iters_lst (A := A.in1) (U := U) zok f.hh r1 _ _ fun I fp wr P St h' tk hk W hst hfp hfz hwr hex hP hlet => ?_)
    have hlen : (intsD ns).length = ns.length := by simp [intsD]
    refine ⟨I, fp, wr, _, _, St, fun i => ns.getD i 0, rfl, (W A.in1 f.hh).bound, hst, hfp, ?_, ?_, ?_⟩
    · rintro i v ⟨hi, hv⟩
      have hi' : i < ns.length := by omega
      obtain ⟨t, rfl⟩ := (hP i (.int ns[i]) v (by simp [intsD, hi']) hv).int_inv
      exact ⟨t, by simp [List.getD_eq_getElem?_getD, hi']⟩
    · intro j hj
      have hj' : j < ns.length := by omega
      have e1 : ns.getD j 0 = ns[j] := by simp [List.getD_eq_getElem?_getD, hj']
      show InLong (ns.getD j 0) ∧ _
      rw [preSum_take ns (j + 1) hj', e1]
      have h1 := hnn (ns.take (j + 1)) fun n hn => hr n (List.mem_of_mem_take hn)
      have h2 := hnn (ns.drop (j + 1)) fun n hn => hr n (List.mem_of_mem_drop hn)
      have h3 : (ns.take (j + 1)).sum + (ns.drop (j + 1)).sum = ns.sum := by rw [← List.sum_append, List.take_append_drop]
      have h4 := hr _ (List.getElem_mem hj')
      have h5 : (ns.take (j + 1)).sum = (ns.take j).sum + ns[j] := by rw [List.take_succ_eq_append_getElem hj', List.sum_append]; simp
      have h6 := hnn (ns.take j) fun n hn => hr n (List.mem_of_mem_take hn)
      exact ⟨⟨by omega, by omega⟩, ⟨by omega, by omega⟩⟩
    · intro h'' tk' t' hk'
      rw [hlen, preSum_take ns _ (Nat.le_refl _), List.take_length]
      exact hQ _ h'' tk' (fun b o e => hk' b o (fun hb => by rw [hwr b hb] at e; exact nomatch e) (hk b o e)) (.int _ _))

theorem Ev.max {np pos : Pos} {e : Expr} {ns : List Int} {M : Int} (h : Ev U k σ m e (.lst (intsD ns))) (hM : M ∈ ns) (hle : ∀ n ∈ ns, n ≤ M) (hx : σ.names.lookup ("max" : PySem.Str) = some .globalImplicit)
    (hst : ∀ env rest, starEach (e :: rest) env = (false, eval e env) :: starEach rest env := by intro _ _; rfl) : Ev U k σ m (.Call (.Name "max" np) [e] [] pos) (.int M) :=
  Ev.callB (.cons h .nil hst) hx (by decide) boot_max (fun A Z s vs f zok r Q E hQ => by
    obtain ⟨v, rfl, r1⟩ := r.one
    have hlen : (intsD ns).length = ns.length := by simp [intsD]
    have hpos : 0 < ns.length := List.length_pos_of_mem hM
    refine call_max_walk (iters_lst (A := A.in1) (U := U) zok f.hh r1 _ _ fun I fp wr P St h' tk hk W hst hfp hfz hwr hex hP hlet => ?_)
    have val : ∀ i v, (i < (intsD ns).length ∧ P i v) → ∃ t, v = .int (ns.getD i 0) t := by
      rintro i v ⟨hi, hv⟩
      have hi' : i < ns.length := by omega
      obtain ⟨t, rfl⟩ := (hP i (.int ns[i]) v (by simp [intsD, hi']) hv).int_inv
      exact ⟨t, by simp [List.getD_eq_getElem?_getD, hi']⟩
    refine ⟨I, fp, wr, _, _, St, fun i j => decide (ns.getD i 0 > ns.getD j 0), rfl, (W A.in1 f.hh).bound, hst, hfp, by omega, ?_, ?_⟩
    · intro i j vi vj s' Q' E' hi hj hq
      obtain ⟨t, rfl⟩ := val i vi hi
      obtain ⟨u, rfl⟩ := val j vj hj
      exact PySem.P.gt_int hq
    · intro v h'' tk' hv hk'
      obtain ⟨hb, hmax⟩ := argBest_gt (fun i => ns.getD i 0) ((intsD ns).length - 1)
      obtain ⟨t, rfl⟩ := val _ v hv
      have e1 : ns.getD (argBest (fun i j => decide (ns.getD i 0 > ns.getD j 0)) ((intsD ns).length - 1)) 0 = M := by
        generalize argBest (fun i j => decide (ns.getD i 0 > ns.getD j 0)) ((intsD ns).length - 1) = b at hb hmax
        have hb' : b < ns.length := by omega
        have e2 : ns.getD b 0 = ns[b] := by simp [List.getD_eq_getElem?_getD, hb']
        obtain ⟨j, hj, rfl⟩ := List.mem_iff_getElem.mp hM
        have h1 := hmax j (by omega)
        have e3 : ns.getD j 0 = ns[j] := by simp [List.getD_eq_getElem?_getD, hj]
        have h2 := hle _ (List.getElem_mem hb')
        rw [e2] at h1 ⊢
        rw [e3] at h1
        omega
      rw [e1]
      exact hQ _ h'' tk' (fun b o e => hk' b o (fun hb => by rw [hwr b hb] at e; exact nomatch e) (hk b o e)) (.int _ _))
end
end Mine

namespace Mine
section
variable {U : Uni} {k : Nat} {σ : Scope} {m : PySem.Str → Option D} {A : Around} {Z : Addr → Prop} {s : Shared}

theorem Ev.binG {l r : Expr} {op : Operator} {pos : Pos} {d₁ d₂ d : D} (h₁ : Ev U k σ m l d₁) (h₂ : Ev U k σ m r d₂)
    (hop : ∀ (A : Around) (Z : Addr → Prop) (s : Shared) (v₁ v₂ : Value), Fit k A → (∀ b, Z b → ∃ o, s.heap.get? b = some o) → Gl U s.heap → Rep Z s.heap v₁ d₁ → Rep Z s.heap v₂ d₂ → Yields U A (binaryOp op v₁ v₂) Z d s) :
    Ev U k σ m (.BinOp l op r pos) d := fun A env Z s f X Q E hQ => by
  refine wpAny_BinOp (h₁ A env Z s f X _ _ fun v₁ h' tk hk r₁ => h₂ A env Z _ f (X.kept hk) _ _ fun v₂ h'' tk' hk' r₂ => ?_)
  exact hop A Z _ v₁ v₂ f (zok_kept X.zok (hk.trans hk')) (X.gl.kept (hk.trans hk')) (r₁.kept hk') r₂ Q E fun v h₃ tk₃ hk₃ r₃ => hQ v h₃ tk₃ ((hk.trans hk').trans hk₃) r₃

theorem fr_of {h : Heap} (G : Gl U h) : Fr (⟨#[], {}⟩ : Heap) mainGlobals h U.mg := ⟨G.g, fun b o e => by simp [Heap.get?] at e, Nat.zero_le _⟩

/-- [0] * n -/
theorem rep_replicate {v : Value} {d : D} {h : Heap} (r : Rep Z h v d) : ∀ n : Nat, RepAll Z h (List.replicate n v) (List.replicate n d)
  | 0 => .nil
  | n + 1 => by rw [List.replicate_succ, List.replicate_succ]; exact .cons r (rep_replicate r n)
theorem foldl_rep {v : Value} : ∀ (n : Nat) (acc : Array Value), List.foldl (fun x1 x2 => x1 ++ x2) acc (List.replicate n #[v]) = acc ++ (List.replicate n v).toArray
  | 0, acc => by simp
  | n + 1, acc => by
    rw [List.replicate_succ, List.foldl_cons, foldl_rep n, List.replicate_succ]
    apply Array.ext'
    simp
theorem Ev.repeat1 {l r : Expr} {pos : Pos} {d : D} {n : Int} (h₁ : Ev U k σ m l (.lst [d])) (h₂ : Ev U k σ m r (.int n)) (h0 : 0 ≤ n) (hn : n ≤ 16777216) : Ev U k σ m (.BinOp l .Mult r pos) (.lst (List.replicate n.toNat d)) :=
  h₁.binG h₂ fun A Z s v₁ v₂ _ zok G r₁ r₂ Q E hQ => by
    obtain ⟨x, xs, j, rfl, hz, ho, rx⟩ := r₁.lst_inv; obtain ⟨u, rfl⟩ := r₂.int_inv
    obtain ⟨v, rfl, rv⟩ := rx.one
    refine wpAny_binaryOp_repeat_ref (T := "list") (U := "int") (by decide) ⟨_, ho, rfl⟩ (fun s' => typeIs_int s' n u) noFill_list_mul F.fills_int_mul F.slot_int_rmul repeat_list F.slot_int_index.lookup
      (call_meets F.slot_int_rmul (typeIs_int s n u) F.entry_int_rmul (F.args_int_rmul_2 _ _) (int___rmul___int_list n u x _ j)
        ⟨ho, rfl, ⟨_, ho, rfl⟩, call_meets F.slot_list_mul ⟨_, ho, rfl⟩ F.entry_list_mul (F.args_list_mul_2 _ _)
          (AutoListH.list___mul___list_int_3 x [v].toArray j n u (by simp [Builtin.List.listFitsIndex]; omega) (by show ¬ (1 * n.toNat > (2 ^ 63 - 1) / 8); omega) (by simp [Builtin.List.listTooLong, sizeLine]; omega)) ⟨ho, ?_⟩⟩)
    have e1 : (if (#[v] : Array Value).isEmpty = true then 0 else n.toNat) = n.toNat := by simp
    have e2 : List.foldl (fun x1 x2 => x1 ++ x2) #[] (List.replicate (if ([v].toArray : Array Value).isEmpty = true then 0 else n.toNat) [v].toArray) = (List.replicate n.toNat v).toArray := by
      rw [show ([v].toArray : Array Value) = #[v] from rfl, e1, foldl_rep]; simp
    rw [e2]
    exact hQ _ _ _ (Kept.push _ _) (rep_new (cls := "list") zok (rep_replicate rv _))

theorem Ev.sub_ {value slice : Expr} {pos : Pos} {dv di d : D} (hv : Ev U k σ m value dv) (hi : Ev U k σ m slice di)
    (hop : ∀ (A : Around) (Z : Addr → Prop) (s : Shared) (o i : Value), Fit k A → Rep Z s.heap o dv → Rep Z s.heap i di → (∃ T id, s.TypeIs o T ∧ typeLookup (.type T) "__getitem__" = pure (some (.builtin id))) ∧ Yields U A (getItem o i) Z d s)
    (hs : ∀ o i, subscripted slice false o i = operate [o, i] (getItem o i) := by intro _ _; rfl) :
    Ev U k σ m (.Subscript value slice pos) d := fun A env Z s f X Q E hQ => by
  refine Subscript_ (hv A env Z s f X _ _ fun o h' tk hk ro => hi A env Z _ f (X.kept hk) _ _ fun i h'' tk' hk' ri => ?_)
  obtain ⟨⟨T, id, hT, hl⟩, hg⟩ := hop A Z { s with heap := h'', toks := tk' } o i f (ro.kept hk') ri
  exact tail_any hT hl (hg Q E fun v h₃ tk₃ hk₃ r₃ => hQ v h₃ tk₃ ((hk.trans hk').trans hk₃) r₃) (hs o i)

theorem Ev.item {value slice : Expr} {pos : Pos} {ds : List D} {i : Int} {d : D} (hv : Ev U k σ m value (.lst ds)) (hi : Ev U k σ m slice (.int i)) (h0 : 0 ≤ i) (hd : ds[i.toNat]? = some d) (hsz : i < 2 ^ 63)
    (hs : ∀ o i, subscripted slice false o i = operate [o, i] (getItem o i) := by intro _ _; rfl) : Ev U k σ m (.Subscript value slice pos) d :=
  Ev.sub_ hv hi (fun A Z s o i' f ro ri => by
    obtain ⟨a, vs, n, rfl, hz, ho, ra⟩ := ro.lst_inv
    obtain ⟨t, rfl⟩ := ri.int_inv
    have hl : s.heap.IsList a vs.toArray := ⟨_, ho, rfl, n, rfl⟩
    obtain ⟨v, hv', rv⟩ := ra.at hd
    exact ⟨⟨_, _, hl.typeIs, slot_list_getitem.lookup⟩, fun Q E hQ => wpAny_getItem_list hl h0 hsz (by simpa using hv') (hQ _ s.heap s.toks (Kept.refl _) rv)⟩) hs
theorem Ev.itemLast {value slice : Expr} {pos : Pos} {ds : List D} {d : D} (hv : Ev U k σ m value (.lst (ds ++ [d]))) (hi : Ev U k σ m slice (.int (-1))) (hsz : ds.length < 2 ^ 60)
    (hs : ∀ o i, subscripted slice false o i = operate [o, i] (getItem o i) := by intro _ _; rfl) : Ev U k σ m (.Subscript value slice pos) d :=
  Ev.sub_ hv hi (fun A Z s o i' f ro ri => by
    obtain ⟨a, vs, n, rfl, hz, ho, ra⟩ := ro.lst_inv
    obtain ⟨t, rfl⟩ := ri.int_inv
    have hl : s.heap.IsList a vs.toArray := ⟨_, ho, rfl, n, rfl⟩
    have hlen := ra.1
    rw [List.length_append, List.length_singleton] at hlen
    obtain ⟨v, hv', rv⟩ := ra.at (i := ds.length) (d := d) (by simp)
    refine ⟨⟨_, _, hl.typeIs, slot_list_getitem.lookup⟩, fun Q E hQ => wpAny_getItem_list_neg hl (by omega) (by rw [List.size_toArray]; omega) (by omega) ?_ (hQ _ s.heap s.toks (Kept.refl _) rv)⟩
    rw [List.size_toArray, hlen]
    have e : ((-1 : Int) + ((ds.length + 1 : Nat) : Int)).toNat = ds.length := by omega
    rw [e]; simpa using hv') hs
theorem Ev.itemT {value slice : Expr} {pos : Pos} {ds : List D} {i : Int} {d : D} (hv : Ev U k σ m value (.tup ds)) (hi : Ev U k σ m slice (.int i)) (h0 : 0 ≤ i) (hd : ds[i.toNat]? = some d) (hsz : i < 2 ^ 63)
    (hs : ∀ o i, subscripted slice false o i = operate [o, i] (getItem o i) := by intro _ _; rfl) : Ev U k σ m (.Subscript value slice pos) d :=
  Ev.sub_ hv hi (fun A Z s o i' f ro ri => by
    obtain ⟨a, vs, n, rfl, hz, ho, ra⟩ := ro.tup_inv
    obtain ⟨t, rfl⟩ := ri.int_inv
    obtain ⟨v, hv', rv⟩ := ra.at hd
    have hlt : i.toNat < vs.length := (List.getElem?_eq_some_iff.mp hv').1
    refine ⟨⟨"tuple", _, ⟨_, ho, rfl⟩, slot_tuple_getitem.lookup⟩, fun Q E hQ => P.getItem_tuple (k := i.toNat) ho (by omega) hsz ?_ (by simpa using hv') (hQ _ s.heap s.toks (Kept.refl _) rv)⟩
    have hn : ¬ i < 0 := by omega
    simp only [seqIndex?, hn, if_false, List.size_toArray]
    rw [if_pos (by simp only [Bool.and_eq_true, decide_eq_true_eq]; omega)]) hs

/-- a part of a slice -/
def EvPart (U : Uni) (k : Nat) (σ : Scope) (m : PySem.Str → Option D) : Option Expr → Option Int → Prop
  | none, none => True
  | some e, some i => Ev U k σ m e (.int i)
  | _, _ => False
theorem EvPart.run {o : Option Expr} {i : Option Int} (h : EvPart U k σ m o i) (A : Around) (env : Env) (Z : Addr → Prop) (s : Shared) (f : Fit k A) (X : EnvAt U σ m Z env s.heap) (Q : Value → Shared → Prop) (E : Value → Shared → Prop)
    (hQ : ∀ v h' tk, Kept s.heap h' → IsPart v i → Q v { s with heap := h', toks := tk }) : wpAny (model U.prog U.w) A (evalPart o env) Q E s := by
  match o, i, h with
  | none, none, _ => exact wpAny_evalPart_none (hQ _ s.heap s.toks (Kept.refl _) .none)
  | some e, some i, h => exact wpAny_evalPart_some (h A env Z s f X _ _ fun v h' tk hk r => by
      obtain ⟨t, rfl⟩ := r.int_inv
      exact hQ _ h' tk hk (.int i t))

theorem slice_parts {lower upper step : Option Expr} {lo hi st : Option Int} {p : Pos} (hl : EvPart U k σ m lower lo) (hu : EvPart U k σ m upper hi) (hst : EvPart U k σ m step st) (A : Around) (env : Env) (Z : Addr → Prop) (s : Shared) (f : Fit k A) (X : EnvAt U σ m Z env s.heap) (Q : Value → Shared → Prop) (E : Value → Shared → Prop)
    (hQ : ∀ l u st' h' tk, Kept s.heap h' → IsPart l lo → IsPart u hi → IsPart st' st → Q (.ref h'.objs.size) { s with heap := h'.push { cls := .type "slice", data := .fields #[l, u, st'] }, toks := tk }) :
    wpAny (model U.prog U.w) A (eval (.Slice lower upper step p) env) Q E s :=
  wpAny_Slice (hl.run A env Z s f X _ _ fun l h₁ tk₁ hk₁ pl => hu.run A env Z _ f (X.kept hk₁) _ _ fun u h₂ tk₂ hk₂ pu => hst.run A env Z _ f (X.kept (hk₁.trans hk₂)) _ _ fun st' h₃ tk₃ hk₃ ps =>
    hQ l u st' h₃ tk₃ ((hk₁.trans hk₂).trans hk₃) pl pu ps)

/-- what a slice picks -/
def pickL {α : Type} (xs : List α) (lo hi st : Option Int) : List α :=
  (sliceRange (sliceBounds lo hi st xs.length).1 (sliceBounds lo hi st xs.length).2.1 (sliceBounds lo hi st xs.length).2.2).filterMap (xs[·]?)
theorem pickL_map {α β : Type} (g : α → β) (xs : List α) (lo hi st : Option Int) : pickL (xs.map g) lo hi st = (pickL xs lo hi st).map g := by
  unfold pickL
  rw [List.length_map, List.map_filterMap]
  congr 1
  funext i
  rw [List.getElem?_map]
theorem pick_eq (vs : List Value) (lo hi st : Option Int) : slicePick vs.toArray lo hi st = (pickL vs lo hi st).toArray := by
  unfold slicePick pickL
  rw [List.size_toArray]
  congr 2
  funext i
  simp
theorem RepAll.picks {h : Heap} {vs : List Value} {ds : List D} (r : RepAll Z h vs ds) : ∀ is : List Nat, RepAll Z h (is.filterMap (vs[·]?)) (is.filterMap (ds[·]?))
  | [] => .nil
  | i :: is => by
    rw [List.filterMap_cons, List.filterMap_cons]
    by_cases hi : i < vs.length
    · have hi' : i < ds.length := by rw [← r.1]; exact hi
      rw [List.getElem?_eq_getElem hi, List.getElem?_eq_getElem hi']
      exact .cons (r.2 i _ _ (List.getElem?_eq_getElem hi) (List.getElem?_eq_getElem hi')) (RepAll.picks r is)
    · have hi' : ¬ i < ds.length := by rw [← r.1]; exact hi
      rw [List.getElem?_eq_none (by omega), List.getElem?_eq_none (by omega)]
      exact RepAll.picks r is
theorem RepAll.pick {h : Heap} {vs : List Value} {ds : List D} (r : RepAll Z h vs ds) (lo hi st : Option Int) : RepAll Z h (pickL vs lo hi st) (pickL ds lo hi st) := by
  unfold pickL
  rw [r.1]
  exact r.picks _

theorem Ev.sliceLst {value : Expr} {lower upper step : Option Expr} {lo hi st : Option Int} {p pos : Pos} {ds : List D} (hv : Ev U k σ m value (.lst ds)) (hl : EvPart U k σ m lower lo) (hu : EvPart U k σ m upper hi) (hst : EvPart U k σ m step st) (h0 : st ≠ some 0) (hsz : ds.length ≤ sizeLine)
    (hs : ∀ o i, ∃ ops, subscripted (.Slice lower upper step p) false o i = operate ops (getItem o i) := by intro _ _; exact ⟨_, rfl⟩) :
    Ev U k σ m (.Subscript value (.Slice lower upper step p) pos) (.lst (pickL ds lo hi st)) := fun A env Z s f X Q E hQ => by
  refine Subscript_ (hv A env Z s f X _ _ fun o h₁ tk₁ hk₁ ro => slice_parts hl hu hst A env Z _ f (X.kept hk₁) _ _ fun l u st' h₂ tk₂ hk₂ pl pu ps => ?_)
  obtain ⟨a, vs, n, rfl, hz, ho, ra⟩ := (ro.kept hk₂).lst_inv
  have hl' : (h₂.push { cls := .type "slice", data := .fields #[l, u, st'] }).IsList a vs.toArray := ⟨_, Heap.get?_push_of_some _ ho, rfl, n, rfl⟩
  obtain ⟨ops, hops⟩ := hs (.ref a) (.ref h₂.objs.size)
  refine tail_any (T := "list") ⟨_, Heap.get?_push_of_some _ ho, rfl⟩ slot_list_getitem.lookup (wpAny_getItem_list_slice hl' (Heap.IsSliceOf.new ..) pl pu ps h0 ?_ (by rw [List.size_toArray, ra.1]; exact hsz)) hops
  rw [pick_eq]
  have k₃ : Kept h₂ (h₂.push { cls := .type "slice", data := .fields #[l, u, st'] }) := Kept.push _ _
  exact hQ _ _ _ (((hk₁.trans hk₂).trans k₃).trans (Kept.push _ _)) (rep_new (cls := "list") (zok_kept X.zok ((hk₁.trans hk₂).trans k₃)) ((ra.kept k₃).pick lo hi st))

theorem indices_from {a len : Nat} : Builtin.Str.strSliceIndices (some (a : Int)) none 1 len = Builtin.Str.strSliceIndices (some (a : Int)) (some (len : Int)) 1 len := by
  simp only [Builtin.Str.strSliceIndices, show ((1 : Int) > 0) = True from by simp, if_true]
  congr 1
  have h2 : ¬ ((len : Int) < 0) := by omega
  simp only [h2, if_false]
  omega
/-- the part of a text between two places -/
def cut (x : PySem.Str) (a b : Nat) : PySem.Str := ⟨((x.cps.toList.drop a).take (b - a)).toArray⟩
theorem made_cut {x : PySem.Str} {t : Tok} {a b : Nat} {l u : Option (Int × Tok)} (hab : a ≤ b) (hb : b ≤ x.length) (hp : slicePicked x l u none = Builtin.Str.strSliceIndices (some (a : Int)) (some (b : Int)) 1 x.length) {Q : Value → Shared → Prop} {s : Shared}
    (hsz : x.length ≤ sizeLine) (h : ∀ t' k, Q (.str (cut x a b) t') { s with toks := k }) : (sliceMade x t l u none).post Q s := by
  have hlist : ((Builtin.Str.strSliceIndices (some (a : Int)) (some (b : Int)) 1 x.length).filterMap (x.cps[·]?)).toArray = (cut x a b).cps := by
    rw [StrLaws.sliced_plain x hab hb]; rfl
  have hx : x.cps.toList.length = x.length := by simp [Str.length]
  unfold sliceMade
  split
  · rename_i hc
    rw [hp, StrLaws.strSliceIndices_plain hab hb] at hc
    simp only [Option.map_none, Option.getD_none, BEq.rfl, Bool.true_and, List.length_map, List.length_range, beq_iff_eq] at hc
    have e : cut x a b = x := by
      have ha : a = 0 := by omega
      have hb' : b = x.length := by omega
      subst ha; subst hb'
      unfold cut
      rw [List.drop_zero, Nat.sub_zero, List.take_of_length_le (by omega)]
    have := h t s.toks
    rw [e] at this
    exact this
  · rw [hp, hlist]
    have hlen : (cut x a b).length ≤ sizeLine := by
      have : (cut x a b).length ≤ x.length := by
        unfold cut Str.length
        rw [List.size_toArray, List.length_take, List.length_drop]
        have : x.cps.toList.length = x.cps.size := by simp
        omega
      omega
    exact ⟨hlen, h _ _⟩
theorem Ev.cutStr {value : Expr} {lower upper : Expr} {p pos : Pos} {x : PySem.Str} {a b : Nat} (hv : Ev U k σ m value (.str x)) (hl : Ev U k σ m lower (.int a)) (hu : Ev U k σ m upper (.int b)) (hab : a ≤ b) (hb : b ≤ x.length) (hsz : x.length ≤ sizeLine) :
    Ev U k σ m (.Subscript value (.Slice (some lower) (some upper) none p) pos) (.str (cut x a b)) := fun A env Z s f X Q E hQ => by
  refine Subscript_ (hv A env Z s f X _ _ fun o h₁ tk₁ hk₁ ro => slice_parts (lower := some lower) (upper := some upper) (step := none) (lo := some (a : Int)) (hi := some (b : Int)) (st := none) hl hu trivial A env Z _ f (X.kept hk₁) _ _ fun l u st' h₂ tk₂ hk₂ pl pu ps => ?_)
  obtain ⟨t, rfl⟩ := ro.str_inv
  obtain ⟨t1, rfl⟩ : ∃ t1, l = .int a t1 := by cases pl; exact ⟨_, rfl⟩
  obtain ⟨t2, rfl⟩ : ∃ t2, u = .int b t2 := by cases pu; exact ⟨_, rfl⟩
  cases ps
  refine tail_any (T := "str") (typeIs_str _ _ _) F.slot_str_getitem.lookup (wpAny_getItem_str_slice (l := some (↑a, t1)) (u := some (↑b, t2)) (st := none) ⟨_, Heap.get?_push_size _ rfl, rfl, rfl⟩ rfl (made_cut hab hb rfl hsz fun t' k => ?_)) (ops := [.ref h₂.objs.size, .str x t]) rfl
  exact hQ _ _ _ ((hk₁.trans hk₂).trans (Kept.push _ _)) (.str _ _)
theorem Ev.cutFrom {value : Expr} {lower : Expr} {p pos : Pos} {x : PySem.Str} {a : Nat} (hv : Ev U k σ m value (.str x)) (hl : Ev U k σ m lower (.int a)) (hb : a ≤ x.length) (hsz : x.length ≤ sizeLine) :
    Ev U k σ m (.Subscript value (.Slice (some lower) none none p) pos) (.str (cut x a x.length)) := fun A env Z s f X Q E hQ => by
  refine Subscript_ (hv A env Z s f X _ _ fun o h₁ tk₁ hk₁ ro => slice_parts (lower := some lower) (upper := none) (step := none) (lo := some (a : Int)) (hi := none) (st := none) hl trivial trivial A env Z _ f (X.kept hk₁) _ _ fun l u st' h₂ tk₂ hk₂ pl pu ps => ?_)
  obtain ⟨t, rfl⟩ := ro.str_inv
  obtain ⟨t1, rfl⟩ : ∃ t1, l = .int a t1 := by cases pl; exact ⟨_, rfl⟩
  cases pu; cases ps
  refine tail_any (T := "str") (typeIs_str _ _ _) F.slot_str_getitem.lookup (wpAny_getItem_str_slice (l := some (↑a, t1)) (u := none) (st := none) ⟨_, Heap.get?_push_size _ rfl, rfl, rfl⟩ rfl (made_cut (l := some (↑a, t1)) (u := none) hb (Nat.le_refl _) (show Builtin.Str.strSliceIndices _ none 1 _ = _ from indices_from) hsz fun t' k => ?_)) (ops := [.ref h₂.objs.size, .str x t]) rfl
  exact hQ _ _ _ ((hk₁.trans hk₂).trans (Kept.push _ _)) (.str _ _)
theorem Ev.cutBytes {value : Expr} {lower upper : Expr} {p pos : Pos} {x : Array UInt8} {a b : Nat} (hv : Ev U k σ m value (.bytes x)) (hl : Ev U k σ m lower (.int a)) (hu : Ev U k σ m upper (.int b)) (hab : a ≤ b) (hb : b ≤ x.size) (hsz : x.size ≤ sizeLine) :
    Ev U k σ m (.Subscript value (.Slice (some lower) (some upper) none p) pos) (.bytes ((x.toList.drop a).take (b - a)).toArray) := fun A env Z s f X Q E hQ => by
  refine Subscript_ (hv A env Z s f X _ _ fun o h₁ tk₁ hk₁ ro => slice_parts (lower := some lower) (upper := some upper) (step := none) (lo := some (a : Int)) (hi := some (b : Int)) (st := none) hl hu trivial A env Z _ f (X.kept hk₁) _ _ fun l u st' h₂ tk₂ hk₂ pl pu ps => ?_)
  obtain ⟨t, rfl⟩ := ro.bytes_inv
  cases ps
  have e : KBy.picked x (some (a : Int)) (some (b : Int)) = ((x.toList.drop a).take (b - a)).toArray := by
    rw [KBc.picked_eq]
    simp only [Option.elim, clipAt_nat]
    rw [show min b x.size = b from by omega, show min a x.size = a from by omega]
  refine tail_any (T := "bytes") (typeIs_bytes _ _ _) FB.slot_bytes_getitem.lookup (getItem_meets (typeIs_bytes _ _ _) (by decide) FB.slot_bytes_getitem FB.entry_bytes_getitem (FB.args_bytes_getitem_2 _ _) (KBc.meets_slice2 x t _ pl pu)
    ⟨Heap.IsSliceOf.new _ _ _ _, Nat.le_trans (KBc.size_picked_le x _ _) hsz, fun t' k => ?_⟩) (ops := [.ref h₂.objs.size, .bytes x t]) rfl
  rw [e]
  exact hQ _ _ _ ((hk₁.trans hk₂).trans (Kept.push _ _)) (.bytes _ _)

/-- a method of one argument -/
theorem Ev.join {sep : PySem.Str} {kk : Nat} {apos cpos pos : Pos} {e : Expr} {xs : List PySem.Str} (h : Ev U k σ m e (.lst (strsD xs))) (hs : sep.length ≤ 16) (hw : (xs.map (·.length)).sum + xs.length ≤ 1048576) (hline : (apos.endLine == pos.line) = true)
    (hst : ∀ env, starEach [e] env = [(false, eval e env)] := by intro _; rfl) : Ev U k σ m (.Call (.Attribute (.Constant (.str sep) kk cpos) "join" apos) [e] [] pos) (.str (Txt.join sep xs)) := fun A env Z s f X Q E hQ => by
  refine wpAny_Call_method (T := "str") (id := "str.join") rfl (by rw [hst env]; rfl) hline F.plainAttrs_str F.slot_str_join F.type_str_join (wpAny_Constant_str ⟨typeIs_str _ _ _, (fun a ha => by cases ha), ?_⟩)
  rw [hst env]
  show wpAny _ A (callWith pos (.builtin "str.join") [.str sep s.toks] [(false, eval e env)] []) _ _ _
  refine Calls.callWith_builtin rfl (Calls.evalArgs_plain (Calls.spliced_cons (h A env Z { s with toks := s.toks + 1 } f X _ _ fun v h' tk hk r => Calls.spliced_nil ?_)))
  obtain ⟨a, vs, n, rfl, hz, ho, ra⟩ := r.lst_inv
  exact join_listW (items := vs.toArray) ⟨_, ho, rfl, n, rfl⟩ (by simpa using RepAll.strsAre ra) hs hw fun t' k' => hQ _ h' k' hk (.str _ _)
theorem Ev.joinT {sep : PySem.Str} {kk : Nat} {apos cpos pos : Pos} {e : Expr} {xs : List PySem.Str} (h : Ev U k σ m e (.tup (strsD xs))) (hs : sep.length ≤ 16) (hw : (xs.map (·.length)).sum + xs.length ≤ 1048576) (hline : (apos.endLine == pos.line) = true)
    (hst : ∀ env, starEach [e] env = [(false, eval e env)] := by intro _; rfl) : Ev U k σ m (.Call (.Attribute (.Constant (.str sep) kk cpos) "join" apos) [e] [] pos) (.str (Txt.join sep xs)) := fun A env Z s f X Q E hQ => by
  refine wpAny_Call_method (T := "str") (id := "str.join") rfl (by rw [hst env]; rfl) hline F.plainAttrs_str F.slot_str_join F.type_str_join (wpAny_Constant_str ⟨typeIs_str _ _ _, (fun a ha => by cases ha), ?_⟩)
  rw [hst env]
  show wpAny _ A (callWith pos (.builtin "str.join") [.str sep s.toks] [(false, eval e env)] []) _ _ _
  refine Calls.callWith_builtin rfl (Calls.evalArgs_plain (Calls.spliced_cons (h A env Z { s with toks := s.toks + 1 } f X _ _ fun v h' tk hk r => Calls.spliced_nil ?_)))
  obtain ⟨a, vs, n, rfl, hz, ho, ra⟩ := r.tup_inv
  exact join_tupleW (items := vs.toArray) ⟨_, ho, rfl, n, rfl⟩ (by simpa using RepAll.strsAre ra) hs hw fun t' k' => hQ _ h' k' hk (.str _ _)

section
variable {A : Around} {Z : Addr → Prop} {s : Shared} {v₁ v₂ : Value} {x : PySem.Str} {xs : List PySem.Str}
theorem opInL (r₁ : Rep Z s.heap v₁ (.str x)) (r₂ : Rep Z s.heap v₂ (.lst (strsD xs))) : Yields U A (compareOp .In v₁ v₂) Z (.bool (xs.any (· == x))) s := fun Q E hQ => by
  obtain ⟨t, rfl⟩ := r₁.str_inv
  obtain ⟨a, vs, n, rfl, hz, ho, ra⟩ := r₂.lst_inv
  exact in_list_strs ⟨_, ho, rfl, n, rfl⟩ (RepAll.strsAre ra) (hQ _ s.heap s.toks (Kept.refl _) (.bool _))
theorem strsAre_mem : ∀ {vs : List Value} {ys : List PySem.Str}, StrsAre vs ys → ∀ v ∈ vs, ∃ y t, v = .str y t ∧ y ∈ ys
  | _, _, .nil, v, hv => by simp at hv
  | _, _, .cons y t r, v, hv => by
    rcases List.mem_cons.mp hv with rfl | hv
    · exact ⟨y, t, rfl, by simp⟩
    · obtain ⟨y', t', e, hy⟩ := strsAre_mem r v hv; exact ⟨y', t', e, by simp [hy]⟩
def isS (x : PySem.Str) : Value → Bool
  | .str y _ => y == x
  | _ => false
theorem strsAre_any {x : PySem.Str} : ∀ {vs : List Value} {ys : List PySem.Str}, StrsAre vs ys → vs.any (isS x) = ys.any (· == x)
  | _, _, .nil => rfl
  | _, _, .cons y t r => by rw [List.any_cons, List.any_cons, strsAre_any r]; rfl
theorem opInT (r₁ : Rep Z s.heap v₁ (.str x)) (r₂ : Rep Z s.heap v₂ (.tup (strsD xs))) : Yields U A (compareOp .In v₁ v₂) Z (.bool (xs.any (· == x))) s := fun Q E hQ => by
  obtain ⟨t, rfl⟩ := r₁.str_inv
  obtain ⟨a, vs, n, rfl, hz, ho, ra⟩ := r₂.tup_inv
  refine PySem.SeqAt.in_tupleAt (isS x) (items := vs.toArray) ⟨_, ho, rfl, n, rfl⟩ (fun y hy => ?_) ?_
  · obtain ⟨y', t', rfl, _⟩ := strsAre_mem (RepAll.strsAre ra) y (by simpa using hy)
    exact (eqGives_str y' x t' t).at _ _
  · have e : vs.toArray.any (isS x) = xs.any (· == x) := by rw [← strsAre_any (RepAll.strsAre ra)]; simp
    first
      | (rw [e]; exact hQ _ s.heap s.toks (Kept.refl _) (.bool _))
      | (have e' : vs.toArray.toList.any (isS x) = xs.any (· == x) := by rw [← strsAre_any (RepAll.strsAre ra)]
         rw [e']; exact hQ _ s.heap s.toks (Kept.refl _) (.bool _))
theorem opInS {c : Nat} {y : PySem.Str} (r₁ : Rep Z s.heap v₁ (.str ⟨#[c]⟩)) (r₂ : Rep Z s.heap v₂ (.str y)) : Yields U A (compareOp .NotIn v₁ v₂) Z (.bool (!decide (c ∈ y.cps.toList))) s := fun Q E hQ => by
  obtain ⟨t, rfl⟩ := r₁.str_inv
  obtain ⟨u, rfl⟩ := r₂.str_inv
  refine PyProof.Rows.notIn_str ?_
  rw [StrLaws.found_one]
  exact hQ _ s.heap s.toks (Kept.refl _) (.bool _)
end
end
end Mine

namespace Mine

/-- a list that the function at hand still changes -/
structure Mut where
  name : PySem.Str
  addr : Addr
  data : List D

def upd (m : PySem.Str → Option D) (x : PySem.Str) (d : D) : PySem.Str → Option D := fun y => if y = x then some d else m y

/-- a function's own frame: h₀ is the heap at its call -/
structure FEnv (U : Uni) (σ : Scope) (m : PySem.Str → Option D) (mu : List Mut) (Z : Addr → Prop) (h₀ : Heap) (env : Env) (h : Heap) : Prop where
  toAt : EnvAt U σ m Z env h
  ns : ∃ mm, h.Ns env.locals mm
  zl : Z env.locals
  nl : h₀.get? env.locals = none
  cell : ∀ n c, env.cells.lookup n = some c → (∃ v, h.IsCell c v) ∧ Z c ∧ h₀.get? c = none
  hascell : ∀ x, σ.names.lookup x = some .cell → ∃ c, env.cells.lookup x = some c
  above : ∀ n c, (n, c) ∈ env.cells → env.locals < c
  apart : env.cells.Pairwise fun x y => x.2 ≠ y.2
  old : Kept h₀ h
  gl0 : Gl U h₀
  muts : ∀ p ∈ mu, Held env h p.name (.ref p.addr) ∧ Z p.addr ∧ h₀.get? p.addr = none ∧ ∃ vs n, h.get? p.addr = some { cls := .type "list", data := .seq vs.toArray n } ∧ RepAll Z h vs p.data
  mapart : mu.Pairwise fun p q => p.addr ≠ q.addr

section
variable {U : Uni} {k : Nat} {σ : Scope} {m : PySem.Str → Option D} {mu : List Mut} {A : Around} {Z : Addr → Prop} {h₀ : Heap} {env : Env} {s : Shared}

theorem FEnv.kept {h h' : Heap} (X : FEnv U σ m mu Z h₀ env h) (hk : Kept h h') : FEnv U σ m mu Z h₀ env h' :=
  ⟨X.toAt.kept hk, let ⟨mm, hn⟩ := X.ns; ⟨mm, hn.keeps hk⟩, X.zl, X.nl, fun n c hc => let ⟨⟨v, hv⟩, r⟩ := X.cell n c hc; ⟨⟨v, hv.keeps hk⟩, r⟩, X.hascell, X.above, X.apart, X.old.trans hk, X.gl0,
    fun p hp => let ⟨h1, h2, h3, vs, n, h4, h5⟩ := X.muts p hp; ⟨h1.kept hk, h2, h3, vs, n, hk _ _ h4, h5.kept hk⟩, X.mapart⟩

/-- fewer names, fewer changing lists, fewer places -/
theorem FEnv.weaken {h : Heap} {m' : PySem.Str → Option D} {mu' : List Mut} {Z' : Addr → Prop} (X : FEnv U σ m mu Z h₀ env h) (hm : ∀ y d, m' y = some d → m y = some d) (hmu : mu'.Sublist mu) (hz : ∀ b, Z' b → Z b)
    (zl : Z' env.locals) (zc : ∀ n c, env.cells.lookup n = some c → Z' c) (zm : ∀ p ∈ mu', Z' p.addr) : FEnv U σ m' mu' Z' h₀ env h := by
  have hr : ∀ {v : Value} {d : D}, Rep Z h v d → Rep Z' h v d := fun r => r.mono fun b o hb e => ⟨fun hb' => hb (hz b hb'), e⟩
  refine ⟨⟨X.toAt.gl, X.toAt.scope, X.toAt.kind, X.toAt.glob, X.toAt.blt, fun b hb => X.toAt.zok b (hz b hb), fun y d hy => ?_⟩, X.ns, zl, X.nl, fun n c hc => ⟨(X.cell n c hc).1, zc n c hc, (X.cell n c hc).2.2⟩, X.hascell, X.above, X.apart, X.old, X.gl0, fun p hp => ?_, X.mapart.sublist hmu⟩
  · obtain ⟨h1, v, h2, h3⟩ := X.toAt.vars y d (hm y d hy)
    exact ⟨h1, v, h2, hr h3⟩
  · obtain ⟨h1, h2, h3, vs, n, h4, h5⟩ := X.muts p (hmu.subset hp)
    exact ⟨h1, zm p hp, h3, vs, n, h4, h5.1, fun i v d hv hd => hr (h5.2 i v d hv hd)⟩
theorem FEnv.lessM {h : Heap} {m' : PySem.Str → Option D} (X : FEnv U σ m mu Z h₀ env h) (hm : ∀ y d, m' y = some d → m y = some d) : FEnv U σ m' mu Z h₀ env h :=
  X.weaken hm (List.Sublist.refl _) (fun _ hb => hb) X.zl (fun n c hc => (X.cell n c hc).2.1) fun p hp => (X.muts p hp).2.1
theorem FEnv.lessMu {h : Heap} {mu' : List Mut} (X : FEnv U σ m mu Z h₀ env h) (hmu : mu'.Sublist mu) : FEnv U σ m mu' Z h₀ env h :=
  X.weaken (fun _ _ e => e) hmu (fun _ hb => hb) X.zl (fun n c hc => (X.cell n c hc).2.1) fun p hp => (X.muts p (hmu.subset hp)).2.1
/-- more objects, more places: such as lie apart -/
theorem FEnv.move {h h' : Heap} {Z' : Addr → Prop} (X : FEnv U σ m mu Z h₀ env h) (hk : Kept h h') (hz : ∀ b, Z b → Z' b) (zok : ∀ b, Z' b → ∃ o, h'.get? b = some o) (hr : ∀ {v : Value} {d : D}, Rep Z h v d → Rep Z' h' v d) : FEnv U σ m mu Z' h₀ env h' :=
  ⟨⟨X.toAt.gl.kept hk, X.toAt.scope, X.toAt.kind, X.toAt.glob, X.toAt.blt, zok, fun y d hy => let ⟨h1, v, h2, h3⟩ := X.toAt.vars y d hy; ⟨h1, v, h2.kept hk, hr h3⟩⟩, (let ⟨mm, hn⟩ := X.ns; ⟨mm, hn.keeps hk⟩), hz _ X.zl, X.nl,
    fun n c hc => ⟨(let ⟨v, hv⟩ := (X.cell n c hc).1; ⟨v, hv.keeps hk⟩), hz _ (X.cell n c hc).2.1, (X.cell n c hc).2.2⟩, X.hascell, X.above, X.apart, X.old.trans hk, X.gl0,
    fun p hp => let ⟨h1, h2, h3, vs, n, h4, h5⟩ := X.muts p hp; ⟨h1.kept hk, hz _ h2, h3, vs, n, hk _ _ h4, h5.1, fun i v d hv hd => hr (h5.2 i v d hv hd)⟩, X.mapart⟩

/-- the lists that still change, read as data -/
def frz (m : PySem.Str → Option D) (mu : List Mut) : PySem.Str → Option D := fun y => match mu.find? (fun p => p.name == y) with | some p => some (.lst p.data) | none => m y
theorem FEnv.frozen {h : Heap} (X : FEnv U σ m mu Z h₀ env h) (hd : ∀ p ∈ mu, (p.name == ("__debug__" : PySem.Str)) = false) : EnvAt U σ (frz m mu) (fun b => Z b ∧ ∀ p ∈ mu, p.addr ≠ b) env h := by
  have hr : ∀ {v : Value} {d : D}, Rep Z h v d → Rep (fun b => Z b ∧ ∀ p ∈ mu, p.addr ≠ b) h v d := fun r => r.mono fun b o hb e => ⟨fun hb' => hb hb'.1, e⟩
  refine ⟨X.toAt.gl, X.toAt.scope, X.toAt.kind, X.toAt.glob, X.toAt.blt, fun b hb => X.toAt.zok b hb.1, fun y d hy => ?_⟩
  unfold frz at hy
  split at hy
  · rename_i p hp
    cases hy
    have hmem := List.mem_of_find?_eq_some hp
    have hn : p.name = y := beq_iff_eq.mp (List.find?_some (p := fun p : Mut => p.name == y) hp)
    obtain ⟨h1, h2, h3, vs, n, h4, h5⟩ := X.muts p hmem
    subst hn
    exact ⟨hd p hmem, _, h1, .lst (fun hz => hz.2 p hmem rfl) h4 h5.1 fun i v d hv hd => hr (h5.2 i v d hv hd)⟩
  · obtain ⟨h1, v, h2, h3⟩ := X.toAt.vars y d hy
    exact ⟨h1, v, h2, hr h3⟩

theorem cell_ne_locals {n : PySem.Str} {c : Addr} {h : Heap} (X : FEnv U σ m mu Z h₀ env h) (hc : env.cells.lookup n = some c) : c ≠ env.locals := Nat.ne_of_gt (X.above n c (PySem.mem_of_lookup hc))
theorem mut_ne_locals {p : Mut} {h : Heap} (X : FEnv U σ m mu Z h₀ env h) (hp : p ∈ mu) : p.addr ≠ env.locals := fun e => by
  obtain ⟨_, _, _, vs, n, h4, _⟩ := X.muts p hp
  obtain ⟨mm, o, es, ep, ho, hd, _⟩ := X.ns
  rw [e, ho] at h4; cases h4; cases hd
theorem mut_ne_cell {p : Mut} {n : PySem.Str} {c : Addr} {h : Heap} (X : FEnv U σ m mu Z h₀ env h) (hp : p ∈ mu) (hc : env.cells.lookup n = some c) : p.addr ≠ c := fun e => by
  obtain ⟨_, _, _, vs, n', h4, _⟩ := X.muts p hp
  obtain ⟨⟨v, o, ho, hd⟩, _⟩ := X.cell n c hc
  rw [e, ho] at h4; cases h4; cases hd

/-- a store into a name of the frame -/
theorem FEnv.store {x : PySem.Str} {v : Value} {Q : Unit → Shared → Prop} {E : Value → Shared → Prop} (X : FEnv U σ m mu Z h₀ env s.heap) (hx : σ.names.lookup x = some .local ∨ σ.names.lookup x = some .cell)
    (hQ : ∀ h' tk, (∀ b o, (b ≠ env.locals ∧ ∀ n, env.cells.lookup n ≠ some b) → s.heap.get? b = some o → h'.get? b = some o) → Held env h' x v → FEnv U σ (fun y => if y = x then none else m y) (mu.filter fun p => p.name != x) Z h₀ env h' → Q () { s with heap := h', toks := tk }) :
    wpAny (model U.prog U.w) A (storeName env x v) Q E s := by
  have hsc : env.scope = σ := X.toAt.scope
  have hkind : env.scope.kind = .function := by rw [hsc]; exact X.toAt.kind
  obtain ⟨mm, hn⟩ := X.ns
  -- what a change at one own place leaves
  have fin : ∀ (w : Addr) (h' : Heap), Z w → h₀.get? w = none → (∃ o, h'.get? w = some o) → Heap.SameBut w s.heap h' → (∀ p ∈ mu, p.addr ≠ w) → (∃ mm', h'.Ns env.locals mm') → (∀ n c, env.cells.lookup n = some c → ∃ v, h'.IsCell c v) →
      (∀ y v', y ≠ x → Held env s.heap y v' → Held env h' y v') → FEnv U σ (fun y => if y = x then none else m y) (mu.filter fun p => p.name != x) Z h₀ env h' := by
    intro w h' hzw hw hwo hs hpw hns hcell hheld
    have up : ∀ b o, ¬ Z b → s.heap.get? b = some o → ¬ Z b ∧ h'.get? b = some o := fun b o hb e => ⟨hb, hs.extBut b o (fun e' => hb (e' ▸ hzw)) e⟩
    have ok : Kept h₀ h' := fun b o e => hs.extBut b o (fun e' => by rw [e', hw] at e; exact nomatch e) (X.old b o e)
    refine ⟨⟨X.gl0.kept ok, X.toAt.scope, X.toAt.kind, X.toAt.glob, X.toAt.blt, fun b hb => ?_, fun y d hy => ?_⟩, hns, X.zl, X.nl, fun n c hc => ⟨hcell n c hc, (X.cell n c hc).2⟩, X.hascell, X.above, X.apart, ok, X.gl0, fun p hp => ?_, X.mapart.sublist List.filter_sublist⟩
    · by_cases hbw : b = w
      · exact hbw ▸ hwo
      · obtain ⟨o, e⟩ := X.toAt.zok b hb
        exact ⟨o, hs.extBut b o hbw e⟩
    · by_cases hyx : y = x
      · rw [if_pos hyx] at hy; cases hy
      · rw [if_neg hyx] at hy
        obtain ⟨h1, v', h2, h3⟩ := X.toAt.vars y d hy
        exact ⟨h1, v', hheld y v' hyx h2, h3.mono up⟩
    · obtain ⟨hp1, hp2⟩ := List.mem_filter.mp hp
      have hpx : p.name ≠ x := by simpa using hp2
      obtain ⟨h1, h2, h3, vs, n, h4, h5⟩ := X.muts p hp1
      exact ⟨hheld _ _ hpx h1, h2, h3, vs, n, hs.extBut _ _ (hpw p hp1) h4, h5.mono up⟩
  rcases hx with hl | hc
  · have hl' : env.kindOf x = some .local := by show env.scope.names.lookup x = _; rw [hsc]; exact hl
    refine wpAny_storeName_local hl' hn (fun h' hn' hs' => ?_) (by rw [hkind]; rfl)
    refine hQ h' _ (fun b o hb e => hs'.extBut b o hb.1 e) (.inl ⟨hl', _, hn', by simp⟩) (fin env.locals h' X.zl X.nl (let ⟨o, _, _, e, _⟩ := hn'; ⟨o, e⟩) hs' (fun p hp => mut_ne_locals X hp) ⟨_, hn'⟩ (fun n c hc => ?_) fun y v' hy H => ?_)
    · obtain ⟨⟨v', hv'⟩, _⟩ := X.cell n c hc
      exact ⟨v', hv'.sameBut hs' (cell_ne_locals X hc)⟩
    · rcases H with ⟨h1, m1, hm1, h2⟩ | ⟨h1, c, hlc, hv'⟩
      · refine .inl ⟨h1, _, hn', ?_⟩
        rw [if_neg hy, hn.agree hm1 y]; exact h2
      · exact .inr ⟨h1, c, hlc, hv'.sameBut hs' (cell_ne_locals X hlc)⟩
  · have hc' : env.kindOf x = some .cell := by show env.scope.names.lookup x = _; rw [hsc]; exact hc
    obtain ⟨c, hlc⟩ := X.hascell x hc
    obtain ⟨⟨v₀, hv₀⟩, hzc, hcn⟩ := X.cell x c hlc
    refine wpAny_storeName_cell hkind hc' hlc hv₀ fun h' hv' hs' => ?_
    have hne : env.locals ≠ c := (cell_ne_locals X hlc).symm
    refine hQ h' s.toks (fun b o hb e => hs'.extBut b o (fun e' => hb.2 x (e' ▸ hlc)) e) (.inr ⟨.inl hc', c, hlc, hv'⟩) (fin c h' hzc hcn (let ⟨o, e, _⟩ := hv'; ⟨o, e⟩) hs' (fun p hp => mut_ne_cell X hp hlc) ⟨mm, hn.sameBut hs' hne⟩ (fun n c' hc'' => ?_) fun y v' hy H => ?_)
    · by_cases e : c' = c
      · exact ⟨_, e ▸ hv'⟩
      · obtain ⟨⟨v', hv''⟩, _⟩ := X.cell n c' hc''
        exact ⟨v', hv''.sameBut hs' e⟩
    · rcases H with ⟨h1, m1, hm1, h2⟩ | ⟨h1, c', hlc', hv''⟩
      · exact .inl ⟨h1, m1, hm1.sameBut hs' hne, h2⟩
      · exact .inr ⟨h1, c', hlc', hv''.sameBut hs' fun e => hy (name_of_addr X.apart (PySem.mem_of_lookup hlc') (e ▸ PySem.mem_of_lookup hlc))⟩

/-- the same with the datum -/
theorem FEnv.storeD {x : PySem.Str} {v : Value} {d : D} {Q : Unit → Shared → Prop} {E : Value → Shared → Prop} (X : FEnv U σ m mu Z h₀ env s.heap) (hx : σ.names.lookup x = some .local ∨ σ.names.lookup x = some .cell) (r : Rep Z s.heap v d)
    (hQ : ∀ h' tk, FEnv U σ (upd m x d) (mu.filter fun p => p.name != x) Z h₀ env h' → Q () { s with heap := h', toks := tk }) (hd : (x == ("__debug__" : PySem.Str)) = false := by decide) :
    wpAny (model U.prog U.w) A (storeName env x v) Q E s := by
  refine X.store hx fun h' tk hk H X' => hQ h' tk ⟨⟨X'.toAt.gl, X'.toAt.scope, X'.toAt.kind, X'.toAt.glob, X'.toAt.blt, X'.toAt.zok, fun y d' hy => ?_⟩, X'.ns, X'.zl, X'.nl, X'.cell, X'.hascell, X'.above, X'.apart, X'.old, X'.gl0, X'.muts, X'.mapart⟩
  unfold upd at hy
  by_cases hyx : y = x
  · rw [if_pos hyx] at hy; cases hy; subst hyx
    exact ⟨hd, v, H, r.mono fun b o hb e => ⟨hb, hk b o ⟨fun e' => hb (e' ▸ X.zl), fun n hn => hb (X.cell n b hn).2.1⟩ e⟩⟩
  · rw [if_neg hyx] at hy
    exact X'.toAt.vars y d' (by simp only [if_neg hyx]; exact hy)
end
end Mine

namespace Mine

open Classical in
/-- the heap without some places -/
noncomputable def hide (Y : Addr → Prop) (h : Heap) : Heap := ⟨h.objs.mapIdx fun i o => if Y i then { cls := .none, data := .freed } else o, h.life⟩
theorem hide_yes {Y : Addr → Prop} {h : Heap} {b : Addr} (hb : Y b) : (hide Y h).get? b = none := by
  unfold hide Heap.get?
  simp only [Array.getElem?_mapIdx]
  cases e : h.objs[b]? with
  | none => rfl
  | some o => simp [hb]
theorem hide_no {Y : Addr → Prop} {h : Heap} {b : Addr} (hb : ¬ Y b) : (hide Y h).get? b = h.get? b := by
  unfold hide Heap.get?
  simp only [Array.getElem?_mapIdx]
  cases e : h.objs[b]? with
  | none => rfl
  | some o => simp [hb]

section
variable {U : Uni} {k : Nat} {σ : Scope} {m : PySem.Str → Option D} {mu : List Mut} {A : Around} {Z : Addr → Prop} {h₀ : Heap} {env : Env} {s : Shared} {Q : Flow → Shared → Prop} {E : Value → Shared → Prop}

def ownF (env : Env) (mu : List Mut) (b : Addr) : Prop := b = env.locals ∨ (∃ n, env.cells.lookup n = some b) ∨ ∃ p ∈ mu, p.addr = b
theorem FEnv.ownNone {h : Heap} (X : FEnv U σ m mu Z h₀ env h) {b : Addr} (hb : ownF env mu b) : h₀.get? b = none := by
  rcases hb with rfl | ⟨n, hn⟩ | ⟨p, hp, rfl⟩
  · exact X.nl
  · exact (X.cell n b hn).2.2
  · exact (X.muts p hp).2.2.1
theorem FEnv.hidden {h : Heap} (X : FEnv U σ m mu Z h₀ env h) : Kept h₀ (hide (ownF env mu) h) := fun b o e => by
  rw [hide_no fun hb => by rw [X.ownNone hb] at e; exact nomatch e]
  exact X.old b o e
/-- the frame seen from now on -/
theorem FEnv.rebase {h : Heap} (X : FEnv U σ m mu Z h₀ env h) : FEnv U σ m mu Z (hide (ownF env mu) h) env h :=
  ⟨X.toAt, X.ns, X.zl, hide_yes (.inl rfl), fun n c hc => ⟨(X.cell n c hc).1, (X.cell n c hc).2.1, hide_yes (.inr (.inl ⟨n, hc⟩))⟩, X.hascell, X.above, X.apart,
    fun b o e => by
      by_cases hb : ownF env mu b
      · rw [hide_yes hb] at e; exact nomatch e
      · rwa [hide_no hb] at e,
    X.gl0.kept X.hidden, fun p hp => let ⟨h1, h2, _, r⟩ := X.muts p hp; ⟨h1, h2, hide_yes (.inr (.inr ⟨p, hp, rfl⟩)), r⟩, X.mapart⟩
/-- and back to the call's heap -/
theorem FEnv.back {h h₁ : Heap} (X : FEnv U σ m mu Z h₁ env h) (hk : Kept h₀ h₁) (G : Gl U h₀) : FEnv U σ m mu Z h₀ env h := by
  have hn : ∀ b, h₁.get? b = none → h₀.get? b = none := fun b hb => by
    cases e : h₀.get? b with
    | none => rfl
    | some o => rw [hk b o e] at hb; exact nomatch hb
  exact ⟨X.toAt, X.ns, X.zl, hn _ X.nl, fun n c hc => ⟨(X.cell n c hc).1, (X.cell n c hc).2.1, hn _ (X.cell n c hc).2.2⟩, X.hascell, X.above, X.apart, hk.trans X.old, G,
    fun p hp => let ⟨h1, h2, h3, r⟩ := X.muts p hp; ⟨h1, h2, hn _ h3, r⟩, X.mapart⟩

theorem mu_same {mu : List Mut} {x : PySem.Str} (h : ∀ p ∈ mu, p.name ≠ x) : (mu.filter fun p => p.name != x) = mu := List.filter_eq_self.mpr fun p hp => by simpa using h p hp

theorem st_assign {x : PySem.Str} {px pos : Pos} {e : Expr} {rest : List Stmt} {d : D} (f : Fit k A) (X : FEnv U σ m mu Z h₀ env s.heap) (he : Ev U k σ m e d) (hx : σ.names.lookup x = some .local ∨ σ.names.lookup x = some .cell) (hne : ∀ p ∈ mu, p.name ≠ x)
    (h : ∀ h' tk, FEnv U σ (upd m x d) mu Z h₀ env h' → wpAny (model U.prog U.w) A (execs rest env) Q E { s with heap := h', toks := tk })
    (hsw : swapsWith e (some (.Name x px)) pos.line env = pure false := by rfl) (hd : (x == ("__debug__" : PySem.Str)) = false := by decide) :
    wpAny (model U.prog U.w) A (execs (.Assign [.Name x px] e pos :: rest) env) Q E s :=
  wpAny_execs_cons (wpAny_Assign_Name (he A env Z s f X.toAt _ _ fun v h' tk hk r => FEnv.storeD (s := { s with heap := h', toks := tk }) (X.kept hk) hx r (fun h'' tk' X' => h h'' tk' (by rw [mu_same hne] at X'; exact X')) hd) hsw)
/-- the value may read the lists that still change, if it is none of them -/
theorem st_assignA {x : PySem.Str} {px pos : Pos} {e : Expr} {rest : List Stmt} {d : D} (f : Fit k A) (X : FEnv U σ m mu Z h₀ env s.heap) (hdb : ∀ p ∈ mu, (p.name == ("__debug__" : PySem.Str)) = false) (he : Ev U k σ (frz m mu) e d) (ha : d.atom = true) (hx : σ.names.lookup x = some .local ∨ σ.names.lookup x = some .cell) (hne : ∀ p ∈ mu, p.name ≠ x)
    (h : ∀ h' tk, FEnv U σ (upd m x d) mu Z h₀ env h' → wpAny (model U.prog U.w) A (execs rest env) Q E { s with heap := h', toks := tk })
    (hsw : swapsWith e (some (.Name x px)) pos.line env = pure false := by rfl) (hd : (x == ("__debug__" : PySem.Str)) = false := by decide) :
    wpAny (model U.prog U.w) A (execs (.Assign [.Name x px] e pos :: rest) env) Q E s :=
  wpAny_execs_cons (wpAny_Assign_Name (he A env _ s f (X.frozen hdb) _ _ fun v h' tk hk r => FEnv.storeD (s := { s with heap := h', toks := tk }) (X.kept hk) hx (r.atom ha) (fun h'' tk' X' => h h'' tk' (by rw [mu_same hne] at X'; exact X')) hd) hsw)
/-- a name is bound to a new list that will be changed -/
theorem st_newlist {x : PySem.Str} {px lpos pos : Pos} {es : List Expr} {rest : List Stmt} {ds : List D} (f : Fit k A) (X : FEnv U σ m mu Z h₀ env s.heap) (he : EvAll U k σ m es ds) (hsz : ds.length ≤ sizeLine) (hx : σ.names.lookup x = some .local ∨ σ.names.lookup x = some .cell) (hne : ∀ p ∈ mu, p.name ≠ x)
    (h : ∀ a h' tk, FEnv U σ (fun y => if y = x then none else m y) (⟨x, a, ds⟩ :: mu) (fun b => Z b ∨ b = a) h₀ env h' → wpAny (model U.prog U.w) A (execs rest env) Q E { s with heap := h', toks := tk }) :
    wpAny (model U.prog U.w) A (execs (.Assign [.Name x px] (.List es lpos) pos :: rest) env) Q E s := by
  refine wpAny_execs_cons (wpAny_Assign_Name (wpAny_List (he.spliced A env Z s _ _ f X.toAt fun vs h₁ tk hk rs => ⟨by rw [rs.1]; exact hsz, ?_⟩)) rfl)
  have X₁ : FEnv U σ m mu Z h₀ env h₁ := X.kept hk
  have kp : Kept h₁ (h₁.push { cls := .type "list", data := .seq vs.toArray }) := Kept.push _ _
  have hfr : h₁.get? h₁.objs.size = none := none_size _
  have up : ∀ {v : Value} {d : D}, Rep Z h₁ v d → Rep (fun b => Z b ∨ b = h₁.objs.size) (h₁.push { cls := .type "list", data := .seq vs.toArray }) v d := fun r =>
    r.mono fun b o hb e => And.intro (fun hc => hc.elim hb fun e' => by rw [e', hfr] at e; exact nomatch e) (kp b o e)
  have X₂ : FEnv U σ m mu (fun b => Z b ∨ b = h₁.objs.size) h₀ env (h₁.push { cls := .type "list", data := .seq vs.toArray }) :=
    X₁.move kp (fun b hb => .inl hb) (fun b hb => hb.elim (fun hb => zok_kept X₁.toAt.zok kp b hb) fun e => ⟨_, e ▸ Heap.get?_push_size _ rfl⟩) up
  refine FEnv.store (s := { s with heap := h₁.push { cls := .type "list", data := .seq vs.toArray }, toks := tk }) X₂ hx fun h' tk' hk' H X' => ?_
  rw [mu_same hne] at X'
  have hnew0 : h₀.get? h₁.objs.size = none := by
    cases e : h₀.get? h₁.objs.size with
    | none => rfl
    | some o => rw [X₁.old _ o e] at hfr; exact nomatch hfr
  have hnl : h₁.objs.size ≠ env.locals := fun e => by
    obtain ⟨mm, o, _, _, ho, _⟩ := X₁.ns
    rw [← e, hfr] at ho; exact nomatch ho
  have hnc : ∀ n, env.cells.lookup n ≠ some h₁.objs.size := fun n hn => by
    obtain ⟨⟨v, o, ho, _⟩, _⟩ := X₁.cell n _ hn
    rw [hfr] at ho; exact nomatch ho
  refine h h₁.objs.size h' tk' ⟨X'.toAt, X'.ns, X'.zl, X'.nl, X'.cell, X'.hascell, X'.above, X'.apart, X'.old, X'.gl0, fun p hp => ?_, ?_⟩
  · rcases List.mem_cons.mp hp with rfl | hp
    · refine ⟨H, .inr rfl, hnew0, vs, 0, hk' _ _ ⟨hnl, hnc⟩ (Heap.get?_push_size _ rfl), rs.1, fun i v d hv hd => (up (rs.2 i v d hv hd)).mono fun b o hb e => ⟨hb, hk' b o ⟨fun e' => hb (.inl (e' ▸ X.zl)), fun n hn => hb (.inl (X.cell n b hn).2.1)⟩ e⟩⟩
    · exact X'.muts p hp
  · refine List.pairwise_cons.mpr ⟨fun q hq e => ?_, X'.mapart⟩
    obtain ⟨_, _, _, vs', n', h4, _⟩ := X₁.muts q hq
    have e' : h₁.objs.size = q.addr := e
    rw [← e', hfr] at h4; exact nomatch h4

/-- x.append(e) -/
theorem st_append {x : PySem.Str} {a : Addr} {ds : List D} {p1 apos cpos epos : Pos} {e : Expr} {rest : List Stmt} {d : D} (f : Fit k A) (X : FEnv U σ m (⟨x, a, ds⟩ :: mu) Z h₀ env s.heap) (he : Ev U k σ m e d) (hsz : ds.length ≤ sizeLine)
    (h : ∀ h' tk, FEnv U σ m (⟨x, a, ds ++ [d]⟩ :: mu) Z h₀ env h' → wpAny (model U.prog U.w) A (execs rest env) Q E { s with heap := h', toks := tk })
    (hline : (apos.endLine == cpos.line) = true := by rfl) (hd : (x == ("__debug__" : PySem.Str)) = false := by decide) 
    (hst : ∀ env, starEach [e] env = [(false, eval e env)] := by intro _; rfl) :
    wpAny (model U.prog U.w) A (execs (.Expr (.Call (.Attribute (.Name x p1) "append" apos) [e] [] cpos) epos :: rest) env) Q E s := by
  obtain ⟨hH, hza, ha0, vs, n, hobj, hrep⟩ := X.muts ⟨x, a, ds⟩ List.mem_cons_self
  have hkind : env.scope.kind = .function := by rw [X.toAt.scope]; exact X.toAt.kind
  have hint : interactive env = false := by unfold interactive; rw [hkind]; rfl
  refine wpAny_execs_cons (wpAny_Expr (wpAny_Call_method (T := "list") (id := "list.append") rfl (by rw [hst env]; rfl) hline F.plainAttrs_list slot_list_append F.type_list_append ?_) hint rfl)
  refine wpAny_Name (held_load hkind hH ⟨⟨_, hobj, rfl⟩, fun b hb => by cases hb; exact ⟨_, hobj, rfl⟩, ?_⟩) hd
  rw [hst env]
  show wpAny _ A (callWith cpos (.builtin "list.append") [.ref a] [(false, eval e env)] []) _ _ _
  refine Calls.callWith_builtin rfl (Calls.evalArgs_plain (Calls.spliced_cons (he A env Z s f X.toAt _ _ fun v h₁ tk hk r => Calls.spliced_nil ?_)))
  have X₁ := X.kept hk
  refine wpAny_list_append_plain (items := vs.toArray) ⟨n, hk _ _ hobj⟩ (fun h₂ hl₂ hs₂ => ?_) (by rw [List.size_toArray, hrep.1]; exact hsz)
  obtain ⟨n₂, ho₂⟩ := hl₂
  have up : ∀ b o, ¬ Z b → h₁.get? b = some o → ¬ Z b ∧ h₂.get? b = some o := fun b o hb e => ⟨hb, hs₂.extBut b o (fun e' => hb (e' ▸ hza)) e⟩
  have kp : ∀ b o, b ≠ a → h₁.get? b = some o → h₂.get? b = some o := fun b o hb e => hs₂.extBut b o hb e
  have hal : env.locals ≠ a := (mut_ne_locals X (p := ⟨x, a, ds⟩) List.mem_cons_self).symm
  have hac : ∀ n c, env.cells.lookup n = some c → c ≠ a := fun n c hc => (mut_ne_cell X (p := ⟨x, a, ds⟩) List.mem_cons_self hc).symm
  have held : ∀ {y : PySem.Str} {v' : Value}, Held env h₁ y v' → Held env h₂ y v' := fun H => by
    rcases H with ⟨h1, m1, hm1, h2⟩ | ⟨h1, c, hlc, hv'⟩
    · exact .inl ⟨h1, m1, hm1.sameBut hs₂ hal, h2⟩
    · exact .inr ⟨h1, c, hlc, hv'.sameBut hs₂ (hac _ c hlc)⟩
  have ok : Kept h₀ h₂ := fun b o e => kp b o (fun e' => by rw [e'] at e; rw [ha0] at e; exact nomatch e) (X₁.old b o e)
  refine h h₂ tk ⟨⟨X₁.gl0.kept ok, X₁.toAt.scope, X₁.toAt.kind, X₁.toAt.glob, X₁.toAt.blt, fun b hb => ?_, fun y d' hy => ?_⟩, ?_, X₁.zl, X₁.nl, fun n c hc => ⟨?_, (X₁.cell n c hc).2⟩, X₁.hascell, X₁.above, X₁.apart, ok, X₁.gl0, fun p hp => ?_, ?_⟩
  · by_cases e : b = a
    · exact ⟨_, e ▸ ho₂⟩
    · obtain ⟨o, e'⟩ := X₁.toAt.zok b hb; exact ⟨o, kp b o e e'⟩
  · obtain ⟨h1, v', h2, h3⟩ := X₁.toAt.vars y d' hy
    exact ⟨h1, v', held h2, h3.mono up⟩
  · obtain ⟨mm, hn⟩ := X₁.ns; exact ⟨mm, hn.sameBut hs₂ hal⟩
  · obtain ⟨⟨v', hv'⟩, _⟩ := X₁.cell n c hc; exact ⟨v', hv'.sameBut hs₂ (hac n c hc)⟩
  · rcases List.mem_cons.mp hp with rfl | hp
    · refine ⟨held (hH.kept hk), hza, ha0, vs ++ [v], n₂, by simpa using ho₂, ?_⟩
      exact ((hrep.kept hk).mono up).append (.cons (r.mono up) .nil)
    · obtain ⟨h1, h2, h3, vs', n', h4, h5⟩ := X₁.muts p (List.mem_cons_of_mem _ hp)
      have hpa : p.addr ≠ a := fun e => (List.pairwise_cons.mp X.mapart).1 p hp e.symm
      exact ⟨held h1, h2, h3, vs', n', kp _ _ hpa h4, h5.mono up⟩
  · obtain ⟨h1, h2⟩ := List.pairwise_cons.mp X.mapart
    exact List.pairwise_cons.mpr ⟨h1, h2⟩

theorem st_if {test : Expr} {body orelse rest : List Stmt} {pos : Pos} {b : Bool} (f : Fit k A) (X : FEnv U σ m mu Z h₀ env s.heap) (ht : EvT U k σ m test b)
    (h₁ : b = true → ∀ h' tk, FEnv U σ m mu Z h₀ env h' → wpAny (model U.prog U.w) A (execs body env) (fun fl s' => match fl with | .next => wpAny (model U.prog U.w) A (execs rest env) Q E s' | fl => Q fl s') E { s with heap := h', toks := tk })
    (h₂ : b = false → ∀ h' tk, FEnv U σ m mu Z h₀ env h' → wpAny (model U.prog U.w) A (execs orelse env) (fun fl s' => match fl with | .next => wpAny (model U.prog U.w) A (execs rest env) Q E s' | fl => Q fl s') E { s with heap := h', toks := tk }) :
    wpAny (model U.prog U.w) A (execs (.If test body orelse pos :: rest) env) Q E s :=
  wpAny_execs_cons (wpAny_If (ht A env Z s f X.toAt _ _ fun h' tk hk => by
    cases b with
    | true => exact h₁ rfl h' tk (X.kept hk)
    | false => exact h₂ rfl h' tk (X.kept hk)))
theorem st_ifA {test : Expr} {body orelse rest : List Stmt} {pos : Pos} {b : Bool} (f : Fit k A) (X : FEnv U σ m mu Z h₀ env s.heap) (hdb : ∀ p ∈ mu, (p.name == ("__debug__" : PySem.Str)) = false) (ht : EvT U k σ (frz m mu) test b)
    (h₁ : b = true → ∀ h' tk, FEnv U σ m mu Z h₀ env h' → wpAny (model U.prog U.w) A (execs body env) (fun fl s' => match fl with | .next => wpAny (model U.prog U.w) A (execs rest env) Q E s' | fl => Q fl s') E { s with heap := h', toks := tk })
    (h₂ : b = false → ∀ h' tk, FEnv U σ m mu Z h₀ env h' → wpAny (model U.prog U.w) A (execs orelse env) (fun fl s' => match fl with | .next => wpAny (model U.prog U.w) A (execs rest env) Q E s' | fl => Q fl s') E { s with heap := h', toks := tk }) :
    wpAny (model U.prog U.w) A (execs (.If test body orelse pos :: rest) env) Q E s :=
  wpAny_execs_cons (wpAny_If (ht A env _ s f (X.frozen hdb) _ _ fun h' tk hk => by
    cases b with
    | true => exact h₁ rfl h' tk (X.kept hk)
    | false => exact h₂ rfl h' tk (X.kept hk)))
theorem st_return {e : Expr} {pos : Pos} {rest : List Stmt} {d : D} (f : Fit k A) (X : FEnv U σ m mu Z h₀ env s.heap) (he : Ev U k σ m e d)
    (h : ∀ v h' tk, Kept s.heap h' → FEnv U σ m mu Z h₀ env h' → Rep Z h' v d → Q (.ret v) { s with heap := h', toks := tk }) : wpAny (model U.prog U.w) A (execs (.Return (some e) pos :: rest) env) Q E s :=
  wpAny_execs_cons (wpAny_Return_some (he A env Z s f X.toAt _ _ fun v h' tk hk r => h v h' tk hk (X.kept hk) r))
theorem st_returnA {e : Expr} {pos : Pos} {rest : List Stmt} {d : D} (f : Fit k A) (X : FEnv U σ m mu Z h₀ env s.heap) (hdb : ∀ p ∈ mu, (p.name == ("__debug__" : PySem.Str)) = false) (he : Ev U k σ (frz m mu) e d)
    (h : ∀ v h' tk, Kept s.heap h' → FEnv U σ m mu Z h₀ env h' → Rep (fun b => Z b ∧ ∀ p ∈ mu, p.addr ≠ b) h' v d → Q (.ret v) { s with heap := h', toks := tk }) : wpAny (model U.prog U.w) A (execs (.Return (some e) pos :: rest) env) Q E s :=
  wpAny_execs_cons (wpAny_Return_some (he A env _ s f (X.frozen hdb) _ _ fun v h' tk hk r => h v h' tk hk (X.kept hk) r))
end
end Mine

namespace Mine

section
variable {U : Uni} {k : Nat} {σ : Scope} {m : PySem.Str → Option D} {mu : List Mut} {A : Around} {Z : Addr → Prop} {h₀ : Heap} {env : Env} {s : Shared} {Q : Flow → Shared → Prop} {E : Value → Shared → Prop}

/-- the iterator has gone on -/
theorem FEnv.shift {h h' : Heap} {Z₂ : Addr → Prop} {wr : List Addr} (X : FEnv U σ m mu Z h₀ env h) (hk : ∀ b o, b ∉ wr → h.get? b = some o → h'.get? b = some o) (hw1 : ∀ b ∈ wr, Z b) (hw0 : ∀ b ∈ wr, h₀.get? b = none)
    (how : ∀ b, ownF env mu b → b ∉ wr) (hz : ∀ b, Z₂ b → Z b) (zok : ∀ b, Z₂ b → ∃ o, h'.get? b = some o) (zown : ∀ b, ownF env mu b → Z₂ b) : FEnv U σ m mu Z₂ h₀ env h' := by
  have up : ∀ b o, ¬ Z b → h.get? b = some o → ¬ Z₂ b ∧ h'.get? b = some o := fun b o hb e => ⟨fun hb' => hb (hz b hb'), hk b o (fun hw => hb (hw1 b hw)) e⟩
  have ok : Kept h₀ h' := fun b o e => hk b o (fun hw => by rw [hw0 b hw] at e; exact nomatch e) (X.old b o e)
  have hl : env.locals ∉ wr := how _ (.inl rfl)
  have hc : ∀ n c, env.cells.lookup n = some c → c ∉ wr := fun n c hc => how _ (.inr (.inl ⟨n, hc⟩))
  have held : ∀ {y : PySem.Str} {v' : Value}, Held env h y v' → Held env h' y v' := fun H => by
    rcases H with ⟨h1, m1, hm1, h2⟩ | ⟨h1, c, hlc, hv'⟩
    · exact .inl ⟨h1, m1, hm1.at' fun o e => hk _ o hl e, h2⟩
    · obtain ⟨o, ho, hd⟩ := hv'; exact .inr ⟨h1, c, hlc, o, hk c o (hc _ c hlc) ho, hd⟩
  refine ⟨⟨X.gl0.kept ok, X.toAt.scope, X.toAt.kind, X.toAt.glob, X.toAt.blt, zok, fun y d hy => ?_⟩, ?_, zown _ (.inl rfl), X.nl, fun n c hc' => ⟨?_, zown _ (.inr (.inl ⟨n, hc'⟩)), (X.cell n c hc').2.2⟩, X.hascell, X.above, X.apart, ok, X.gl0, fun p hp => ?_, X.mapart⟩
  · obtain ⟨h1, v, h2, h3⟩ := X.toAt.vars y d hy; exact ⟨h1, v, held h2, h3.mono up⟩
  · obtain ⟨mm, hn⟩ := X.ns; exact ⟨mm, hn.at' fun o e => hk _ o hl e⟩
  · obtain ⟨⟨v, o, ho, hd⟩, _⟩ := X.cell n c hc'; exact ⟨v, o, hk c o (hc n c hc') ho, hd⟩
  · obtain ⟨h1, h2, h3, vs, n, h4, h5⟩ := X.muts p hp
    exact ⟨held h1, zown _ (.inr (.inr ⟨p, hp, rfl⟩)), h3, vs, n, hk _ _ (how _ (.inr (.inr ⟨p, hp, rfl⟩))) h4, h5.mono up⟩

/-- for x in iter: .. : the data of the names (M), of the lists that change (Mu), and the state's other parts (J), turn by turn -/
theorem st_for {x : PySem.Str} {px pos : Pos} {iter : Expr} {body rest : List Stmt} {items : List D} (f : Fit k A) (X : FEnv U σ m mu Z h₀ env s.heap) (hit : EvIter U k σ m iter items)
    (hx : σ.names.lookup x = some .local ∨ σ.names.lookup x = some .cell) (M : Nat → PySem.Str → Option D) (Mu : Nat → List Mut) (J : Nat → Shared → Prop)
    (hM : ∀ y d, M 0 y = some d → m y = some d) (hMu : Mu 0 = mu) (hJ0 : J 0 s) (hJ : ∀ i s h tk, J i s → J i { s with heap := h, toks := tk }) (hne : ∀ i, ∀ p ∈ Mu i, p.name ≠ x) (hma : ∀ i, ∀ p ∈ Mu i, Z p.addr)
    (hbody : ∀ i d, items[i]? = some d → ∀ (Z' : Addr → Prop) (h₁ : Heap) (s₁ : Shared), (∀ b, Z b → Z' b) → FEnv U σ (upd (M i) x d) (Mu i) Z' h₁ env s₁.heap → J i s₁ → ∀ E', wpAny (model U.prog U.w) A (execs body env) (fun fl s₂ => fl = .next ∧ J (i + 1) s₂ ∧ FEnv U σ (M (i + 1)) (Mu (i + 1)) Z' h₁ env s₂.heap) E' s₁)
    (h : ∀ s', J items.length s' → FEnv U σ (M items.length) (Mu items.length) Z h₀ env s'.heap → wpAny (model U.prog U.w) A (execs rest env) Q E s')
    (hs : ∀ env x, foldedSetIterable iter env x = pure x := by intro _ _; rfl) (hd : (x == ("__debug__" : PySem.Str)) = false := by decide) :
    wpAny (model U.prog U.w) A (execs (.For (.Name x px) iter body [] pos :: rest) env) Q E s := by
  refine wpAny_execs_cons (wpAny_For (hit A env Z s f X.toAt _ _ fun v h₁ tk₁ hk₁ its => its A f.hh _ _ fun I fp wr P St h₂ tk₂ hk₂ W hst hfp hfz hwr hex hP hlet => ?_) (hs env))
  have X₁ : FEnv U σ (M 0) (Mu 0) Z h₀ env h₁ := by rw [hMu]; exact (X.kept hk₁).lessM hM
  have X₂ : FEnv U σ (M 0) (Mu 0) (fun b => Z b ∨ b ∈ wr) h₀ env h₂ := X₁.move hk₂ (fun b hb => .inl hb) (fun b hb => hb.elim (zok_kept X₁.toAt.zok hk₂ b) (hex 0 h₂ hst b)) fun r => fresh_mono hk₂ hwr r
  have hnone : ∀ b ∈ wr, h₀.get? b = none := fun b hb => by
    cases e : h₀.get? b with
    | none => rfl
    | some o => have := X₁.old b o e; rw [hwr b hb] at this; exact nomatch this
  have Wa := W A f.hh
  have hoz : ∀ i b, ownF env (Mu i) b → Z b := fun i b hb => by
    rcases hb with rfl | ⟨n, hn⟩ | ⟨p, hp, rfl⟩
    · exact X.zl
    · exact (X.cell n b hn).2.1
    · exact hma i p hp
  have how : ∀ i b, ownF env (Mu i) b → b ∉ wr := fun i b hb hw => hfz b (Wa.sub b hw) (hoz i b hb)
  refine codeAny_forLoop (fun n s' => ∃ i, i ≤ items.length ∧ n = items.length + 1 - i ∧ St i s'.heap ∧ J i s' ∧ FEnv U σ (M i) (Mu i) (fun b => Z b ∨ b ∈ wr) h₀ env s'.heap ∧ (∀ d j v, items[j]? = some d → P j v → Rep (fun b => Z b ∨ b ∈ wr) s'.heap v d)) ?_ (items.length + 1)
    ⟨0, Nat.zero_le _, rfl, hst, hJ 0 _ _ _ (hJ 0 _ h₁ tk₁ hJ0), X₂, fun d j v hd' hv => hP j d v hd' hv⟩
  rintro n s' ⟨i, hi, rfl, hsti, hJi, Xi, hPi⟩
  by_cases hlt : i < items.length
  · refine Wa.item i _ _ _ hlt hsti fun v h₃ tk₃ hPv hst₃ hk₃ => ?_
    have hid : items[i]? = some items[i] := List.getElem?_eq_getElem hlt
    have X₃ : FEnv U σ (M i) (Mu i) (fun b => Z b ∨ b ∈ wr) h₀ env h₃ := Xi.shift hk₃ (fun b hb => .inr hb) hnone (how i) (fun _ hb => hb) (fun b hb => by
      by_cases hw : b ∈ wr
      · exact hex _ _ hst₃ b hw
      · obtain ⟨o, e⟩ := Xi.toAt.zok b hb; exact ⟨o, hk₃ b o hw e⟩) fun b hb => .inl (hoz i b hb)
    have r₃ : ∀ {v : Value} {d : D}, Rep (fun b => Z b ∨ b ∈ wr) s'.heap v d → Rep (fun b => Z b ∨ b ∈ wr) h₃ v d := fun r => r.mono fun b o hb e => ⟨hb, hk₃ b o (fun hw => hb (.inr hw)) e⟩
    refine wpAny_assign_Name ?_
    have Xr := X₃.rebase
    refine FEnv.storeD (s := { s' with heap := h₃, toks := tk₃ }) Xr hx (r₃ (hPi _ i v hid hPv)) (fun h₄ tk₄ X₄ => ?_) hd
    rw [mu_same (hne i)] at X₄
    refine wpAny_mono (hbody i items[i] hid _ _ { s' with heap := h₄, toks := tk₄ } (fun b hb => .inl hb) X₄ (hJ i _ _ _ hJi) _) (fun fl s₅ h₅ => ?_) fun _ _ e => e
    obtain ⟨rfl, hJ₅, X₅⟩ := h₅
    have k₅ : ∀ b o, ¬ ownF env (Mu i) b → h₃.get? b = some o → s₅.heap.get? b = some o := fun b o hb e => X₅.old b o (by rw [hide_no hb]; exact e)
    refine ⟨items.length + 1 - (i + 1), by omega, i + 1, hlt, rfl, Wa.frame _ _ _ hst₃ fun b hb o e => k₅ b o (fun ho => hfz b hb (hoz i b ho)) e, hJ₅, X₅.back X₃.hidden X₃.gl0, fun d j v' hd' hv' => (r₃ (hPi d j v' hd' hv')).mono fun b o hb e => ⟨hb, k₅ b o (fun ho => hb (.inl (hoz i b ho))) e⟩⟩
  · have hin : i = items.length := by omega
    subst hin
    refine Wa.done _ _ _ hsti fun h₃ tk₃ hk₃ => wpAny_execs_nil ?_
    exact h { s' with heap := h₃, toks := tk₃ } (hJ _ _ _ _ hJi) (Xi.shift hk₃ (fun b hb => .inr hb) hnone (how _) (fun _ hb => .inl hb) (fun b hb => by
      obtain ⟨o, e⟩ := Xi.toAt.zok b (.inl hb)
      by_cases hw : b ∈ wr
      · obtain ⟨o', e'⟩ := X₁.toAt.zok b hb; rw [hwr b hw] at e'; exact nomatch e'
      · exact ⟨o, hk₃ b o hw e⟩) fun b hb => hoz _ b hb)
end
end Mine

namespace Mine

theorem bindL_not {kindOf : PySem.Str → Option NameKind} : ∀ {binds : List (PySem.Str × Value)} {m : PySem.Str → Option Value} {y : PySem.Str}, y ∉ binds.map (·.1) → bindL kindOf binds m y = m y
  | [], _, _, _ => rfl
  | (n, v) :: r, m, y, h => by
    simp only [List.map_cons, List.mem_cons, not_or] at h
    unfold bindL
    rw [bindL_not h.2]
    split
    · exact if_neg h.1
    · rfl
theorem bindC_not {kindOf : PySem.Str → Option NameKind} : ∀ {binds : List (PySem.Str × Value)} {m : PySem.Str → Option Value} {y : PySem.Str}, y ∉ binds.map (·.1) → bindC kindOf binds m y = m y
  | [], _, _, _ => rfl
  | (n, v) :: r, m, y, h => by
    simp only [List.map_cons, List.mem_cons, not_or] at h
    unfold bindC
    rw [bindC_not h.2]
    split
    · rfl
    · exact if_neg h.1
theorem bindL_at {kindOf : PySem.Str → Option NameKind} : ∀ {binds : List (PySem.Str × Value)} {m : PySem.Str → Option Value} {y : PySem.Str} {v : Value}, (binds.map (·.1)).Nodup → (y, v) ∈ binds → kindOf y = some .local → bindL kindOf binds m y = some v
  | (n, u) :: r, m, y, v, hnd, hm, hl => by
    simp only [List.map_cons, List.nodup_cons] at hnd
    unfold bindL
    rcases List.mem_cons.mp hm with e | hm
    · cases e
      rw [bindL_not hnd.1, if_pos hl, if_pos rfl]
    · exact bindL_at hnd.2 hm hl
theorem bindC_at {kindOf : PySem.Str → Option NameKind} : ∀ {binds : List (PySem.Str × Value)} {m : PySem.Str → Option Value} {y : PySem.Str} {v : Value}, (binds.map (·.1)).Nodup → (y, v) ∈ binds → kindOf y = some .cell → bindC kindOf binds m y = some v
  | (n, u) :: r, m, y, v, hnd, hm, hl => by
    simp only [List.map_cons, List.nodup_cons] at hnd
    unfold bindC
    rcases List.mem_cons.mp hm with e | hm
    · cases e
      rw [bindC_not hnd.1, if_neg (by rw [hl]; decide), if_pos rfl]
    · exact bindC_at hnd.2 hm hl
theorem zip_at {ps : List PySem.Str} {vs : List Value} {ds : List D} {Z : Addr → Prop} {h : Heap} (r : RepAll Z h vs ds) {y : PySem.Str} {d : D} (hl : (ps.zip ds).lookup y = some d) : ∃ v, (y, v) ∈ ps.zip vs ∧ Rep Z h v d := by
  induction ps generalizing vs ds with
  | nil => simp at hl
  | cons p ps ih =>
    match vs, ds, r with
    | [], [], _ => simp at hl
    | v :: vs, d' :: ds, r =>
      rw [List.zip_cons_cons, List.lookup_cons] at hl
      cases hb : y == p with
      | true =>
        rw [hb] at hl; cases hl
        exact ⟨v, by rw [beq_iff_eq.mp hb]; exact List.mem_cons_self, r.head⟩
      | false =>
        rw [hb] at hl
        obtain ⟨v', h1, h2⟩ := ih r.tail hl
        exact ⟨v', List.mem_cons_of_mem _ h1, h2⟩
    | [], _ :: _, r => have := r.1; simp at this
    | _ :: _, [], r => have := r.1; simp at this

section
variable {U : Uni} {k : Nat} {A : Around} {Z : Addr → Prop} {s : Shared} {Q : Value → Shared → Prop} {E : Value → Shared → Prop}

/-- a call of one of the text's defs: its body, in its own frame -/
theorem call_def {x : PySem.Str} {a : Addr} {fd : FuncData} {body : List Stmt} {ps : List PySem.Str} {vs : List Value} {ds : List D} (F : FnAt U x a fd) (f : Fit k A) (G : Gl U s.heap) (zok : ∀ b, Z b → ∃ o, s.heap.get? b = some o) (rs : RepAll Z s.heap vs ds)
    (hbody : fd.body = .stmts body) (hbind : bindArgs fd ⟨vs, []⟩ = pure (ps.zip vs)) (hclo : fd.closure = []) (hgl : fd.globals = mainGlobals) (hbl : fd.builtins = builtinsNs) (hlen : ps.length = ds.length)
    (hkind : (ps.all fun p => (fd.scope.names.lookup p == some .local || fd.scope.names.lookup p == some .cell) && p != ("__debug__" : PySem.Str)) = true) (hnd : ps.Nodup) (hco : fd.scope.isCoroutine = false) (hgen : fd.scope.isGenerator = false) (hk : fd.scope.kind = .function)
    (h : ∀ env h₁ tk, FEnv U fd.scope (fun y => (ps.zip ds).lookup y) [] (fun b => Z b ∨ ownF env [] b) s.heap env h₁ → ∀ E', wpAny (model U.prog U.w) (A.deeper env) (execs body env) (fun fl s' => ∃ v, fl = .ret v ∧ Q v s') E' { s with heap := h₁, toks := tk }) :
    wpAny (model U.prog U.w) A (call (.ref a) vs) Q E s := by
  obtain ⟨o, ho, hdat⟩ := F.obj
  have hlv : ps.length = vs.length := by rw [hlen, rs.1]
  have hmap : (ps.zip vs).map (·.1) = ps := by rw [List.map_fst_zip]; omega
  have hkinds : ∀ p ∈ ps, (fd.scope.names.lookup p = some .local ∨ fd.scope.names.lookup p = some .cell) ∧ (p == ("__debug__" : PySem.Str)) = false := fun p hp => by
    have := List.all_eq_true.mp hkind p hp
    simp only [Bool.and_eq_true, Bool.or_eq_true, beq_iff_eq, bne_iff_ne, ne_eq] at this
    exact ⟨this.1, beq_eq_false_iff_ne.mpr this.2⟩
  have hcells : ∀ x n, fd.scope.names.lookup x = some .cell → ((cellsFrom n fd.scope.names []).lookup x).isSome = true := fun x n hx => cellsFrom_some _ _ _ (.inl hx)
  refine wpAny_call (codeAny_call_cells (binds := ps.zip vs) f.room (G.keep _ _ ho) hdat G.lim (F.code.keeps G.keep) hbody hbind hclo (fun y hy => ?_) (fun s₁ hin => ?_) hco hgen hk)
  · have hy' : y.1 ∈ ps := (List.of_mem_zip (a := y.1) (b := y.2) hy).1
    rcases (hkinds _ hy').1 with hl | hc
    · exact .inl hl
    · exact .inr ⟨hc, hcells _ _ hc⟩
  · have hcen : (callEnvC fd s.heap.objs.size a).cells = cellsFrom (s.heap.objs.size + 1) fd.scope.names [] := rfl
    have hsame := hin.toInCall.same
    obtain ⟨h₁, tk, rfl⟩ := hsame
    have hns := hin.toInCall.ns
    have hold : Kept s.heap h₁ := hin.toInCall.keep
    have hfr : ∀ b, ownF (callEnvC fd s.heap.objs.size a) [] b → s.heap.get? b = none ∧ ∃ o, h₁.get? b = some o := fun b hb => by
      have none_of : ∀ c : Nat, s.heap.objs.size ≤ c → s.heap.get? c = none := fun c hc => by
        cases e : s.heap.get? c with
        | none => rfl
        | some o => exact absurd (Heap.lt_size e) (Nat.not_lt.mpr hc)
      rcases hb with rfl | ⟨n, hn⟩ | ⟨p, hp, _⟩
      · refine ⟨none_of _ (Nat.le_refl _), ?_⟩
        obtain ⟨o, _, _, e, _⟩ := hns; exact ⟨o, e⟩
      · refine ⟨none_of _ (Nat.le_of_lt (hin.above n b (PySem.mem_of_lookup hn))), ?_⟩
        obtain ⟨o, e, _⟩ := hin.cell n b hn; exact ⟨o, e⟩
      · simp at hp
    refine wpAny_mono (h (callEnvC fd s.heap.objs.size a) h₁ tk ?_ _) (fun fl s' hf => ?_) fun _ _ e => e
    · refine ⟨⟨G.kept hold, rfl, hk, hgl, hbl, fun b hb => ?_, fun y d hy => ?_⟩, ⟨_, hns⟩, .inr (.inl rfl), (hfr _ (.inl rfl)).1, fun n c hc => ⟨⟨_, hin.cell n c hc⟩, .inr (.inr (.inl ⟨n, hc⟩)), (hfr _ (.inr (.inl ⟨n, hc⟩))).1⟩, fun x hx => ?_, fun n c hc => hin.above n c hc, hin.apart, hold, G, fun p hp => by simp at hp, List.Pairwise.nil⟩
      · rcases hb with hb | hb
        · obtain ⟨o, e⟩ := zok b hb; exact ⟨o, hold b o e⟩
        · exact (hfr b hb).2
      · obtain ⟨v, hmem, rv⟩ := zip_at rs hy
        have hyp : y ∈ ps := (List.of_mem_zip hmem).1
        have hnd' : ((ps.zip vs).map (·.1)).Nodup := by rw [hmap]; exact hnd
        refine ⟨(hkinds y hyp).2, v, ?_, rv.mono fun b o hz e => And.intro (fun hb => hb.elim hz fun hb => by rw [(hfr b hb).1] at e; exact nomatch e) (hold b o e)⟩
        rcases (hkinds y hyp).1 with hl | hc
        · exact .inl ⟨hl, _, hns, bindL_at hnd' hmem hl⟩
        · obtain ⟨c, hlc⟩ := Option.isSome_iff_exists.mp (hcells y (s.heap.objs.size + 1) hc)
          have hcl := hin.cell y c hlc
          rw [bindC_at hnd' hmem hc] at hcl
          exact .inr ⟨.inl hc, c, hlc, hcl⟩
      · exact Option.isSome_iff_exists.mp (hcells x (s.heap.objs.size + 1) hx)
    · obtain ⟨v, rfl, hq⟩ := hf
      exact hq
end
end Mine

namespace Mine

def isInt (p : Int → Bool) : D → Bool
  | .int x => p x
  | _ => false
def onInt (g : Int → D) : D → D
  | .int x => g x
  | d => d
theorem map_ints (p : Int → Bool) (g : Int → D) : ∀ ns : List Int, ((intsD ns).filter (isInt p)).map (onInt g) = (ns.filter p).map g
  | [] => rfl
  | n :: ns => by
    show ((D.int n :: intsD ns).filter (isInt p)).map (onInt g) = _
    rw [List.filter_cons, List.filter_cons]
    show (if p n = true then _ else _ : List D).map _ = _
    split
    · rw [List.map_cons, List.map_cons, map_ints p g ns]; rfl
    · exact map_ints p g ns
/-- the ints from a up to b -/
def upto (a b : Int) : List Int := (List.range (b - a).toNat).map fun (i : Nat) => a + (i : Int)
theorem rng_upto (a b : Int) : rngInts a b 1 = intsD (upto a b) := by
  unfold rngInts upto intsD
  rw [rangeSize_one, List.map_map]
  have e : (if a < b then b - a else 0).toNat = (b - a).toNat := by split <;> omega
  rw [e]
  apply List.map_congr_left
  intro i _
  simp
theorem upto_mem {a b n : Int} : n ∈ upto a b ↔ a ≤ n ∧ n < b := by
  unfold upto
  simp only [List.mem_map, List.mem_range]
  constructor
  · rintro ⟨i, hi, rfl⟩; omega
  · rintro ⟨h1, h2⟩; exact ⟨(n - a).toNat, by omega, by omega⟩
theorem upto_len (a b : Int) : (upto a b).length = (b - a).toNat := by simp [upto]

section
variable {U : Uni} {k : Nat} {σ : Scope} {m : PySem.Str → Option D}
theorem EvIter.upto {e : Expr} {a b : Int} (h : Ev U k σ m e (.rng a b 1)) (ha : -(2 ^ 62) ≤ a) (ha' : a < 2 ^ 62) (hb : -(2 ^ 62) ≤ b) (hb' : b < 2 ^ 62) : EvIter U k σ m e (intsD (upto a b)) := by
  rw [← rng_upto]
  refine EvIter.rng h (small_one ha ha' hb hb') ?_
  rw [rangeSize_one]; split <;> omega

theorem Ev.compI {elt iter : Expr} {x : PySem.Str} {px : Pos} {ifs : List Expr} {scope : Scope} {pos : Pos} {ns : List Int} {p : Int → Bool} {g : Int → D} (hit : EvIter U k σ m iter (intsD ns)) (hsz : ns.length ≤ sizeLine) (hsc : scopeOk scope σ = true) (hm : AllM m (freesOf scope.names))
    (htgt : TgtOk U k scope (.Name x px) (bind1 x) (fun _ => True)) (htest : ∀ n ∈ ns, EvIfs U k (relabelS scope σ) (inn m scope (bind1 x (.int n))) ifs (p n)) (helt : ∀ n ∈ ns, p n = true → Ev U k (relabelS scope σ) (inn m scope (bind1 x (.int n))) elt (g n))
    (hs : ∀ env x, foldedSetIterable iter env x = pure x := by intro _ _; rfl) (hone : ifs.length ≤ 1 := by exact Nat.le_of_ble_eq_true rfl) : Ev U k σ m (.ListComp elt [⟨.Name x px, iter, ifs, 0⟩] scope pos) (.lst ((ns.filter p).map g)) := by
  rw [← map_ints]
  refine Ev.comp hit (by simpa [intsD] using hsz) hsc (frees_ok hm) htgt (fun _ _ => trivial) ?_ ?_ hs hone
  · intro d hd; obtain ⟨n, hn, rfl⟩ := List.mem_map.mp hd; exact htest n hn
  · intro d hd hk; obtain ⟨n, hn, rfl⟩ := List.mem_map.mp hd; exact helt n hn hk
/-- without a test -/
theorem Ev.compM {elt iter : Expr} {x : PySem.Str} {px : Pos} {scope : Scope} {pos : Pos} {ns : List Int} {g : Int → D} (hit : EvIter U k σ m iter (intsD ns)) (hsz : ns.length ≤ sizeLine) (hsc : scopeOk scope σ = true) (hm : AllM m (freesOf scope.names))
    (htgt : TgtOk U k scope (.Name x px) (bind1 x) (fun _ => True)) (helt : ∀ n ∈ ns, Ev U k (relabelS scope σ) (inn m scope (bind1 x (.int n))) elt (g n))
    (hs : ∀ env x, foldedSetIterable iter env x = pure x := by intro _ _; rfl) : Ev U k σ m (.ListComp elt [⟨.Name x px, iter, [], 0⟩] scope pos) (.lst (ns.map g)) := by
  have := Ev.compI (p := fun _ => true) (ifs := []) (pos := pos) hit hsz hsc hm htgt (fun _ _ => rfl) (fun n hn _ => helt n hn) hs
  rwa [List.filter_eq_self.mpr (fun _ _ => rfl)] at this
theorem int_list {xs : List Int} {g : Int → Int} : xs.map (fun n => D.int (g n)) = intsD (xs.map g) := by simp [intsD]
end

def maxI (a : Int) (l : List Int) : Int := l.foldl max a
theorem maxI_ge (l : List Int) : ∀ a, a ≤ maxI a l ∧ ∀ n ∈ l, n ≤ maxI a l := by
  induction l with
  | nil => intro a; exact ⟨Int.le_refl _, by simp⟩
  | cons b l ih =>
    intro a
    obtain ⟨h1, h2⟩ := ih (max a b)
    refine ⟨Int.le_trans (Int.le_max_left a b) h1, fun n hn => ?_⟩
    rcases List.mem_cons.mp hn with rfl | hn
    · exact Int.le_trans (Int.le_max_right a _) h1
    · exact h2 n hn
theorem maxI_mem (l : List Int) : ∀ a, maxI a l = a ∨ maxI a l ∈ l := by
  induction l with
  | nil => intro a; exact .inl rfl
  | cons b l ih =>
    intro a
    have e : maxI a (b :: l) = maxI (max a b) l := rfl
    rw [e]
    rcases ih (max a b) with h | h
    · rcases Int.le_total a b with hab | hab
      · right; rw [h, Int.max_eq_right hab]; exact List.mem_cons_self
      · left; rw [h]; exact Int.max_eq_left hab
    · right; exact List.mem_cons_of_mem _ h
section
variable {U : Uni} {k : Nat} {σ : Scope} {m : PySem.Str → Option D}
theorem Ev.maxOf {np pos : Pos} {e : Expr} {a : Int} {l : List Int} (h : Ev U k σ m e (.lst (intsD (a :: l)))) (hx : σ.names.lookup ("max" : PySem.Str) = some .globalImplicit)
    (hst : ∀ env rest, starEach (e :: rest) env = (false, eval e env) :: starEach rest env := by intro _ _; rfl) : Ev U k σ m (.Call (.Name "max" np) [e] [] pos) (.int (maxI a l)) := by
  refine Ev.max h ?_ ?_ hx hst
  · rcases maxI_mem l a with h | h
    · rw [h]; exact List.mem_cons_self
    · exact List.mem_cons_of_mem _ h
  · intro n hn
    rcases List.mem_cons.mp hn with rfl | hn
    · exact (maxI_ge l _).1
    · exact (maxI_ge l a).2 n hn
end
end Mine

namespace Mine

/-- the text's statements, by their places -/
def stAt (i : Nat) : Stmt := PySem.Challenge.pw_pk0025_01.main.body.getD i (.Pass ⟨0, 0, 0, 0⟩)
def bodyOf : Stmt → List Stmt
  | .FunctionDef _ _ b _ _ _ _ _ _ _ => b
  | _ => []
def scopeOf : Stmt → Scope
  | .FunctionDef _ _ _ _ _ _ sc _ _ _ => sc
  | _ => default
def paramsOf : Stmt → Arguments
  | .FunctionDef _ a _ _ _ _ _ _ _ _ => a
  | _ => default
def fdAt (i : Nat) (name : PySem.Str) (pm cd doc : Value) : FuncData := Calls.docDef name (paramsOf (stAt i)) (bodyOf (stAt i)) (scopeOf (stAt i)) pm cd doc

def quoteS : PySem.Str := "\""
def chrS (p : Int) : PySem.Str := ⟨#[(97 + p).toNat]⟩
def unitsF (tails : List (List PySem.Str)) (places : List Int) : List PySem.Str := places.flatMap fun p => chrS p :: ((tails.getD p.toNat []).filter (· != quoteS))
def tailsD (tails : List (List PySem.Str)) : D := .lst (tails.map fun t => .tup (strsD t))

def isStr (p : PySem.Str → Bool) : D → Bool
  | .str x => p x
  | _ => false
theorem filter_strs (p : PySem.Str → Bool) (xs : List PySem.Str) : ((strsD xs).filter (isStr p)).map id = strsD (xs.filter p) := by
  rw [List.map_id]
  induction xs with
  | nil => rfl
  | cons x xs ih =>
    show ((D.str x :: strsD xs).filter (isStr p)) = _
    rw [List.filter_cons, List.filter_cons]
    show (if p x = true then _ else _) = _
    split
    · rw [ih]; rfl
    · exact ih

section
variable {U : Uni} {A : Around} {Z : Addr → Prop} {s : Shared}
theorem units_call {a : Addr} {pm cd doc : Value} (F : FnAt U "_law_units" a (fdAt 8 "_law_units" pm cd doc)) {tails : List (List PySem.Str)} {places : List Int} (ht : ∀ t ∈ tails, t.length ≤ 2) (hp : places.length ≤ 16) (hp' : ∀ p ∈ places, 0 ≤ p ∧ p < tails.length) (htl : tails.length ≤ 16)
    (f : Fit 20 A) (zok : ∀ b, Z b → ∃ o, s.heap.get? b = some o) (G : Gl U s.heap) {pd : D} (hpd : ∀ {k σ m e}, Ev U k σ m e pd → EvIter U k σ m e (intsD places)) {vs : List Value} (rs : RepAll Z s.heap vs [pd, tailsD tails]) :
    Yields U A (call (.ref a) vs) Z (.lst (strsD (unitsF tails places))) s := fun Q E hQ => by
  obtain ⟨v₁, v₂, rfl, _, _⟩ := rs.two
  refine call_def (ps := ["places", "tails"]) (ds := [pd, tailsD tails]) F (f.le (show 17 ≤ 20 by omega)) G zok rs rfl rfl rfl rfl rfl rfl (by rfl) (by decide) rfl rfl rfl ?_
  intro env h₁ tk X E'
  have fd : Fit 17 (A.deeper env) := f.deeper env
  change FEnv U (scopeOf (stAt 8)) _ _ _ _ _ _ at X
  have hlen : ∀ ps : List Int, (∀ p ∈ ps, p ∈ places) → (unitsF tails ps).length ≤ 3 * ps.length := by
    intro ps
    induction ps with
    | nil => intro _; exact Nat.le_refl _
    | cons p ps ih =>
      intro hps
      have h1 := ih fun q hq => hps q (by simp [hq])
      have h2 : ((tails.getD p.toNat []).filter (· != quoteS)).length ≤ 2 := by
        refine Nat.le_trans (List.length_filter_le _ _) ?_
        rw [List.getD_eq_getElem?_getD]
        cases e : tails[p.toNat]? with
        | none => simp
        | some t => exact ht t (List.mem_of_getElem? e)
      show ((chrS p :: ((tails.getD p.toNat []).filter (· != quoteS))) ++ unitsF tails ps).length ≤ _
      rw [List.length_append, List.length_cons, List.length_cons]
      omega
  refine st_assign fd X (Ev.list EvAll.nil (Nat.zero_le _)) (.inl rfl) (by intro p hp; simp at hp) ?_ rfl
  intro h₂ tk₂ X₂
  refine st_for (items := intsD places) fd X₂ (hpd (Ev.name rfl)) (.inl rfl)
    (fun i y => if y = "units" then some (.lst (strsD (unitsF tails (places.take i)))) else if y = "tails" then some (tailsD tails) else none) (fun _ => []) (fun _ s' => ∃ h' tk', s' = { s with heap := h', toks := tk' })
    ?_ rfl ⟨_, _, rfl⟩ ?_ (by intro i p hp; simp at hp) (by intro i p hp; simp at hp) ?_ ?_ (by intro _ _; rfl)
  · intro y d hy
    split at hy
    · rename_i e; subst e; cases hy; rfl
    · split at hy
      · rename_i e; subst e; cases hy; rfl
      · cases hy
  · rintro i s₁ h tk ⟨h', tk', rfl⟩; exact ⟨h, tk, rfl⟩
  · intro i d hd Z' h₁' s₁ hz X' hJ E''
    have hi : i < places.length := by have := (List.getElem?_eq_some_iff.mp hd).1; simpa [intsD] using this
    obtain rfl : d = .int places[i] := by simpa [intsD, hi] using hd.symm
    obtain ⟨hp0, hp1⟩ := hp' _ (List.getElem_mem hi)
    have htk := hlen (places.take i) fun p hp => List.mem_of_mem_take hp
    have hti : (places.take i).length ≤ 16 := by rw [List.length_take]; omega
    have htail : tails[places[i].toNat]? = some (tails.getD places[i].toNat []) := by
      have : places[i].toNat < tails.length := by omega
      rw [List.getD_eq_getElem?_getD, List.getElem?_eq_getElem this]; rfl
    have htm : (tails.getD places[i].toNat []).length ≤ 2 := ht _ (List.mem_of_getElem? htail)
    have hadd : unitsF tails (places.take (i + 1)) = (unitsF tails (places.take i) ++ [chrS places[i]]) ++ (tails.getD places[i].toNat []).filter (· != quoteS) := by
      rw [List.take_succ_eq_append_getElem hi]
      unfold unitsF
      rw [List.flatMap_append]
      simp
    have hsz : sizeLine = 16777216 := rfl
    refine st_assign fd X' (d := .lst (strsD (unitsF tails (places.take (i + 1))))) ?_ (.inl rfl) (by intro p hp; simp at hp) ?_ rfl
    · rw [hadd]
      have e3 : strsD ((unitsF tails (places.take i) ++ [chrS places[i]]) ++ (tails.getD places[i].toNat []).filter (· != quoteS)) = (strsD (unitsF tails (places.take i)) ++ [.str (chrS places[i])]) ++ ((strsD (tails.getD places[i].toNat [])).filter (isStr (· != quoteS))).map id := by
        rw [filter_strs]; simp [strsD]
      rw [e3]
      refine Ev.addLst (Ev.addLst (Ev.name rfl) (Ev.list (EvAll.cons (Ev.chr (Ev.add Ev.int (Ev.name rfl)) (by omega) (by omega) rfl) EvAll.nil) (show (1 : Nat) ≤ 16777216 by omega)) ?_) ?_ ?_
      · simp only [strsD, List.length_map, List.length_singleton]; omega
      · refine Ev.comp (bindD := bind1 "unit") (ok := fun _ => True) (EvIter.tup (Ev.item (Ev.name rfl) (Ev.name rfl) hp0 ?_ (by omega))) ?_ (by decide +kernel) ?_ (tgt_local rfl) (fun _ _ => trivial) ?_ ?_ (by intro _ _; rfl)
        · rw [List.getElem?_map, htail]; rfl
        · simp only [strsD, List.length_map]; omega
        · exact frees_ok trivial
        · intro d hd
          obtain ⟨x, _, rfl⟩ := List.mem_map.mp hd
          exact EvT.cmp (Ev.name rfl) Ev.str fun A Z s v₁ v₂ _ r₁ r₂ => opNeS r₁ r₂
        · intro d hd hk
          exact Ev.name rfl
      · have h1 := List.length_filter_le (isStr (· != quoteS)) (strsD (tails.getD places[i].toNat []))
        simp only [strsD, List.length_append, List.length_map, List.length_singleton, List.map_id] at h1 ⊢
        omega
    · intro h₃ tk₃ X₃
      refine wpAny_execs_nil ⟨rfl, ?_, X₃.lessM ?_⟩
      · obtain ⟨h', tk', rfl⟩ := hJ; exact ⟨_, _, rfl⟩
      · intro y d hy
        split at hy
        · rename_i e; subst e; cases hy; rfl
        · split at hy
          · rename_i e; subst e; cases hy; rfl
          · cases hy
  · rintro s' ⟨h', tk', rfl⟩ X'
    refine st_return fd X' (Ev.name rfl) fun v h'' tk'' hk X'' r => ⟨v, rfl, ?_⟩
    have e : places.take (intsD places).length = places := by simp [intsD]
    rw [e] at r
    exact hQ v h'' tk'' X''.old (r.mono fun b o hz e => ⟨fun hb => hz (.inl hb), e⟩)
end
end Mine

namespace Mine

def shownF (hidden : List Int) : List Int := (upto 0 16).filter fun p => hidden.getD p.toNat 0 == 0
def openedF (hidden : List Int) : Int := 1 + maxI (-1) (shownF hidden)
def behindF (hidden : List Int) (tails : List (List PySem.Str)) : Int := maxI (openedF hidden) (((upto (openedF hidden) 16).filter fun p => (tails.getD p.toNat []).any (· == quoteS)).map (· + 1))
def leftF (hidden : List Int) (tails : List (List PySem.Str)) (ends : List PySem.Str) : List PySem.Str :=
  (if hidden.getD 15 0 == 1 then unitsF tails (shownF hidden) ++ [quoteS] ++ unitsF tails (upto (behindF hidden tails) 16) else unitsF tails (shownF hidden)) ++ ends

theorem getD_some {α : Type} {l : List α} {i : Nat} (h : i < l.length) (d : α) : l[i]? = some (l.getD i d) := by
  rw [List.getD_eq_getElem?_getD, List.getElem?_eq_getElem h]; rfl

section
variable {U : Uni} {A : Around} {Z : Addr → Prop} {s : Shared}
theorem left_call {a u : Addr} {pm cd doc pm' cd' doc' : Value} (F : FnAt U "_law_left" a (fdAt 9 "_law_left" pm cd doc)) (Fu : FnAt U "_law_units" u (fdAt 8 "_law_units" pm' cd' doc')) {hidden : List Int} {tails : List (List PySem.Str)} {ends : List PySem.Str}
    (hh : hidden.length = 16) (ht : ∀ t ∈ tails, t.length ≤ 2) (htl : tails.length = 16) (he : ends.length ≤ 1)
    (f : Fit 60 A) (zok : ∀ b, Z b → ∃ o, s.heap.get? b = some o) (G : Gl U s.heap) {vs : List Value} (rs : RepAll Z s.heap vs [.lst (intsD hidden), tailsD tails, .lst (strsD ends)]) :
    Yields U A (call (.ref a) vs) Z (.lst (strsD (leftF hidden tails ends))) s := fun Q E hQ => by
  obtain ⟨v₁, v₂, v₃, rfl, _, _, _⟩ := rs.three
  refine call_def (ps := ["hidden", "tails", "end"]) (ds := [.lst (intsD hidden), tailsD tails, .lst (strsD ends)]) F (f.le (show 57 ≤ 60 by omega)) G zok rs rfl rfl rfl rfl rfl rfl (by rfl) (by decide) rfl rfl rfl ?_
  intro env h₁ tk X E'
  have fd : Fit 57 (A.deeper env) := f.deeper env
  change FEnv U (scopeOf (stAt 9)) _ _ _ _ _ _ at X
  have hsz : sizeLine = 16777216 := rfl
  have hin : ∀ p ∈ upto 0 16, 0 ≤ p ∧ p < 16 := fun p hp => upto_mem.mp hp
  have hsh : ∀ p ∈ shownF hidden, 0 ≤ p ∧ p < 16 := fun p hp => hin p ((List.mem_filter.mp hp).1)
  have hshl : (shownF hidden).length ≤ 16 := by
    have h1 := List.length_filter_le (fun p : Int => hidden.getD p.toNat 0 == 0) (upto 0 16)
    rw [upto_len] at h1
    exact h1
  have op1 : -1 ≤ maxI (-1) (shownF hidden) ∧ maxI (-1) (shownF hidden) ≤ 15 := by
    refine ⟨(maxI_ge _ _).1, ?_⟩
    rcases maxI_mem (shownF hidden) (-1) with h | h
    · rw [h]; decide
    · have := hsh _ h; omega
  have op2 : 0 ≤ openedF hidden ∧ openedF hidden ≤ 16 := by unfold openedF; omega
  have bh : openedF hidden ≤ behindF hidden tails ∧ behindF hidden tails ≤ 16 := by
    unfold behindF
    refine ⟨(maxI_ge _ _).1, ?_⟩
    rcases maxI_mem (((upto (openedF hidden) 16).filter fun p => (tails.getD p.toNat []).any (· == quoteS)).map (· + 1)) (openedF hidden) with h | h
    · rw [h]; exact op2.2
    · obtain ⟨p, hp, e⟩ := List.mem_map.mp h
      have := upto_mem.mp ((List.mem_filter.mp hp).1)
      rw [← e]; omega
  refine st_assign fd X (d := .lst (strsD (unitsF tails (shownF hidden)))) ?_ (.inl rfl) (by intro p hp; simp at hp) ?_ rfl
  · refine Ev.callF (ds := [.lst (intsD (shownF hidden)), tailsD tails]) (EvAll.cons ?_ (EvAll.cons (Ev.name rfl) EvAll.nil)) rfl Fu fun A Z s vs f' zok G rs =>
      units_call Fu ht hshl (fun p hp => by rw [htl]; exact hsh p hp) (by omega) (f'.le (by omega)) zok G (fun h => EvIter.lst h) rs
    have e : shownF hidden = ((upto 0 16).filter fun p => hidden.getD p.toNat 0 == 0).map id := by rw [List.map_id]; rfl
    rw [e, ← int_list]
    refine Ev.compI (EvIter.upto (Ev.range1 Ev.int rfl) (by decide) (by decide) (by decide) (by decide)) (by decide) (by decide +kernel) ⟨⟨_, rfl⟩, trivial⟩ (tgt_local rfl) ?_ ?_
    · intro n hn
      obtain ⟨h0, h1⟩ := hin n hn
      exact EvT.cmp (Ev.item (Ev.name rfl) (Ev.name rfl) h0 (by rw [intsD, List.getElem?_map, getD_some (d := 0) (by omega)]; rfl) (by omega)) Ev.int fun A Z s v₁ v₂ _ r₁ r₂ => opEq r₁ r₂
    · intro n hn _; exact Ev.name rfl
  · intro h₂ tk₂ X₂
    have hul : ∀ ps : List Int, ps.length ≤ 16 → (unitsF tails ps).length ≤ 48 := by
      have gen : ∀ ps : List Int, (unitsF tails ps).length ≤ 3 * ps.length := by
        intro ps
        induction ps with
        | nil => exact Nat.le_refl _
        | cons p ps ih =>
          have h2 : ((tails.getD p.toNat []).filter (· != quoteS)).length ≤ 2 := by
            refine Nat.le_trans (List.length_filter_le _ _) ?_
            rw [List.getD_eq_getElem?_getD]
            cases e : tails[p.toNat]? with
            | none => simp
            | some t => exact ht t (List.mem_of_getElem? e)
          show ((chrS p :: ((tails.getD p.toNat []).filter (· != quoteS))) ++ unitsF tails ps).length ≤ _
          rw [List.length_append, List.length_cons, List.length_cons]
          omega
      intro ps hps
      have := gen ps; omega
    have hbl : (upto (behindF hidden tails) 16).length ≤ 16 := by rw [upto_len]; omega
    -- the end
    have done : ∀ (us : List PySem.Str) (m' : PySem.Str → Option D) (s₃ : Shared) E₃ (e : Expr) (p : Pos), us ++ ends = leftF hidden tails ends → Ev U 57 (scopeOf (stAt 9)) m' e (.lst (strsD us ++ strsD ends)) → (∃ h' tk', s₃ = { s with heap := h', toks := tk' }) →
        FEnv U (scopeOf (stAt 9)) m' [] (fun b => Z b ∨ ownF env [] b) s.heap env s₃.heap → wpAny (model U.prog U.w) (A.deeper env) (execs [.Return (some e) p] env) (fun fl s' => ∃ v, fl = .ret v ∧ Q v s') E₃ s₃ := by
      rintro us m' s₃ E₃ e p heq hev ⟨h', tk', rfl⟩ X'
      refine st_return fd X' hev fun v h'' tk'' hk X'' r => ⟨v, rfl, ?_⟩
      have e : strsD us ++ strsD ends = strsD (leftF hidden tails ends) := by rw [← heq]; simp [strsD]
      rw [e] at r
      exact hQ v h'' tk'' X''.old (r.mono fun b o hz e => ⟨fun hb => hz (.inl hb), e⟩)
    refine st_if fd X₂ (b := hidden.getD 15 0 == 1) (EvT.cmp (Ev.item (Ev.name rfl) Ev.int (by decide) (by rw [intsD, List.getElem?_map, getD_some (d := 0) (by rw [hh]; decide)]; rfl) (by decide)) Ev.int fun A Z s v₁ v₂ _ r₁ r₂ => opEq r₁ r₂) ?_ ?_
    · intro hb h₃ tk₃ X₃
      refine st_assign fd X₃ (d := .int (openedF hidden)) ?_ (.inl rfl) (by intro p hp; simp at hp) ?_ rfl
      · refine Ev.add Ev.int (Ev.maxOf ?_ rfl)
        have e : intsD (-1 :: shownF hidden) = [.int (-1)] ++ ((upto 0 16).filter fun p => hidden.getD p.toNat 0 == 0).map fun n => D.int (id n) := by rw [int_list, List.map_id]; rfl
        rw [e]
        refine Ev.addLst (Ev.list (EvAll.cons (Ev.neg Ev.int) EvAll.nil) (show (1 : Nat) ≤ 16777216 by omega)) (Ev.compI (EvIter.upto (Ev.range1 Ev.int rfl) (by decide) (by decide) (by decide) (by decide)) (by decide) (by decide +kernel) ⟨⟨_, rfl⟩, trivial⟩ (tgt_local rfl) ?_ ?_) ?_
        · intro n hn
          obtain ⟨h0, h1⟩ := hin n hn
          exact EvT.cmp (Ev.item (Ev.name rfl) (Ev.name rfl) h0 (by rw [intsD, List.getElem?_map, getD_some (d := 0) (by omega)]; rfl) (by omega)) Ev.int fun A Z s v₁ v₂ _ r₁ r₂ => opEq r₁ r₂
        · intro n hn _; exact Ev.name rfl
        · have h1 := hshl
          rw [List.length_map]
          show 1 + (shownF hidden).length ≤ _
          omega
      · intro h₄ tk₄ X₄
        refine st_assign fd X₄ (d := .int (behindF hidden tails)) ?_ (.inl rfl) (by intro p hp; simp at hp) ?_ rfl
        · refine Ev.maxOf ?_ rfl
          have e : intsD (openedF hidden :: (((upto (openedF hidden) 16).filter fun p => (tails.getD p.toNat []).any (· == quoteS)).map (· + 1))) = [.int (openedF hidden)] ++ ((upto (openedF hidden) 16).filter fun p => (tails.getD p.toNat []).any (· == quoteS)).map fun n => D.int (n + 1) := by
            rw [int_list]; rfl
          rw [e]
          refine Ev.addLst (Ev.list (EvAll.cons (Ev.name rfl) EvAll.nil) (show (1 : Nat) ≤ 16777216 by omega)) (Ev.compI (EvIter.upto (Ev.range2 (Ev.name rfl) Ev.int rfl) (by omega) (by omega) (by decide) (by decide)) ?_ (by decide +kernel) ⟨⟨_, rfl⟩, trivial⟩ (tgt_local rfl) ?_ ?_) ?_
          · rw [upto_len]; omega
          · intro n hn
            obtain ⟨h0, h1⟩ := upto_mem.mp hn
            exact EvT.cmp Ev.str (Ev.item (Ev.name rfl) (Ev.name rfl) (by omega) (by rw [List.getElem?_map, getD_some (d := []) (by omega)]; rfl) (by omega)) fun A Z s v₁ v₂ _ r₁ r₂ => opInT r₁ r₂
          · intro n hn _; exact Ev.add (Ev.name rfl) Ev.int
          · have h1 := List.length_filter_le (fun p : Int => (tails.getD p.toNat []).any (· == quoteS)) (upto (openedF hidden) 16)
            rw [upto_len] at h1
            rw [List.length_map, List.length_singleton]
            omega
        · intro h₅ tk₅ X₅
          refine st_assign fd X₅ (d := .lst (strsD (unitsF tails (shownF hidden)) ++ [.str quoteS] ++ strsD (unitsF tails (upto (behindF hidden tails) 16)))) ?_ (.inl rfl) (by intro p hp; simp at hp) ?_ rfl
          · have h1 := hul _ hshl
            have h2 := hul _ hbl
            refine Ev.addLst (Ev.addLst (Ev.name rfl) (Ev.list (EvAll.cons Ev.str EvAll.nil) (show (1 : Nat) ≤ 16777216 by omega)) ?_) ?_ ?_
            · simp only [strsD, List.length_map, List.length_singleton]; omega
            · refine Ev.callF (ds := [.rng (behindF hidden tails) 16 1, tailsD tails]) (EvAll.cons (Ev.range2 (Ev.name rfl) Ev.int rfl) (EvAll.cons (Ev.name rfl) EvAll.nil)) rfl Fu fun A Z s vs f' zok G rs =>
                units_call Fu ht hbl (fun p hp => by rw [htl]; have := upto_mem.mp hp; omega) (by omega) (f'.le (by omega)) zok G (fun h => EvIter.upto h (by omega) (by omega) (by decide) (by decide)) rs
            · simp only [strsD, List.length_append, List.length_map, List.length_singleton]; omega
          · intro h₆ tk₆ X₆
            refine wpAny_execs_nil ?_
            refine done (unitsF tails (shownF hidden) ++ [quoteS] ++ unitsF tails (upto (behindF hidden tails) 16)) _ _ _ _ _ ?_ (Ev.addLst (Ev.name ?_) (Ev.name rfl) ?_) ⟨_, _, rfl⟩ X₆
            · unfold leftF; rw [if_pos hb]
            · show some _ = some _
              simp [strsD]
            · have h1 := hul _ hshl
              have h2 := hul _ hbl
              simp only [strsD, List.length_append, List.length_map, List.length_singleton]; omega
    · intro hb h₃ tk₃ X₃
      refine wpAny_execs_nil ?_
      refine done (unitsF tails (shownF hidden)) _ _ _ _ _ ?_ (Ev.addLst (Ev.name rfl) (Ev.name rfl) ?_) ⟨_, _, rfl⟩ X₃
      · unfold leftF; rw [if_neg (by rw [hb]; decide)]
      · have h1 := hul _ hshl
        simp only [strsD, List.length_map]; omega
end
end Mine

namespace Mine
section
variable {U : Uni} {k : Nat} {σ : Scope} {m : PySem.Str → Option D} {mu : List Mut} {A : Around} {Z : Addr → Prop} {h₀ : Heap} {env : Env} {s : Shared} {Q : Flow → Shared → Prop} {E : Value → Shared → Prop}

/-- x, y = pair -/
theorem FEnv.assign2 {x y : PySem.Str} {px py tp : Pos} {kk : Nat} {v : Value} {d e : D} {Q : Unit → Shared → Prop} (f : Fit k A) (X : FEnv U σ m mu Z h₀ env s.heap) (r : Rep Z s.heap v (.tup [d, e]))
    (hx : σ.names.lookup x = some .local ∨ σ.names.lookup x = some .cell) (hy : σ.names.lookup y = some .local ∨ σ.names.lookup y = some .cell) (hnx : ∀ p ∈ mu, p.name ≠ x) (hny : ∀ p ∈ mu, p.name ≠ y)
    (h : ∀ h' tk, FEnv U σ (upd (upd m x d) y e) mu Z h₀ env h' → Q () { s with heap := h', toks := tk }) (hatom : d.atom = true ∧ e.atom = true)
    (hdx : (x == ("__debug__" : PySem.Str)) = false := by decide) (hdy : (y == ("__debug__" : PySem.Str)) = false := by decide) :
    wpAny (model U.prog U.w) A (assign (.Tuple [.Name x px, .Name y py] kk tp) env v) Q E s := by
  obtain ⟨a, vs, n, rfl, hz, ho, ra⟩ := r.tup_inv
  obtain ⟨v₁, v₂, rfl, r₁, r₂⟩ := ra.two
  refine wpAny_assign_Tuple f.hh (items := [v₁, v₂].toArray) ⟨_, ho, rfl, n, rfl⟩ rfl rfl fun h' he => ?_
  have hk : Kept s.heap h' := fun b o e => he b o (Nat.ne_of_lt (Heap.lt_size e)) e
  have X' := X.kept hk
  show wpAny _ A (assignInOrder [assign (.Name x px) env, assign (.Name y py) env] [v₁, v₂]) _ _ _
  refine wpAny_assignInOrder_more (wpAny_assign_Name (FEnv.storeD (s := { s with heap := h' }) X' hx (r₁.kept hk) (fun h₂ tk₂ X₂ => ?_) hdx))
  rw [mu_same hnx] at X₂
  refine wpAny_assignInOrder_more (wpAny_assign_Name (FEnv.storeD (s := { s with heap := h₂, toks := tk₂ }) X₂ hy (r₂.atom hatom.2) (fun h₃ tk₃ X₃ => ?_) hdy))
  rw [mu_same hny] at X₃
  exact wpAny_assignInOrder_none (h h₃ tk₃ X₃)
theorem st_assign2 {x y : PySem.Str} {px py tp pos : Pos} {kk : Nat} {v : Expr} {rest : List Stmt} {d e : D} (f : Fit k A) (X : FEnv U σ m mu Z h₀ env s.heap) (hv : Ev U k σ m v (.tup [d, e]))
    (hx : σ.names.lookup x = some .local ∨ σ.names.lookup x = some .cell) (hy : σ.names.lookup y = some .local ∨ σ.names.lookup y = some .cell) (hnx : ∀ p ∈ mu, p.name ≠ x) (hny : ∀ p ∈ mu, p.name ≠ y)
    (h : ∀ h' tk, FEnv U σ (upd (upd m x d) y e) mu Z h₀ env h' → wpAny (model U.prog U.w) A (execs rest env) Q E { s with heap := h', toks := tk }) (hatom : d.atom = true ∧ e.atom = true)
    (hs : swapsWithSole [.Tuple [.Name x px, .Name y py] kk tp] v pos.line env = pure false := by rfl) (hw : swappedStores [.Tuple [.Name x px, .Name y py] kk tp] v env = pure none := by rfl)
    (hdx : (x == ("__debug__" : PySem.Str)) = false := by decide) (hdy : (y == ("__debug__" : PySem.Str)) = false := by decide) :
    wpAny (model U.prog U.w) A (execs (.Assign [.Tuple [.Name x px, .Name y py] kk tp] v pos :: rest) env) Q E s :=
  wpAny_execs_cons (Assign_Tuple (hv A env Z s f X.toAt _ _ fun u h' tk hk r => FEnv.assign2 (s := { s with heap := h', toks := tk }) f (X.kept hk) r hx hy hnx hny h hatom hdx hdy) hs hw)

theorem EvT.int {x : PySem.Str} {pos : Pos} {n : Int} (hx : m x = some (.int n)) : EvT U k σ m (.Name x pos) (n != 0) := fun A env Z s f X Q E hQ => by
  refine wpAny_isTrue_value (Ev.name hx A env Z s f X _ _ fun v h' tk hk r => ?_) rfl
  obtain ⟨t, rfl⟩ := r.int_inv
  exact P.truthy_int (hQ h' tk hk)
theorem EvT.bool {x : PySem.Str} {pos : Pos} {b : Bool} (hx : m x = some (.bool b)) : EvT U k σ m (.Name x pos) b := fun A env Z s f X Q E hQ => by
  refine wpAny_isTrue_value (Ev.name hx A env Z s f X _ _ fun v h' tk hk r => ?_) rfl
  obtain rfl := r.bool_inv
  exact wpAny_truthy_bool (hQ h' tk hk)

/-- while test: .. -/
theorem st_while {τ : Type} {test : Expr} {pos : Pos} {body rest : List Stmt} (f : Fit k A) (X : FEnv U σ m mu Z h₀ env s.heap) (t₀ : τ) (I : τ → Prop) (M : τ → PySem.Str → Option D) (meas : τ → Nat) (tst : τ → Bool) (J : Shared → Prop)
    (hI : I t₀) (hM : ∀ y d, M t₀ y = some d → m y = some d) (hJ0 : J s) (hJ : ∀ s h tk, J s → J { s with heap := h, toks := tk })
    (htest : ∀ t, I t → EvT U k σ (M t) test (tst t))
    (hbody : ∀ t, I t → tst t = true → ∀ s₁, FEnv U σ (M t) mu Z h₀ env s₁.heap → J s₁ → ∀ E', wpAny (model U.prog U.w) A (execs body env) (fun fl s₂ => fl = .next ∧ J s₂ ∧ ∃ t', I t' ∧ meas t' < meas t ∧ FEnv U σ (M t') mu Z h₀ env s₂.heap) E' s₁)
    (h : ∀ t s', I t → tst t = false → J s' → FEnv U σ (M t) mu Z h₀ env s'.heap → wpAny (model U.prog U.w) A (execs rest env) Q E s') :
    wpAny (model U.prog U.w) A (execs (.While test body [] pos :: rest) env) Q E s := by
  refine wpAny_execs_cons (wpAny_While (codeAny_whileLoop (fun n s' => ∃ t, I t ∧ n = meas t ∧ J s' ∧ FEnv U σ (M t) mu Z h₀ env s'.heap) ?_ (meas t₀) ⟨t₀, hI, rfl, hJ0, X.lessM hM⟩))
  rintro n s' ⟨t, ht, rfl, hJs, Xt⟩
  refine htest t ht A env Z s' f Xt.toAt _ _ fun h' tk hk => ?_
  cases hb : tst t with
  | true =>
    simp only [if_true]
    refine wpAny_mono (hbody t ht hb _ (Xt.kept hk) (hJ _ _ _ hJs) _) (fun fl s₂ h₂ => ?_) fun _ _ e => e
    obtain ⟨rfl, hJ₂, t', ht', hlt, X'⟩ := h₂
    exact ⟨meas t', hlt, t', ht', rfl, hJ₂, X'⟩
  | false =>
    simp only [Bool.false_eq_true, if_false]
    exact wpAny_execs_nil (h t _ ht hb (hJ _ _ _ hJs) (Xt.kept hk))
end

theorem pickL_upto {α : Type} (xs : List α) (n : Nat) (hn : n ≤ xs.length) : pickL xs none (some (n : Int)) none = xs.take n := by
  unfold pickL
  rw [sliceBounds_plain]
  simp only [Option.elim, clipAt_nat, Nat.min_eq_left hn]
  rw [sliceRange_one]
  have := StrLaws.picks xs n 0 (by omega)
  simpa using this
end Mine

namespace Mine

def firstF (number : Int) : List Int := (upto 0 16).map fun p => number / 2 ^ (15 - p).toNat % 2
def rngI (a b c : Int) : List Int := (List.range (Builtin.Range.rangeSize a b c).toNat).map fun (i : Nat) => a + (i : Int) * c
theorem rngI_eq (a b c : Int) : rngInts a b c = intsD (rngI a b c) := by simp [rngInts, rngI, intsD]
def backs (turn place : Int) : List Int := (upto 0 (place + 1)).filter fun back => turn == 1 || back / (turn - 1) % 2 == 0
def rowF (first : List Int) (turn : Int) : List Int := (upto 0 16).map fun place => ((backs turn place).map fun back => first.getD (place - back).toNat 0).sum % 2
def row4F (first : List Int) : List Int := (upto 0 16).map fun place => ((rngI 0 (place + 1) 4).map fun back => first.getD (place - back).toNat 0).sum % 2
def rowsF (number : Int) : List (List Int) := firstF number :: (upto 1 4).map (rowF (firstF number)) ++ [row4F (firstF number)]
def rowsD (rows : List (List Int)) : D := .lst (rows.map fun r => .lst (intsD r))

theorem swaps_cell {elt : Expr} {gens : List Comprehension} {sc : Scope} {p px : Pos} {x : PySem.Str} {line : Nat} {env : Env} {σ : Scope} (hs : env.scope = σ) (hx : σ.names.lookup x = some .cell) :
    swapsWith (.ListComp elt gens sc p) (some (.Name x px)) line env = pure false := by
  have hk : (env.kindOf x == some NameKind.local) = false := by
    show (env.scope.names.lookup x == some NameKind.local) = false
    rw [hs, hx]; rfl
  show (pure (env.blockKind == .function && env.kindOf x == some .local && px.line == p.line && !(sc.names.any fun (n, k) => n == x && (k == .local || k == .cell))) : Sem Bool) = pure false
  rw [hk, Bool.and_false, Bool.false_and, Bool.false_and]

theorem bits01 (number : Int) : ∀ n ∈ firstF number, 0 ≤ n ∧ n < 2 := fun n hn => by
  obtain ⟨p, _, rfl⟩ := List.mem_map.mp hn
  exact ⟨Int.emod_nonneg _ (by decide), Int.emod_lt_of_pos _ (by decide)⟩
theorem sum_bits {l : List Int} (h : ∀ n ∈ l, 0 ≤ n ∧ n < 2) : 0 ≤ l.sum ∧ l.sum ≤ l.length := by
  induction l with
  | nil => simp
  | cons a l ih =>
    have h1 := h a (by simp)
    have h2 := ih fun n hn => h n (by simp [hn])
    rw [List.sum_cons, List.length_cons]
    omega
theorem getD_bits {first : List Int} (h : ∀ n ∈ first, 0 ≤ n ∧ n < 2) (i : Nat) : 0 ≤ first.getD i 0 ∧ first.getD i 0 < 2 := by
  rw [List.getD_eq_getElem?_getD]
  cases e : first[i]? with
  | none => simp
  | some n => exact h n (List.mem_of_getElem? e)

section
variable {U : Uni} {A : Around} {Z : Addr → Prop} {s : Shared}
theorem rows_call {a : Addr} {pm cd doc : Value} (F : FnAt U "_law_rows" a (fdAt 7 "_law_rows" pm cd doc)) {number : Int} (h0 : 0 ≤ number)
    (f : Fit 60 A) (zok : ∀ b, Z b → ∃ o, s.heap.get? b = some o) (G : Gl U s.heap) {vs : List Value} (rs : RepAll Z s.heap vs [.int number]) :
    Yields U A (call (.ref a) vs) Z (rowsD (rowsF number)) s := fun Q E hQ => by
  obtain ⟨v₁, rfl, _⟩ := rs.one
  refine call_def (ps := ["number"]) (ds := [.int number]) F (f.le (show 57 ≤ 60 by omega)) G zok rs rfl rfl rfl rfl rfl rfl (by rfl) (by decide) rfl rfl rfl ?_
  intro env h₁ tk X E'
  have fd : Fit 57 (A.deeper env) := f.deeper env
  change FEnv U (scopeOf (stAt 7)) _ _ _ _ _ _ at X
  have hsz : sizeLine = 16777216 := rfl
  have hin : ∀ p ∈ upto 0 16, 0 ≤ p ∧ p < 16 := fun p hp => upto_mem.mp hp
  have hfl : (firstF number).length = 16 := by simp [firstF, upto_len]
  have hfb := bits01 number
  refine st_assign fd X (d := .lst (intsD (firstF number))) ?_ (.inr rfl) (by intro p hp; simp at hp) ?_ (swaps_cell X.toAt.scope rfl)
  · rw [show intsD (firstF number) = (upto 0 16).map fun p => D.int (number / 2 ^ (15 - p).toNat % 2) from by rw [int_list]; rfl]
    refine Ev.compM (EvIter.upto (Ev.range1 Ev.int rfl) (by decide) (by decide) (by decide) (by decide)) (by decide) (by decide +kernel) ⟨⟨_, rfl⟩, trivial⟩ (tgt_local rfl) ?_
    intro n hn
    obtain ⟨h1, h2⟩ := hin n hn
    have e : (15 : Int) - n = (((15 - n).toNat : Nat) : Int) := by omega
    have hpw : (0 : Int) < 2 ^ (15 - n).toNat := Int.pow_pos (by decide)
    have hle : (2 : Int) ^ (15 - n).toNat ≤ 2 ^ 15 := by
      have : (15 - n).toNat ≤ 15 := by omega
      exact_mod_cast Nat.pow_le_pow_right (by decide : 0 < 2) this
    refine Ev.mod (Ev.div (Ev.name rfl) (Ev.pow Ev.int (e ▸ Ev.sub Ev.int (Ev.name rfl)) ?_) hpw ?_) Ev.int (by decide)
    · have : (Builtin.Int.intBits 2 : Int) = 2 := by decide
      rw [this]; omega
    · have h3 : ((2 : Int) ^ (15 - n).toNat).natAbs ≤ 2 ^ 15 := by omega
      have h4 : ((2 : Int) ^ (15 - n).toNat).natAbs ≠ 0 := by omega
      have := (Nat.log2_lt (k := 16) h4).mpr (by omega)
      omega
  · intro h₂ tk₂ X₂
    refine st_newlist fd X₂ (ds := [.lst (intsD (firstF number))]) (EvAll.cons (Ev.name rfl) EvAll.nil) (show (1 : Nat) ≤ 16777216 by omega) (.inl rfl) (by intro p hp; simp at hp) ?_
    intro ra h₃ tk₃ X₃
    refine st_for (items := intsD (upto 1 4)) fd X₃ (EvIter.upto (Ev.range2 Ev.int Ev.int rfl) (by decide) (by decide) (by decide) (by decide)) (.inr rfl)
      (fun i y => if y = "first" then some (.lst (intsD (firstF number))) else none) (fun i => [⟨"rows", ra, (firstF number :: ((upto 1 4).take i).map (rowF (firstF number))).map fun r => .lst (intsD r)⟩]) (fun _ s' => ∃ h' tk', s' = { s with heap := h', toks := tk' })
      ?_ rfl ⟨_, _, rfl⟩ ?_ (by intro i p hp; obtain rfl := List.mem_singleton.mp hp; show ("rows" : PySem.Str) ≠ "turn"; decide) (by intro i p hp; obtain rfl := List.mem_singleton.mp hp; exact .inr rfl) ?_ ?_
    · intro y d hy
      split at hy
      · rename_i e; subst e; cases hy; rfl
      · cases hy
    · rintro i s₁ h tk ⟨h', tk', rfl⟩; exact ⟨h, tk, rfl⟩
    · intro i d hd Z' h₁' s₁ hz X' hJ E''
      have hi : i < (upto 1 4).length := by have := (List.getElem?_eq_some_iff.mp hd).1; simpa [intsD] using this
      obtain rfl : d = .int (upto 1 4)[i] := by simpa [intsD, hi] using hd.symm
      have ht := upto_mem.mp (List.getElem_mem hi)
      generalize hturn : (upto 1 4)[i] = turn at *
      refine st_append fd X' (d := .lst (intsD (rowF (firstF number) turn))) ?_ ?_ ?_
      · rw [show intsD (rowF (firstF number) turn) = (upto 0 16).map fun place => D.int (((backs turn place).map fun back => (firstF number).getD (place - back).toNat 0).sum % 2) from by rw [int_list]; rfl]
        refine Ev.compM (EvIter.upto (Ev.range1 Ev.int rfl) (by decide) (by decide) (by decide) (by decide)) (by decide) (by decide +kernel) ⟨⟨_, rfl⟩, ⟨_, rfl⟩, trivial⟩ (tgt_cell rfl fun C => ⟨_, rfl⟩) ?_
        intro place hpl
        obtain ⟨p1, p2⟩ := hin place hpl
        have hsum := sum_bits (l := (backs turn place).map fun back => (firstF number).getD (place - back).toNat 0) (fun n hn => by obtain ⟨b, _, rfl⟩ := List.mem_map.mp hn; exact getD_bits hfb _)
        have hbl : (backs turn place).length ≤ 16 := by
          have h1 := List.length_filter_le (fun back : Int => turn == 1 || back / (turn - 1) % 2 == 0) (upto 0 (place + 1))
          rw [upto_len] at h1
          show (List.filter _ _).length ≤ _
          omega
        refine Ev.mod (Ev.sum ?_ (fun n hn => by obtain ⟨b, _, rfl⟩ := List.mem_map.mp hn; exact (getD_bits hfb _).1) (by rw [List.length_map] at hsum; omega) rfl) Ev.int (by decide)
        rw [← int_list]
        refine Ev.compI (EvIter.upto (Ev.range1 (Ev.add (Ev.name rfl) Ev.int) rfl) (by decide) (by decide) (by omega) (by omega)) (by rw [upto_len]; omega) (by decide +kernel) ⟨⟨_, rfl⟩, ⟨_, rfl⟩, ⟨_, rfl⟩, trivial⟩ (tgt_local rfl) ?_ ?_
        · intro back hb
          obtain ⟨b1, b2⟩ := upto_mem.mp hb
          refine EvT.or (EvT.cmp (Ev.name rfl) Ev.int fun A Z s v₁ v₂ _ r₁ r₂ => opEq r₁ r₂) fun ht1 => EvT.cmp (Ev.mod (Ev.div (Ev.name rfl) (Ev.sub (Ev.name rfl) Ev.int) ?_ ?_) Ev.int (by decide)) Ev.int fun A Z s v₁ v₂ _ r₁ r₂ => opEq r₁ r₂
          · have : turn ≠ 1 := by simpa using ht1
            omega
          · have : (turn - 1).natAbs < 4 := by omega
            have h4 : (turn - 1).natAbs ≠ 0 := by have : turn ≠ 1 := by simpa using ht1
                                                  omega
            have := (Nat.log2_lt (k := 2) h4).mpr (by omega)
            omega
        · intro back hb _
          obtain ⟨b1, b2⟩ := upto_mem.mp hb
          exact Ev.item (Ev.name rfl) (Ev.sub (Ev.name rfl) (Ev.name rfl)) (by omega) (by rw [intsD, List.getElem?_map, getD_some (d := 0) (by omega)]; rfl) (by omega)
      · have h1 := upto_len 1 4
        simp only [List.length_map, List.length_cons, List.length_take]; omega
      · intro h₄ tk₄ X₄
        refine wpAny_execs_nil ⟨rfl, ?_, ?_⟩
        · obtain ⟨h', tk', rfl⟩ := hJ; exact ⟨_, _, rfl⟩
        · rw [List.take_succ_eq_append_getElem hi, hturn]
          simp only [List.map_append, List.map_cons, List.map_nil, ← List.cons_append] at X₄ ⊢
          exact X₄.lessM fun y d hy => by
            split at hy
            · rename_i e; subst e; cases hy; rfl
            · cases hy
    · rintro s' ⟨h', tk', rfl⟩ X'
      have e4 : (upto 1 4).take (intsD (upto 1 4)).length = upto 1 4 := by simp [intsD]
      rw [e4] at X'
      refine st_append fd X' (d := .lst (intsD (row4F (firstF number)))) ?_ (by have h1 := upto_len 1 4; simp only [List.length_map, List.length_cons]; omega) ?_
      · rw [show intsD (row4F (firstF number)) = (upto 0 16).map fun place => D.int (((rngI 0 (place + 1) 4).map fun back => (firstF number).getD (place - back).toNat 0).sum % 2) from by rw [int_list]; rfl]
        refine Ev.compM (EvIter.upto (Ev.range1 Ev.int rfl) (by decide) (by decide) (by decide) (by decide)) (by decide) (by decide +kernel) ⟨⟨_, rfl⟩, trivial⟩ (tgt_cell rfl fun C => ⟨_, rfl⟩) ?_
        intro place hpl
        have hr : ∀ p ∈ upto 0 16, Builtin.Range.small 0 (p + 1) 4 = true ∧ 0 ≤ Builtin.Range.rangeSize 0 (p + 1) 4 ∧ (rngI 0 (p + 1) 4).length ≤ 16 ∧ ∀ b ∈ rngI 0 (p + 1) 4, 0 ≤ b ∧ b ≤ p := by decide
        obtain ⟨r1, r2, r3, r4⟩ := hr place hpl
        obtain ⟨p1, p2⟩ := hin place hpl
        have hsum := sum_bits (l := (rngI 0 (place + 1) 4).map fun back => (firstF number).getD (place - back).toNat 0) (fun n hn => by obtain ⟨b, _, rfl⟩ := List.mem_map.mp hn; exact getD_bits hfb _)
        refine Ev.mod (Ev.sum ?_ (fun n hn => by obtain ⟨b, _, rfl⟩ := List.mem_map.mp hn; exact (getD_bits hfb _).1) (by rw [List.length_map] at hsum; omega) rfl) Ev.int (by decide)
        rw [← int_list]
        refine Ev.compM ?_ (by omega) (by decide +kernel) ⟨⟨_, rfl⟩, ⟨_, rfl⟩, trivial⟩ (tgt_local rfl) ?_
        · rw [← rngI_eq]
          exact EvIter.rng (Ev.range3 Ev.int (Ev.add (Ev.name rfl) Ev.int) Ev.int (by decide) (by decide) rfl) r1 r2
        · intro back hb
          obtain ⟨b1, b2⟩ := r4 back hb
          exact Ev.item (Ev.name rfl) (Ev.sub (Ev.name rfl) (Ev.name rfl)) (by omega) (by rw [intsD, List.getElem?_map, getD_some (d := 0) (by omega)]; rfl) (by omega)
      · intro h₅ tk₅ X₅
        refine st_returnA fd X₅ (by intro p hp; obtain rfl := List.mem_singleton.mp hp; show (("rows" : PySem.Str) == "__debug__") = false; decide) (Ev.name rfl) fun v h'' tk'' hk X'' r => ⟨v, rfl, ?_⟩
        have e5 : (D.lst ((firstF number :: (upto 1 4).map (rowF (firstF number))).map (fun r => D.lst (intsD r)) ++ [.lst (intsD (row4F (firstF number)))])) = rowsD (rowsF number) := by
          unfold rowsD rowsF; simp
        rw [e5] at r
        refine hQ v h'' tk'' X''.old (r.mono fun b o hz e => ⟨fun hb => hz ⟨.inl (.inl hb), fun p hp => ?_⟩, e⟩)
        have hn := (X''.muts p hp).2.2.1
        intro e'
        obtain ⟨o', he'⟩ := zok b hb
        rw [e', he'] at hn; exact nomatch hn
end
end Mine

namespace Mine

def lettersF (row : List Int) : List Int := ([0, 4, 8, 12] : List Int).map fun p => 8 * row.getD p.toNat 0 + 4 * row.getD (p + 1).toNat 0 + 2 * row.getD (p + 2).toNat 0 + row.getD (p + 3).toNat 0
def maxL : List Int → Int
  | [] => 0
  | a :: l => maxI a l
def wordF (row : List Int) : Array UInt8 := byteArr (((upto 0 4).filter fun c => decide (maxL ((lettersF row).take (c + 1).toNat) > 0)).map fun c => 65 + (lettersF row).getD c.toNat 0)

theorem mulOk_small {a b : Int} (h : Builtin.Int.intBits a ≤ 64) : IntMulOk a b := IntMulOk.of_left h

section
variable {U : Uni} {A : Around} {Z : Addr → Prop} {s : Shared}
theorem word_call {a : Addr} {pm cd doc : Value} (F : FnAt U "_law_word" a (fdAt 6 "_law_word" pm cd doc)) {row : List Int} (hl : row.length = 16) (hb : ∀ n ∈ row, 0 ≤ n ∧ n < 2)
    (f : Fit 30 A) (zok : ∀ b, Z b → ∃ o, s.heap.get? b = some o) (G : Gl U s.heap) {vs : List Value} (rs : RepAll Z s.heap vs [.lst (intsD row)]) :
    Yields U A (call (.ref a) vs) Z (.bytes (wordF row)) s := fun Q E hQ => by
  obtain ⟨v₁, rfl, _⟩ := rs.one
  refine call_def (ps := ["row"]) (ds := [.lst (intsD row)]) F (f.le (show 27 ≤ 30 by omega)) G zok rs rfl rfl rfl rfl rfl rfl (by rfl) (by decide) rfl rfl rfl ?_
  intro env h₁ tk X E'
  have fd : Fit 27 (A.deeper env) := f.deeper env
  change FEnv U (scopeOf (stAt 6)) _ _ _ _ _ _ at X
  have hsz : sizeLine = 16777216 := rfl
  have hll : (lettersF row).length = 4 := rfl
  have hlb : ∀ n ∈ lettersF row, 0 ≤ n ∧ n ≤ 15 := fun n hn => by
    obtain ⟨p, _, rfl⟩ := List.mem_map.mp hn
    have h1 := getD_bits hb p.toNat
    have h2 := getD_bits hb (p + 1).toNat
    have h3 := getD_bits hb (p + 2).toNat
    have h4 := getD_bits hb (p + 3).toNat
    omega
  refine st_assign fd X (d := .lst (intsD (lettersF row))) ?_ (.inr rfl) (by intro p hp; simp at hp) ?_ (swaps_cell X.toAt.scope rfl)
  · rw [show intsD (lettersF row) = ([0, 4, 8, 12] : List Int).map fun p => D.int (8 * row.getD p.toNat 0 + 4 * row.getD (p + 1).toNat 0 + 2 * row.getD (p + 2).toNat 0 + row.getD (p + 3).toNat 0) from by rw [int_list]; rfl]
    refine Ev.compM (EvIter.tup (ds := intsD [0, 4, 8, 12]) (Ev.tuple (EvAll.cons Ev.int (EvAll.cons Ev.int (EvAll.cons Ev.int (EvAll.cons Ev.int EvAll.nil)))) (show (4 : Nat) ≤ 16777216 by omega))) (by decide) (by decide +kernel) ⟨⟨_, rfl⟩, trivial⟩ (tgt_local rfl) ?_
    intro n hn
    have hn' : 0 ≤ n ∧ n ≤ 12 := by
      simp only [List.mem_cons, List.not_mem_nil, or_false] at hn
      omega
    have it : ∀ (j : Int), 0 ≤ j → j < 16 → (intsD row)[j.toNat]? = some (.int (row.getD j.toNat 0)) := fun j h1 h2 => by
      rw [intsD, List.getElem?_map, getD_some (d := 0) (by omega)]; rfl
    refine Ev.add (Ev.add (Ev.add (Ev.mul Ev.int (Ev.item (Ev.name rfl) (Ev.name rfl) (by omega) (it n (by omega) (by omega)) (by omega)) (mulOk_small (by decide)))
      (Ev.mul Ev.int (Ev.item (Ev.name rfl) (Ev.add (Ev.name rfl) Ev.int) (by omega) (it (n + 1) (by omega) (by omega)) (by omega)) (mulOk_small (by decide))))
      (Ev.mul Ev.int (Ev.item (Ev.name rfl) (Ev.add (Ev.name rfl) Ev.int) (by omega) (it (n + 2) (by omega) (by omega)) (by omega)) (mulOk_small (by decide))))
      (Ev.item (Ev.name rfl) (Ev.add (Ev.name rfl) Ev.int) (by omega) (it (n + 3) (by omega) (by omega)) (by omega))
  · intro h₂ tk₂ X₂
    have hin : ∀ c ∈ upto 0 4, 0 ≤ c ∧ c < 4 := fun c hc => upto_mem.mp hc
    refine st_return fd X₂ (d := .bytes (wordF row)) ?_ fun v h'' tk'' hk X'' r => ⟨v, rfl, hQ v h'' tk'' X''.old (r.atom rfl)⟩
    refine Ev.bytes ?_ ?_ ?_ rfl
    · rw [← int_list]
      refine Ev.compI (EvIter.upto (Ev.range1 Ev.int rfl) (by decide) (by decide) (by decide) (by decide)) (by decide) (by decide +kernel) ⟨⟨_, rfl⟩, trivial⟩ (tgt_local rfl) ?_ ?_
      · intro c hc
        obtain ⟨c1, c2⟩ := hin c hc
        refine EvT.cmp (Ev.maxOf (a := ((lettersF row).take (c + 1).toNat).headD 0) (l := ((lettersF row).take (c + 1).toNat).tail) ?_ rfl) Ev.int (fun A Z s v₁ v₂ _ r₁ r₂ => ?_)
        · have e1 : (((lettersF row).take (c + 1).toNat).headD 0 :: ((lettersF row).take (c + 1).toNat).tail) = (lettersF row).take (c + 1).toNat := by
            have : (c + 1).toNat = c.toNat + 1 := by omega
            rw [this]; rfl
          rw [e1]
          have e2 : intsD ((lettersF row).take (c + 1).toNat) = pickL (intsD (lettersF row)) none (some (((c + 1).toNat : Nat) : Int)) none := by
            rw [pickL_upto _ _ (by rw [intsD, List.length_map, hll]; omega), intsD, intsD, List.map_take]
          rw [e2]
          have e3 : (((c + 1).toNat : Nat) : Int) = c + 1 := by omega
          rw [e3]
          exact Ev.sliceLst (Ev.name rfl) trivial (Ev.add (Ev.name rfl) Ev.int) trivial (fun h => nomatch h) (by rw [intsD, List.length_map, hll]; omega)
        · have e4 : maxI (((lettersF row).take (c + 1).toNat).headD 0) ((lettersF row).take (c + 1).toNat).tail = maxL ((lettersF row).take (c + 1).toNat) := by
            have : (c + 1).toNat = c.toNat + 1 := by omega
            rw [this]; rfl
          rw [← e4]
          exact opGt r₁ r₂
      · intro c hc _
        obtain ⟨c1, c2⟩ := hin c hc
        exact Ev.add Ev.int (Ev.item (Ev.name rfl) (Ev.name rfl) c1 (by rw [intsD, List.getElem?_map, getD_some (d := 0) (by rw [hll]; omega)]; rfl) (by omega))
    · intro n hn
      obtain ⟨c, hc, rfl⟩ := List.mem_map.mp hn
      have hc' := hin c (List.mem_filter.mp hc).1
      have h1 := hlb _ (List.mem_of_getElem? (getD_some (l := lettersF row) (i := c.toNat) (d := 0) (by rw [hll]; omega)))
      omega
    · have h1 := List.length_filter_le (fun c : Int => decide (maxL ((lettersF row).take (c + 1).toNat) > 0)) (upto 0 4)
      rw [upto_len] at h1
      rw [List.length_map]
      omega
end
end Mine

namespace Mine

def apF (n : Nat) : List UInt8 := if h : n = 0 then [] else apF (n / 16) ++ [UInt8.ofNat (65 + n % 16)]
termination_by n
decreasing_by exact Nat.div_lt_self (Nat.pos_of_ne_zero h) (by decide)
theorem apF_zero : apF 0 = [] := by rw [apF]; simp
theorem apF_pos {n : Nat} (h : n ≠ 0) : apF n = apF (n / 16) ++ [UInt8.ofNat (65 + n % 16)] := by rw [apF]; simp [h]
theorem apF_len (n : Nat) : (apF n).length ≤ n := by
  induction n using Nat.strongRecOn with
  | ind n ih =>
    by_cases h : n = 0
    · subst h; rw [apF_zero]; exact Nat.le_refl _
    · rw [apF_pos h, List.length_append, List.length_singleton]
      have := ih (n / 16) (Nat.div_lt_self (Nat.pos_of_ne_zero h) (by decide))
      have : n / 16 < n := Nat.div_lt_self (Nat.pos_of_ne_zero h) (by decide)
      omega
def apL : List UInt8 := [65, 66, 67, 68, 69, 70, 71, 72, 73, 74, 75, 76, 77, 78, 79, 80]
theorem apL_at : ∀ r < 16, (apL.drop r).take (r + 1 - r) = [UInt8.ofNat (65 + r)] := by decide

section
variable {U : Uni} {A : Around} {Z : Addr → Prop} {s : Shared}
theorem ap_call {a : Addr} {pm cd doc : Value} (F : FnAt U "Int2AP" a (fdAt 4 "Int2AP" pm cd doc)) {n : Int} (hn : n.natAbs ≤ 65535)
    (f : Fit 30 A) (zok : ∀ b, Z b → ∃ o, s.heap.get? b = some o) (G : Gl U s.heap) {vs : List Value} (rs : RepAll Z s.heap vs [.int n]) :
    Yields U A (call (.ref a) vs) Z (.bytes (apF n.natAbs).toArray) s := fun Q E hQ => by
  obtain ⟨v₁, rfl, _⟩ := rs.one
  refine call_def (ps := ["num"]) (ds := [.int n]) F (f.le (show 27 ≤ 30 by omega)) G zok rs rfl rfl rfl rfl rfl rfl (by rfl) (by decide) rfl rfl rfl ?_
  intro env h₁ tk X E'
  have fd : Fit 27 (A.deeper env) := f.deeper env
  change FEnv U (scopeOf (stAt 4)) _ _ _ _ _ _ at X
  have hsz : sizeLine = 16777216 := rfl
  have hlen := apF_len n.natAbs
  refine st_assign fd X Ev.cbytes (.inl rfl) (by intro p hp; simp at hp) ?_ rfl
  intro h₂ tk₂ X₂
  refine st_assign fd X₂ Ev.cbytes (.inl rfl) (by intro p hp; simp at hp) ?_ rfl
  intro h₃ tk₃ X₃
  refine st_assign fd X₃ (Ev.toInt (Ev.abs (Ev.name rfl) rfl) rfl) (.inl rfl) (by intro p hp; simp at hp) ?_ rfl
  intro h₄ tk₄ X₄
  refine st_while (τ := Nat × List UInt8) fd X₄ (n.natAbs, []) (fun t => apF t.1 ++ t.2 = apF n.natAbs ∧ t.1 ≤ 65535)
    (fun t y => if y = "num" then some (.int t.1) else if y = "val" then some (.bytes t.2.toArray) else if y = "AP" then some (.bytes apL.toArray) else none) (fun t => t.1) (fun t => ((t.1 : Int) != 0)) (fun s' => ∃ h' tk', s' = { s with heap := h', toks := tk' })
    ⟨by simp, hn⟩ ?_ ⟨_, _, rfl⟩ ?_ ?_ ?_ ?_
  · intro y d hy
    split at hy
    · rename_i e; subst e; cases hy
      show some (D.int (if n < 0 then -n else n)) = some (D.int _)
      have : (if n < 0 then -n else n) = (n.natAbs : Int) := by split <;> omega
      rw [this]
    · split at hy
      · rename_i e; subst e; cases hy; rfl
      · split at hy
        · rename_i e; subst e; cases hy; rfl
        · cases hy
  · rintro s₁ h tk ⟨h', tk', rfl⟩; exact ⟨h, tk, rfl⟩
  · intro t _; exact EvT.int rfl
  · rintro ⟨num, val⟩ ⟨hi1, hi2⟩ ht s₁ X₅ hJ E''
    have hne : num ≠ 0 := by simpa using ht
    dsimp only at hi1 hi2
    have hvl : val.length ≤ 65535 := by
      have := congrArg List.length hi1
      rw [List.length_append] at this
      omega
    refine st_assign2 fd X₅ (d := .int ((num : Int) / 16)) (e := .int ((num : Int) % 16)) (Ev.divmod (Ev.name rfl) Ev.int (by decide) (by decide) rfl) (.inl rfl) (.inl rfl) (by intro p hp; simp at hp) (by intro p hp; simp at hp) ?_ ⟨rfl, rfl⟩
    intro h₆ tk₆ X₆
    have e1 : ((num : Int) % 16) = ((num % 16 : Nat) : Int) := by omega
    have e2 : ((num : Int) % 16 + 1) = ((num % 16 + 1 : Nat) : Int) := by omega
    refine st_assign fd X₆ (d := .bytes (UInt8.ofNat (65 + num % 16) :: val).toArray) ?_ (.inl rfl) (by intro p hp; simp at hp) ?_ rfl
    · have e3 : (UInt8.ofNat (65 + num % 16) :: val).toArray = ((apL.toArray.toList.drop (num % 16)).take (num % 16 + 1 - num % 16)).toArray ++ val.toArray := by
        rw [List.append_toArray]
        show _ = (((apL.drop (num % 16)).take (num % 16 + 1 - num % 16)) ++ val).toArray
        rw [apL_at _ (by omega)]; rfl
      rw [e3]
      refine Ev.addBytes (Ev.cutBytes (Ev.name rfl) (e1 ▸ Ev.name rfl) (e2 ▸ Ev.add (Ev.name rfl) Ev.int) (by omega) ?_ (by decide)) (Ev.name rfl) ?_
      · show num % 16 + 1 ≤ 16; omega
      · show (((apL.drop (num % 16)).take (num % 16 + 1 - num % 16)).toArray).size + val.toArray.size ≤ _
        rw [apL_at _ (by omega), List.size_toArray, List.size_toArray, List.length_singleton]; omega
    · intro h₇ tk₇ X₇
      refine wpAny_execs_nil ⟨rfl, ?_, (num / 16, UInt8.ofNat (65 + num % 16) :: val), ⟨?_, ?_⟩, ?_, X₇.lessM ?_⟩
      · obtain ⟨h', tk', rfl⟩ := hJ; exact ⟨_, _, rfl⟩
      · rw [← hi1, apF_pos hne]; simp
      · show num / 16 ≤ 65535; omega
      · show num / 16 < num; exact Nat.div_lt_self (Nat.pos_of_ne_zero hne) (by decide)
      · intro y d hy
        split at hy
        · rename_i e; subst e; cases hy; rfl
        · split at hy
          · rename_i e; subst e; cases hy; rfl
          · split at hy
            · rename_i e; subst e; cases hy; rfl
            · cases hy
  · rintro ⟨num, val⟩ s' ⟨hi1, hi2⟩ ht ⟨h', tk', rfl⟩ X₅
    have h0 : num = 0 := by simpa using ht
    subst h0
    dsimp only at hi1
    rw [apF_zero, List.nil_append] at hi1
    subst hi1
    exact st_return fd X₅ (Ev.name rfl) fun v h'' tk'' hk X'' r => ⟨v, rfl, hQ v h'' tk'' X''.old (r.atom rfl)⟩
end
end Mine

namespace Mine

section
variable {M : Model} {A : Around} {R : GenEnd} {Y : Protocol} {n : Nat} {s₀ : Shared} {c : Code} {fs : List Frame} {s : Shared} {env : Env}
  {K : Flow → Sem Fin} {H : Value → Sem Fin} {gd : Bool → Bool} {lv : List Value → List Value}

theorem seg_If {test : Expr} {body orelse : List Stmt} {pos : Pos}
    (h : wpAny M (A.over c fs) (isTrue test env (eval test env)) (fun b s' => if b = true then Seg M A R Y n s₀ c ((execs body env).wrap K H gd lv) fs s' else Seg M A R Y n s₀ c ((execs orelse env).wrap K H gd lv) fs s')
      (fun x s' => Seg M A R Y n s₀ c (H x) fs s') s) :
    Seg M A R Y n s₀ c ((exec (.If test body orelse pos) env).wrap K H gd lv) fs s := by
  rw [exec_If]
  refine seg_bind_wrap (wpAny_standAt (seg_bind_wrap (wpAny_mono h (fun b s' hb => ?_) fun _ _ e => e)))
  cases b <;> exact hb

/-- a statement without a yield -/
theorem seg_plain {st : Stmt} {rest : List Stmt} (h : wpAny M (A.over c fs) (exec st env) (fun f s' => f = .next ∧ Seg M A R Y n s₀ c ((execs rest env).wrap K H gd lv) fs s') (fun x s' => Seg M A R Y n s₀ c (H x) fs s') s) :
    Seg M A R Y n s₀ c ((execs (st :: rest) env).wrap K H gd lv) fs s := by
  refine seg_execs_cons (seg_wrap (wpAny_mono h (fun f s' hf => ?_) fun _ _ e => e))
  obtain ⟨rfl, hs⟩ := hf
  exact hs

theorem seg_For {target iter : Expr} {body orelse : List Stmt} {pos : Pos}
    (h : wpAny M (A.over c fs) (eval iter env) (fun x s₁ => wpAny M (A.over c fs) (pyIter x) (fun it s₂ => ∀ p, Seg M A R Y n s₀ (.forLoop target it body orelse env) (M.den (.forLoop target it body orelse env))
      (.ret (fun r => ((match r with | .ok f => (.pure f : Sem Flow) | .error e => .raise e).onRaise fun (x : Value) => do
        if (← field x 1) == Value.none then unsupported "frame.own-activation:exception-without-traceback"
        setFlight x env.frame).wrap K H gd lv) none (gd false) (lv []) c p [] :: fs) s₂) (fun x s' => Seg M A R Y n s₀ c (H x) fs s') s₁) (fun x s' => Seg M A R Y n s₀ c (H x) fs s') s)
    (hs : ∀ x, foldedSetIterable iter env x = pure x := by intro _; rfl) :
    Seg M A R Y n s₀ c ((exec (.For target iter body orelse pos) env).wrap K H gd lv) fs s := by
  rw [exec_For]
  refine seg_bind_wrap (wpAny_standAt (seg_bind_wrap (wpAny_mono h (fun x s₁ h₁ => ?_) fun _ _ e => e)))
  refine seg_bind_wrap (wpAny_of_eq (hs x) (seg_bind_wrap (wpAny_standAt (seg_bind_wrap (wpAny_holding (wpAny_mono h₁ (fun it s₂ h₂ => ?_) fun _ _ e => e))))))
  exact seg_call h₂
end

section
variable {prog : Program} {w : World} {A : Around} {R : GenEnd} {Y : Protocol} {n : Nat} {s₀ : Shared} {fs : List Frame} {s : Shared} {env : Env}
/-- what a for loop's turn does with an exception that comes out of it -/
def loopH (env : Env) (e : Value) : Sem Fin := (do noteFrame e env; theTreesLotGoes e : Sem Unit).wrap (fun _ => .raise e) .raise id id
def loopK (target : Expr) (it : Value) (body orelse : List Stmt) (env : Env) : Flow → Sem Fin := fun f => match f with
  | .next | .cont => .pure (.again (.forLoop target it body orelse env))
  | .brk => .pure (.done .next)
  | .ret v => .pure (.done (.ret v))

theorem seg_forLoop {target : Expr} {it : Value} {body orelse : List Stmt}
    (h : wpAny (model prog w) (A.over (.forLoop target it body orelse env) fs) (pyNext it) (fun r s₁ => match r with
      | none => Seg (model prog w) A R Y n s₀ (.block orelse env) ((model prog w).den (.block orelse env)) fs s₁
      | some v => wpAny (model prog w) (A.over (.forLoop target it body orelse env) fs) (letOwnedTupleGo target it v) (fun _ s₂ =>
          wpAny (model prog w) (A.over (.forLoop target it body orelse env) fs) (assign target env v) (fun _ s₃ =>
            Seg (model prog w) A R Y n s₀ (.forLoop target it body orelse env) ((execs body env).wrap (loopK target it body orelse env) (loopH env) id id) fs s₃)
            (fun x s' => Seg (model prog w) A R Y n s₀ (.forLoop target it body orelse env) (loopH env x) fs s') s₂)
          (fun x s' => Seg (model prog w) A R Y n s₀ (.forLoop target it body orelse env) (loopH env x) fs s') s₁)
      (fun x s' => Seg (model prog w) A R Y n s₀ (.forLoop target it body orelse env) (loopH env x) fs s') s) :
    Seg (model prog w) A R Y n s₀ (.forLoop target it body orelse env) ((model prog w).den (.forLoop target it body orelse env)) fs s := by
  show Seg _ A R Y n s₀ _ ((forTurn target it body orelse env).onRaise (fun x => do noteFrame x env; theTreesLotGoes x)) fs s
  have hH : ∀ x, ((do noteFrame x env; theTreesLotGoes x : Sem Unit).bind fun _ => (.raise x : Sem Fin)) = loopH env x := fun x => by rw [Sem.bind_eq_wrap]; rfl
  unfold forTurn
  rw [Sem.onRaise_eq_wrap, funext hH]
  refine seg_bind_wrap (wpAny_standAt (seg_bind_wrap (wpAny_onRaise (wpAny_mono h (fun r s₁ h₁ => ?_) fun x s' hx => ?_))))
  · cases r with
    | none => exact seg_again rfl h₁
    | some v =>
      refine seg_bind_wrap (wpAny_mono h₁ (fun _ s₂ h₂ => ?_) fun _ _ e => e)
      refine seg_bind_wrap (wpAny_mono h₂ (fun _ s₃ h₃ => ?_) fun _ _ e => e)
      rw [Sem.bind_eq_wrap', Sem.wrap_wrap]
      rw [Sem.wrap_congr (execs body env) _ _ (K' := loopK target it body orelse env) (H' := loopH env) (fun f => by cases f <;> rfl) (fun e => by rfl)]
      exact h₃
  · exact wpAny_standAt hx
/-- the empty end of a loop -/
theorem seg_block_nil {k h g l c₁ p₁ kp} (hk : Seg (model prog w) A R Y n s₀ c₁ (k (.ok .next)) fs s) :
    Seg (model prog w) A R Y n s₀ (.block [] env) ((model prog w).den (.block [] env)) (.ret k h g l c₁ p₁ kp :: fs) s := seg_leaf (.ok .next) hk
end
end Mine

namespace Mine

def bsl : PySem.Str := "\\"
def one (c : Nat) : PySem.Str := ⟨#[c]⟩
/-- what is read from place i on; esc: a backslash is open -/
def escU : Nat → Bool → List Nat → List (Int × PySem.Str)
  | i, true, [] => [(((i - 1 : Nat) : Int), bsl)]
  | _, false, [] => []
  | i, true, c :: cs => ((i : Int), bsl ++ one c) :: escU (i + 1) false cs
  | i, false, c :: cs => if (one c == bsl) = true then escU (i + 1) true cs else ((i : Int), one c) :: escU (i + 1) false cs

/-- the generator's own objects -/
def Priv (L B : Addr) (b : Addr) (o : Obj) : Prop := b = L ∨ (@LE.le Nat _ B b ∧ (o.cls = .type "enumerate" ∨ o.cls = .type "str_ascii_iterator" ∨ o.cls = .type "str_iterator"))
def Since (L B : Addr) (s₀ s : Shared) : Prop := ∃ h' tk, s = { s₀ with heap := h', toks := tk } ∧ ∀ b o, ¬ Priv L B b o → s₀.heap.get? b = some o → h'.get? b = some o
theorem Since.refl (L B : Addr) (s : Shared) : Since L B s s := ⟨s.heap, s.toks, rfl, fun _ _ _ e => e⟩
theorem Since.step {L B : Addr} {s₀ s : Shared} (x : Since L B s₀ s) {h' : Heap} {tk : Nat} (hk : ∀ b o, ¬ Priv L B b o → s.heap.get? b = some o → h'.get? b = some o) : Since L B s₀ { s with heap := h', toks := tk } := by
  obtain ⟨h₁, tk₁, rfl, hk₁⟩ := x
  exact ⟨h', tk, rfl, fun b o hp e => hk b o hp (hk₁ b o hp e)⟩
theorem Since.get {L B : Addr} {s₀ s : Shared} (x : Since L B s₀ s) {b : Addr} {o : Obj} (hp : ¬ Priv L B b o) (e : s₀.heap.get? b = some o) : s.heap.get? b = some o := by
  obtain ⟨h₁, tk₁, rfl, hk₁⟩ := x
  exact hk₁ b o hp e

def yProto (U : Uni) (L B : Addr) (ys : List (Int × PySem.Str)) : Protocol := fun m s₀ v s kap =>
  ∃ (T : Addr) (p : Int) (x : PySem.Str) (ds : List (Int × PySem.Str)) (t u : Tok) (n : Nat), (((p, x) :: ds) <:+ ys ∧ ds.length = m) ∧ v = .ref T ∧ s.heap.get? T = some { cls := .type "tuple", data := .seq #[.int p t, .str x u] n } ∧
    (∀ o, s₀.heap.get? T = some o → Priv L B T o) ∧ T ≠ L ∧ Since L B s₀ s ∧ ∀ s'' : Shared, (∀ b o, Priv L B b o → s.heap.get? b = some o → s''.heap.get? b = some o) → Kept U.base s''.heap → kap (.send .none) s''
def yEnd (L B : Addr) : GenEnd := fun n s₀ r s₁ => r = .ok (.ret .none) ∧ (n = 0 ∧ Since L B s₀ s₁)

abbrev GF (U : Uni) (m : PySem.Str → Option D) (env : Env) (h : Heap) : Prop := FEnv U (scopeOf (stAt 1)) m [] (fun b => b = env.locals) U.base env h

section
variable {U : Uni} {m : PySem.Str → Option D} {env : Env}
theorem GF.wake {h h' : Heap} (X : GF U m env h) (hat : ∀ y d, m y = some d → d.atom = true) (hc : env.cells = []) (hL : ∀ o, h.get? env.locals = some o → h'.get? env.locals = some o) (hb : Kept U.base h') : GF U m env h' := by
  have held : ∀ {y : PySem.Str} {v' : Value}, Held env h y v' → Held env h' y v' := fun H => by
    rcases H with ⟨h1, m1, hm1, h2⟩ | ⟨h1, c, hlc, hv'⟩
    · exact .inl ⟨h1, m1, hm1.at' hL, h2⟩
    · rw [hc] at hlc; cases hlc
  refine ⟨⟨X.gl0.kept hb, X.toAt.scope, X.toAt.kind, X.toAt.glob, X.toAt.blt, fun b hz => ?_, fun y d hy => ?_⟩, ?_, rfl, X.nl, fun n c hn => ?_, X.hascell, X.above, X.apart, hb, X.gl0, fun p hp => by simp at hp, X.mapart⟩
  · obtain ⟨o, e⟩ := X.toAt.zok b hz
    exact ⟨o, by rw [hz] at e ⊢; exact hL o e⟩
  · obtain ⟨h1, v, h2, h3⟩ := X.toAt.vars y d hy
    exact ⟨h1, v, held h2, h3.atom (hat y d hy)⟩
  · obtain ⟨mm, hn⟩ := X.ns; exact ⟨mm, hn.at' hL⟩
  · rw [hc] at hn; cases hn
theorem own_gen {b : Addr} (hc : env.cells = []) (h : ownF env [] b) : b = env.locals := by
  rcases h with h | ⟨n, hn⟩ | ⟨p, hp, _⟩
  · exact h
  · rw [hc] at hn; cases hn
  · simp at hp
/-- what a step of the frame's own leaves -/
theorem GF.stepped {m' : PySem.Str → Option D} {h h' : Heap} (X : GF U m env h) (hc : env.cells = []) (X' : FEnv U (scopeOf (stAt 1)) m' [] (fun b => b = env.locals) (hide (ownF env []) h) env h') :
    GF U m' env h' ∧ ∀ b o, b ≠ env.locals → h.get? b = some o → h'.get? b = some o :=
  ⟨X'.back X.hidden X.gl0, fun b o hb e => X'.old b o (by rw [hide_no fun ho => hb (own_gen hc ho)]; exact e)⟩
end

theorem drawsStr {prog : Program} {w : World} {A : Around} (hh : A.handled = none) (it : Addr) (x : PySem.Str) (t : Tok) :
    Draws prog w A it [it] x.cps.size (fun i v => ∃ c u, x.cps[i]? = some c ∧ v = .str ⟨#[c]⟩ u) (fun i h => h.IsStrIter it (strIterType x) x t i) := by
  cases ha : x.cps.all (· < 128)
  · have e : strIterType x = "str_iterator" := by simp [strIterType, ha]
    rw [e]; exact Draws.strWide hh it x t
  · have e : strIterType x = "str_ascii_iterator" := by simp [strIterType, ha]
    rw [e]; exact Draws.strAscii hh it x t
theorem strIterType_or (x : PySem.Str) : strIterType x = "str_ascii_iterator" ∨ strIterType x = "str_iterator" := by
  unfold strIterType; split
  · exact .inl rfl
  · exact .inr rfl

/-- the names of the generator's frame -/
def gm (x : PySem.Str) (i : Nat) (esc : Bool) : PySem.Str → Option D := fun y => if y = "addr" then some (.str x) else if y = "pos" then some (.int ((i - 1 : Nat) : Int)) else if y = "escape" then some (.bool esc) else none
theorem gm_atom {x : PySem.Str} {i : Nat} {esc : Bool} : ∀ y d, gm x i esc y = some d → d.atom = true := by
  intro y d hy
  unfold gm at hy
  split at hy
  · cases hy; rfl
  · split at hy
    · cases hy; rfl
    · split at hy
      · cases hy; rfl
      · cases hy

def forT : Stmt → Expr
  | .For t _ _ _ _ => t
  | _ => .Constant .none 0 ⟨0, 0, 0, 0⟩
def forB : Stmt → List Stmt
  | .For _ _ b _ _ => b
  | _ => []
def genFor : Stmt := (bodyOf (stAt 1)).getD 2 (.Pass ⟨0, 0, 0, 0⟩)

/-- the loop's state: the enumerate object e over the string's iterator it, before the sign i -/
structure LI (U : Uni) (x : PySem.Str) (t : Tok) (env : Env) (B e it : Addr) (i : Nat) (esc : Bool) (h : Heap) : Prop where
  fr : GF U (gm x i esc) env h
  en : ∃ old, IsEnum h e it (i : Int) old
  st : h.IsStrIter it (strIterType x) x t i
theorem LI.wake {U : Uni} {x : PySem.Str} {t : Tok} {env : Env} {B e it : Addr} {i : Nat} {esc : Bool} {h h' : Heap} (X : LI U x t env B e it i esc h) (hc : env.cells = []) (hBe : @LE.le Nat _ B e) (hBi : @LE.le Nat _ B it)
    (hp : ∀ b o, Priv env.locals B b o → h.get? b = some o → h'.get? b = some o) (hb : Kept U.base h') : LI U x t env B e it i esc h' := by
  refine ⟨X.fr.wake gm_atom hc (fun o e => hp _ o (.inl rfl) e) hb, ?_, ?_⟩
  · obtain ⟨old, he⟩ := X.en
    exact ⟨old, hp e _ (.inr ⟨hBe, .inl rfl⟩) he⟩
  · obtain ⟨o, ho, hcl, hd⟩ := X.st
    refine ⟨o, hp it o (.inr ⟨hBi, .inr ?_⟩) ho, hcl, hd⟩
    rcases strIterType_or x with e | e
    · exact .inl (by rw [hcl, e])
    · exact .inr (by rw [hcl, e])
end Mine

namespace Mine

theorem fitOver {k : Nat} {A : Around} {c : Code} {fs : List Frame} (f : Fit k A) (k' : Nat) (hm : (marksOver fs (none, none)).1 = none) (hd : frameCount (fs.map Frame.where_) + c.weight + k' ≤ k) (hu : unitsOf (fs.map Frame.where_) + c.cUnits + k' ≤ k) : Fit k' (A.over c fs) :=
  ⟨by show (marksOver fs (A.handled, A.handled)).1 = none; rw [f.hh]; exact hm, by have := f.hd; show A.depth + frameCount (fs.map Frame.where_) + c.weight + k' ≤ 900; omega, by have := f.hu; show A.units + unitsOf (fs.map Frame.where_) + c.cUnits + k' ≤ 9000; omega⟩

section
variable {U : Uni} {A : Around} {env : Env} {B : Addr} {ys : List (Int × PySem.Str)}
theorem seg_yield_pair {c : Code} {fs : List Frame} {K : Flow → Sem Fin} {H : Value → Sem Fin} {s₀ s : Shared} {ee : Expr} {yp pos : Pos} {m' : PySem.Str → Option D} {p : Int} {y : PySem.Str} {ds : List (Int × PySem.Str)} (fd : Fit 20 (A.over c fs)) (hfs : splitAtGen fs = none) (hfg : fs.any Frame.guarded = false)
    (hsc : env.scope = scopeOf (stAt 1)) (X : GF U m' env s.heap) (hat : ∀ y d, m' y = some d → d.atom = true) (hev : Ev U 20 (scopeOf (stAt 1)) m' ee (.tup [.int p, .str y])) (hs : Since env.locals B s₀ s) (hsuf : ((p, y) :: ds) <:+ ys)
    (hnext : ∀ (h' : Heap) (tk : Nat), Kept s.heap h' → ∀ s'' : Shared, (∀ b o, Priv env.locals B b o → h'.get? b = some o → s''.heap.get? b = some o) → Kept U.base s''.heap → Seg (model U.prog U.w) A (yEnd env.locals B) (yProto U env.locals B ys) ds.length s'' c (K .next) fs s'') :
    Seg (model U.prog U.w) A (yEnd env.locals B) (yProto U env.locals B ys) (ds.length + 1) s₀ c ((exec (.Expr (.Yield (some ee) yp) pos) env).wrap K H id id) fs s := by
  have X' : EnvAt U (scopeOf (stAt 1)) m' (fun b => ∃ o, s.heap.get? b = some o) env s.heap :=
    ⟨X.toAt.gl, X.toAt.scope, X.toAt.kind, X.toAt.glob, X.toAt.blt, fun b hb => hb, fun z d hz => let ⟨h1, v, h2, h3⟩ := X.toAt.vars z d hz; ⟨h1, v, h2, h3.atom (hat z d hz)⟩⟩
  refine seg_Expr_Yield hfs rfl hfg (hev _ env _ s fd X' _ _ fun v h' tk hk r kap hkap => ?_) (by rw [hsc]; rfl) (by unfold interactive; rw [hsc]; rfl)
  obtain ⟨T, vs, n, rfl, hz, ho, ra⟩ := r.tup_inv
  obtain ⟨v₁, v₂, rfl, r₁, r₂⟩ := ra.two
  obtain ⟨t, rfl⟩ := r₁.int_inv
  obtain ⟨u, rfl⟩ := r₂.str_inv
  refine ⟨T, p, y, ds, t, u, n, ⟨hsuf, rfl⟩, rfl, ho, fun o q => ?_, fun q => hz ?_, hs.step fun b o _ q => hk b o q, fun s'' h1 h2 => hkap .none s'' (hnext h' tk hk s'' h1 h2)⟩
  · exact Classical.byContradiction fun hp => hz ⟨o, hs.get hp q⟩
  · rw [q]; obtain ⟨mm, o, _, _, e, _⟩ := X.ns; exact ⟨o, e⟩
end

section
variable {U : Uni} {A : Around} {x : PySem.Str} {t : Tok} {env : Env} {B e it : Addr} {ys : List (Int × PySem.Str)}

theorem gen_loop (f : Fit 30 A) (hc : env.cells = []) (hsc : env.scope = scopeOf (stAt 1)) (hBL : @LE.le Nat _ B env.locals) (hBe : @LE.le Nat _ B e) (hBi : @LE.le Nat _ B it) (hei : e ≠ it) (heL : e ≠ env.locals) (hiL : it ≠ env.locals) (hbase : ∀ b o, U.base.get? b = some o → @LT.lt Nat _ b B)
    {k : Result → Sem Fin} {g : Bool} {l : List Value} {c₁ : Code} {p₁ : Pos} (hg : g = false) (hw : c₁.weight + c₁.cUnits ≤ 10)
    (hend : ∀ (esc : Bool) (s₀ s : Shared), GF U (gm x x.cps.size esc) env s.heap → Since env.locals B s₀ s → escU x.cps.size esc [] <:+ ys →
      Seg (model U.prog U.w) A (yEnd env.locals B) (yProto U env.locals B ys) (escU x.cps.size esc []).length s₀ c₁ (k (.ok .next)) [] s) :
    ∀ (cs : List Nat) (i : Nat) (esc : Bool) (s₀ s : Shared), cs = x.cps.toList.drop i → i ≤ x.cps.size → LI U x t env B e it i esc s.heap → Since env.locals B s₀ s → escU i esc cs <:+ ys →
      Seg (model U.prog U.w) A (yEnd env.locals B) (yProto U env.locals B ys) (escU i esc cs).length s₀ (.forLoop (forT genFor) (.ref e) (forB genFor) [] env)
        ((model U.prog U.w).den (.forLoop (forT genFor) (.ref e) (forB genFor) [] env)) [.ret k none g l c₁ p₁ []] s := by
  have fd : Fit 20 (A.over (.forLoop (forT genFor) (.ref e) (forB genFor) [] env) [.ret k none g l c₁ p₁ []]) := fitOver f 20 rfl (by
    show frameCount [(c₁, p₁)] + 0 + 20 ≤ 30
    rw [frameCount_cons]; show c₁.weight + 0 + 0 + 20 ≤ 30; omega) (by
    show unitsOf [(c₁, p₁)] + 0 + 20 ≤ 30
    rw [unitsOf_cons]; show c₁.cUnits + 0 + 0 + 20 ≤ 30; omega)
  have hno : ∀ {h : Heap} {i : Nat} {esc : Bool}, LI U x t env B e it i esc h → ∀ b o, ¬ Priv env.locals B b o → h.get? b = some o → b ≠ e ∧ b ≠ it ∧ b ≠ env.locals := by
    intro h i esc X b o hp hb
    obtain ⟨old, he⟩ := X.en
    refine ⟨fun q => hp ?_, fun q => hp ?_, fun q => hp (.inl q)⟩
    · subst q
      rw [show h.get? b = _ from he] at hb; cases hb
      exact .inr ⟨hBe, .inl rfl⟩
    · subst q
      obtain ⟨o', ho, hcl, hd⟩ := X.st
      rw [ho] at hb; cases hb
      refine .inr ⟨hBi, .inr ?_⟩
      rcases strIterType_or x with e | e
      · exact .inl (by rw [hcl, e])
      · exact .inr (by rw [hcl, e])
  intro cs
  induction cs with
  | nil =>
    intro i esc s₀ s hcs hi X hs hys
    have hin : i = x.cps.size := by
      have : (x.cps.toList.drop i).length = 0 := by rw [← hcs]; rfl
      rw [List.length_drop] at this
      have h2 : x.cps.toList.length = x.cps.size := rfl
      omega
    subst hin
    obtain ⟨old, he⟩ := X.en
    refine seg_forLoop (wpAny_pyNext_enum_endD (drawsStr (by exact fd.hh) it x t) he X.st fun h' hk' => ?_)
    refine seg_block_nil ?_
    refine hend esc s₀ _ (X.fr.wake gm_atom hc (fun o e => hk' _ o hiL.symm e) fun b o e => hk' b o (fun q => ?_) (X.fr.old b o e)) (hs.step (tk := s.toks) fun b o hp e => hk' b o (hno X b o hp e).2.1 e) hys
    have := hbase b o e
    rw [q] at this; exact absurd hBi (Nat.not_le.mpr this)
  | cons c cs ih =>
    intro i esc s₀ s hcs hi X hs hys
    have hlt : i < x.cps.size := by
      have h1 : (x.cps.toList.drop i).length = cs.length + 1 := by rw [← hcs]; rfl
      rw [List.length_drop] at h1
      have h2 : x.cps.toList.length = x.cps.size := rfl
      omega
    have hxi : x.cps[i]? = some c := by
      have h1 : (x.cps.toList.drop i)[0]? = some c := by rw [← hcs]; rfl
      rw [List.getElem?_drop] at h1
      simpa using h1
    have hcs' : cs = x.cps.toList.drop (i + 1) := by
      rw [← List.drop_drop, ← hcs]; rfl
    obtain ⟨old, he⟩ := X.en
    refine seg_forLoop (wpAny_pyNext_enum_itemD (drawsStr (by exact fd.hh) it x t) he X.st hlt hei (by simpa using hei) fun v h₁ tk₁ hP ho hst hT hsz hk₁ => ?_)
    obtain ⟨c', u, hc', rfl⟩ := hP
    rw [hxi] at hc'; cases hc'
    refine wpAny_letOwnedTupleGo_enum ho fun h₂ he₂ hs₂ => ?_
    replace hs₂ : Heap.SameBut e h₁ h₂ := hs₂
    have hkb : ∀ b o, b ≠ e → b ≠ it → s.heap.get? b = some o → h₂.get? b = some o := fun b o h1 h2 q => hs₂.extBut b o h1 (hk₁ b o h1 h2 q)
    have hbk : Kept U.base h₂ := fun b o q => hkb b o (fun w => by have := hbase b o q; rw [w] at this; exact absurd hBe (Nat.not_le.mpr this)) (fun w => by have := hbase b o q; rw [w] at this; exact absurd hBi (Nat.not_le.mpr this)) (X.fr.old b o q)
    have X₂ : GF U (gm x i esc) env h₂ := X.fr.wake gm_atom hc (fun o q => hkb _ o heL.symm hiL.symm q) hbk
    have heT : s.heap.objs.size ≠ e := Nat.ne_of_gt (Heap.lt_size he)
    have hLs : @LT.lt Nat _ env.locals s.heap.objs.size := by obtain ⟨mm, hn⟩ := X.fr.ns; exact hn.lt
    have hT₂ : h₂.get? s.heap.objs.size = some { cls := .type "tuple", data := .seq #[.int i tk₁, .str ⟨#[c]⟩ u] } := hs₂.extBut _ _ heT hT
    have hst₂ : h₂.IsStrIter it (strIterType x) x t (i + 1) := hst.extBut hs₂.extBut hei.symm
    refine FEnv.assign2 (k := 20) (d := .int i) (e := .str (one c)) (m := gm x i esc) (mu := []) (σ := scopeOf (stAt 1)) fd X₂.rebase (.tup (vs := [.int i tk₁, .str ⟨#[c]⟩ u]) (Nat.ne_of_gt hLs) hT₂ rfl fun j v d hv hd => ?_) (.inl rfl) (.inl rfl) (by simp) (by simp) ?_ ⟨rfl, rfl⟩
    · match j, hv, hd with
      | 0, hv, hd => cases hv; cases hd; exact .int _ _
      | 1, hv, hd => cases hv; cases hd; exact .str _ _
      | j + 2, hv, _ => simp at hv
    · intro h₃ tk₃ X₃'
      obtain ⟨X₃, hk₃⟩ := X₂.stepped hc X₃'
      have he₃ : IsEnum h₃ e it ((i + 1 : Nat) : Int) (.str ⟨#[c]⟩ u) := hk₃ _ _ heL (by simpa using he₂)
      have hst₃ : h₃.IsStrIter it (strIterType x) x t (i + 1) := by obtain ⟨o, ho, r⟩ := hst₂; exact ⟨o, hk₃ _ _ hiL ho, r⟩
      have hs₃ : Since env.locals B s₀ { s with heap := h₃, toks := tk₃ } := hs.step fun b o hp q => hk₃ b o (hno X b o hp q).2.2 (hkb b o (hno X b o hp q).1 (hno X b o hp q).2.1 q)
      have hsq := hsc
      -- the end of a turn
      have turn : ∀ (esc' : Bool) (s₀' s' : Shared), LI U x t env B e it (i + 1) esc' s'.heap → Since env.locals B s₀' s' → escU (i + 1) esc' cs <:+ ys →
          Seg (model U.prog U.w) A (yEnd env.locals B) (yProto U env.locals B ys) (escU (i + 1) esc' cs).length s₀' (.forLoop (forT genFor) (.ref e) (forB genFor) [] env) (.pure (.again (.forLoop (forT genFor) (.ref e) (forB genFor) [] env))) [.ret k none g l c₁ p₁ []] s' :=
        fun esc' s₀' s' X' hs' hys' => seg_again rfl (ih (i + 1) esc' s₀' s' hcs' hlt X' hs' hys')
      have hm : ∀ y d, gm x (i + 1) esc y = some d → upd (upd (gm x i esc) "pos" (.int i)) "ch" (.str (one c)) y = some d := by
        intro y d hy
        unfold gm at hy
        split at hy
        · rename_i q; subst q; cases hy; rfl
        · split at hy
          · rename_i q; subst q; cases hy; rfl
          · split at hy
            · rename_i q; subst q; cases hy; rfl
            · cases hy
      have hat₃ : ∀ y d, upd (upd (gm x i esc) "pos" (.int i)) "ch" (.str (one c)) y = some d → d.atom = true := by
        intro y d hy
        unfold upd at hy
        split at hy
        · cases hy; rfl
        · split at hy
          · cases hy; rfl
          · exact gm_atom y d hy
      refine seg_execs_cons (seg_If (EvT.bool (b := esc) (m := upd (upd (gm x i esc) "pos" (.int i)) "ch" (.str (one c))) (σ := scopeOf (stAt 1)) rfl _ env _ _ fd X₃.toAt _ _ fun h₄ tk₄ hk₄ => ?_))
      have X₄ := X₃.kept hk₄
      have hs₄ : Since env.locals B s₀ { s with heap := h₄, toks := tk₄ } := hs₃.step (tk := tk₄) fun b o _ q => hk₄ b o q
      have he₄ : IsEnum h₄ e it ((i + 1 : Nat) : Int) (.str ⟨#[c]⟩ u) := hk₄ _ _ he₃
      have hst₄ : h₄.IsStrIter it (strIterType x) x t (i + 1) := by obtain ⟨o, ho, r⟩ := hst₃; exact ⟨o, hk₄ _ _ ho, r⟩
      cases esc with
      | true =>
        simp only [if_true]
        refine seg_execs_cons (seg_yield_pair (m' := upd (upd (gm x i true) "pos" (.int i)) "ch" (.str (one c))) fd rfl (by simp [Frame.guarded, hg]) hsc X₄ hat₃ (Ev.tuple (EvAll.cons (Ev.name rfl) (EvAll.cons (Ev.addStr Ev.str (Ev.name rfl) ?_) EvAll.nil)) (show (2 : Nat) ≤ 16777216 by omega)) hs₄ hys ?_)
        · show 1 + 1 ≤ 16777216; omega
        · intro h₅ tk₅ hk₅ s'' hp hb
          have LI₅ : LI U x t env B e it (i + 1) true h₅ := ⟨(X₄.kept hk₅).lessM hm, ⟨_, hk₅ _ _ he₄⟩, by obtain ⟨o, ho, r⟩ := hst₄; exact ⟨o, hk₅ _ _ ho, r⟩⟩
          have LI₆ := LI₅.wake hc hBe hBi hp hb
          refine seg_wrap (st_assign (k := 20) (d := .bool false) (m := gm x (i + 1) true) (mu := []) (σ := scopeOf (stAt 1)) fd LI₆.fr.rebase Ev.cbool (.inl rfl) (by simp) ?_ rfl)
          intro h₇ tk₇ X₇'
          obtain ⟨X₇, hk₇⟩ := LI₆.fr.stepped hc X₇'
          refine wpAny_execs_nil (turn false s'' _ ⟨X₇.lessM ?_, ?_, ?_⟩ ((Since.refl _ _ _).step fun b o hp' q => hk₇ b o (fun w => hp' (.inl w)) q) (List.IsSuffix.trans ⟨[_], rfl⟩ hys))
          · intro y d hy
            unfold gm at hy
            split at hy
            · rename_i q; subst q; cases hy; rfl
            · split at hy
              · rename_i q; subst q; cases hy; rfl
              · split at hy
                · rename_i q; subst q; cases hy; rfl
                · cases hy
          · obtain ⟨o, q⟩ := LI₆.en; exact ⟨o, hk₇ _ _ heL q⟩
          · obtain ⟨o, ho, r⟩ := LI₆.st; exact ⟨o, hk₇ _ _ hiL ho, r⟩
      | false =>
        simp only [Bool.false_eq_true, if_false]
        refine seg_execs_cons (seg_If (EvT.cmp (b := one c == bsl) (k := 20) (m := upd (upd (gm x i false) "pos" (.int i)) "ch" (.str (one c))) (σ := scopeOf (stAt 1)) (Ev.name rfl) Ev.str (fun A Z s v₁ v₂ _ r₁ r₂ => opEqS r₁ r₂) (by with_unfolding_all rfl) _ env _ { s with heap := h₄, toks := tk₄ } fd X₄.toAt _ _ fun h₅ tk₅ hk₅ => ?_))
        have X₅ := X₄.kept hk₅
        have hs₅ : Since env.locals B s₀ { s with heap := h₅, toks := tk₅ } := hs₄.step (tk := tk₅) fun b o _ q => hk₅ b o q
        have LI₅ : LI U x t env B e it (i + 1) false h₅ := ⟨X₅.lessM hm, ⟨_, hk₅ _ _ he₄⟩, by obtain ⟨o, ho, r⟩ := hst₄; exact ⟨o, hk₅ _ _ ho, r⟩⟩
        cases hb : one c == bsl with
        | true =>
          simp only [if_true]
          have hys' : escU (i + 1) true cs <:+ ys := by
            have q : escU i false (c :: cs) = escU (i + 1) true cs := by show (if _ then _ else _) = _; rw [if_pos hb]
            rw [← q]; exact hys
          have q : escU i false (c :: cs) = escU (i + 1) true cs := by show (if _ then _ else _) = _; rw [if_pos hb]
          rw [q]
          refine seg_wrap (st_assign (k := 20) (d := .bool true) (m := gm x (i + 1) false) (mu := []) (σ := scopeOf (stAt 1)) (s := { s with heap := h₅, toks := tk₅ }) fd LI₅.fr.rebase Ev.cbool (.inl rfl) (by simp) ?_ rfl)
          intro h₇ tk₇ X₇'
          obtain ⟨X₇, hk₇⟩ := LI₅.fr.stepped hc X₇'
          refine wpAny_execs_nil (turn true s₀ _ ⟨X₇.lessM ?_, ?_, ?_⟩ (hs₅.step fun b o hp' q => hk₇ b o (fun w => hp' (.inl w)) q) hys')
          · intro y d hy
            unfold gm at hy
            split at hy
            · rename_i q; subst q; cases hy; rfl
            · split at hy
              · rename_i q; subst q; cases hy; rfl
              · split at hy
                · rename_i q; subst q; cases hy; rfl
                · cases hy
          · obtain ⟨o, q⟩ := LI₅.en; exact ⟨o, hk₇ _ _ heL q⟩
          · obtain ⟨o, ho, r⟩ := LI₅.st; exact ⟨o, hk₇ _ _ hiL ho, r⟩
        | false =>
          simp only [Bool.false_eq_true, if_false]
          have q : escU i false (c :: cs) = ((i : Int), one c) :: escU (i + 1) false cs := by show (if _ then _ else _) = _; rw [if_neg (by rw [hb]; decide)]
          rw [q] at hys ⊢
          refine seg_execs_cons (seg_yield_pair (s := { s with heap := h₅, toks := tk₅ }) (m' := upd (upd (gm x i false) "pos" (.int i)) "ch" (.str (one c))) fd rfl (by simp [Frame.guarded, hg]) hsc X₅ hat₃ (Ev.tuple (EvAll.cons (Ev.name rfl) (EvAll.cons (Ev.name rfl) EvAll.nil)) (show (2 : Nat) ≤ 16777216 by omega)) hs₅ hys ?_)
          intro h₆ tk₆ hk₆ s'' hp hb'
          have LI₆ : LI U x t env B e it (i + 1) false h₆ := ⟨(X₅.kept hk₆).lessM hm, ⟨_, hk₆ _ _ (hk₅ _ _ he₄)⟩, by obtain ⟨o, ho, r⟩ := hst₄; exact ⟨o, hk₆ _ _ (hk₅ _ _ ho), r⟩⟩
          exact turn false s'' s'' (LI₆.wake hc hBe hBi hp hb') (Since.refl _ _ _) (List.IsSuffix.trans ⟨[_], rfl⟩ hys)
end
end Mine

namespace Mine
section
variable {U : Uni} {A : Around} {x : PySem.Str} {env : Env} {B : Addr}

def gm0 (x : PySem.Str) : PySem.Str → Option D := fun y => if y = "addr" then some (.str x) else none
theorem gm0_atom {x : PySem.Str} : ∀ y d, gm0 x y = some d → d.atom = true := by
  intro y d hy
  unfold gm0 at hy
  split at hy
  · cases hy; rfl
  · cases hy

/-- a plain assignment in the generator's frame -/
theorem gf_assign {c : Code} {fs : List Frame} {s : Shared} {y : PySem.Str} {px pos : Pos} {ee : Expr} {d : D} {m : PySem.Str → Option D} {Q : Flow → Shared → Prop} {E : Value → Shared → Prop} (fd : Fit 20 (A.over c fs)) (hc : env.cells = []) (X : GF U m env s.heap) (he : Ev U 20 (scopeOf (stAt 1)) m ee d) (hx : (scopeOf (stAt 1)).names.lookup y = some .local)
    (h : ∀ h' tk, GF U (upd m y d) env h' → (∀ b o, b ≠ env.locals → s.heap.get? b = some o → h'.get? b = some o) → Q .next { s with heap := h', toks := tk })
    (hsw : swapsWith ee (some (.Name y px)) pos.line env = pure false := by rfl) (hd : (y == ("__debug__" : PySem.Str)) = false := by decide) :
    wpAny (model U.prog U.w) (A.over c fs) (exec (.Assign [.Name y px] ee pos) env) Q E s :=
  wpAny_Assign_Name (he _ env _ s fd X.rebase.toAt _ _ fun v h₁ tk₁ hk r => FEnv.storeD (s := { s with heap := h₁, toks := tk₁ }) (X.rebase.kept hk) (.inl hx) r (fun h'' tk' X' => by
    obtain ⟨X₂, hk₂⟩ := X.stepped hc X'
    exact h h'' tk' X₂ hk₂) hd) hsw

theorem gen_seg (f : Fit 30 A) (hc : env.cells = []) (hsc : env.scope = scopeOf (stAt 1)) (hBL : @LE.le Nat _ B env.locals) (hbase : ∀ b o, U.base.get? b = some o → @LT.lt Nat _ b B) (s : Shared) (X : GF U (gm0 x) env s.heap) :
    Seg (model U.prog U.w) A (yEnd env.locals B) (yProto U env.locals B (escU 0 false x.cps.toList)) (escU 0 false x.cps.toList).length s (.func (bodyOf (stAt 1)) env) ((model U.prog U.w).den (.func (bodyOf (stAt 1)) env)) [] s := by
  have fd : Fit 20 (A.over (.func (bodyOf (stAt 1)) env) []) := fitOver f 20 rfl (by show 0 + 1 + 20 ≤ 30; omega) (by show 0 + 3 + 20 ≤ 30; omega)
  refine seg_func ?_
  refine seg_plain (gf_assign fd hc X Ev.int rfl ?_ rfl)
  intro h₁ tk₁ X₁ hk₁
  refine ⟨rfl, seg_plain (gf_assign (s := { s with heap := h₁, toks := tk₁ }) fd hc X₁ Ev.cbool rfl ?_ rfl)⟩
  intro h₂ tk₂ X₂ hk₂
  refine ⟨rfl, ?_⟩
  have hs₂ : Since env.locals B s { s with heap := h₂, toks := tk₂ } := (Since.refl _ _ _).step fun b o hp e => hk₂ b o (fun w => hp (.inl w)) (hk₁ b o (fun w => hp (.inl w)) e)
  have X₂' : GF U (gm x 0 false) env h₂ := X₂.lessM (by
    intro y d hy
    unfold gm at hy
    split at hy
    · rename_i q; subst q; cases hy; rfl
    · split at hy
      · rename_i q; subst q; cases hy; rfl
      · split at hy
        · rename_i q; subst q; cases hy; rfl
        · cases hy)
  refine seg_execs_cons (seg_For ?_)
  refine wpAny_Call_ofName (built_load (s := { s with heap := h₂, toks := tk₂ }) X₂'.toAt rfl (by decide) boot_enumerate ?_)
  refine PyProof.Rows.callWith_type rfl ?_
  refine evalArgs_of (k := 20) (m := gm x 0 false) (σ := scopeOf (stAt 1)) (ds := [.str x]) (EvAll.cons (Ev.name rfl) EvAll.nil) _ env _ { s with heap := h₂, toks := tk₂ } _ _ fd X₂'.toAt fun vs h₃ tk₃ hk₃ rs => ?_
  obtain ⟨v, rfl, r⟩ := rs.one
  obtain ⟨t, rfl⟩ := r.str_inv
  refine call_enumerate_str fun h₄ he hit hsz hk₄ => ?_
  refine wpAny_pyIter_enum he fun p => ?_
  have hLs : @LT.lt Nat _ env.locals h₃.objs.size := by obtain ⟨mm, hn⟩ := (X₂'.kept hk₃).ns; exact hn.lt
  refine gen_loop (x := x) (t := t) (B := B) (c₁ := .func (bodyOf (stAt 1)) env) f hc hsc hBL (Nat.le_trans hBL (Nat.le_of_lt (Nat.lt_succ_of_lt hLs))) (Nat.le_trans hBL (Nat.le_of_lt hLs)) (Nat.succ_ne_self _) (Nat.ne_of_gt (Nat.lt_succ_of_lt hLs)) (Nat.ne_of_gt hLs) hbase rfl (show 1 + 3 ≤ 10 by omega) ?_ x.cps.toList 0 false s _ rfl (Nat.zero_le _) ⟨(X₂'.kept hk₃).kept hk₄, ⟨_, he⟩, hit⟩ (hs₂.step fun b o _ e => hk₄ b o (hk₃ b o e)) (List.suffix_refl _)
  intro esc s₀ s₁ X₁ hs₁ hys
  have fd : Fit 20 (A.over (.func (bodyOf (stAt 1)) env) []) := fitOver f 20 rfl (by show 0 + 1 + 20 ≤ 30; omega) (by show 0 + 3 + 20 ≤ 30; omega)
  show Seg _ A _ _ _ s₀ _ ((execs ((bodyOf (stAt 1)).drop 3) env).wrap (fun f => .pure (.done (.ret (match f with | .ret v => v | _ => .none)))) (fun e => (leaving env e).wrap (fun _ => .raise e) .raise id id) id id) [] s₁
  refine seg_execs_cons (seg_If (EvT.bool (k := 20) (b := esc) (m := gm x x.cps.size esc) (σ := scopeOf (stAt 1)) rfl _ env _ _ fd X₁.toAt _ _ fun h₅ tk₅ hk₅ => ?_))
  have X₅ := X₁.kept hk₅
  have hs₅ : Since env.locals B s₀ { s₁ with heap := h₅, toks := tk₅ } := hs₁.step (tk := tk₅) fun b o _ q => hk₅ b o q
  cases esc with
  | true =>
    simp only [if_true]
    refine seg_execs_cons (seg_yield_pair (s := { s₁ with heap := h₅, toks := tk₅ }) (m' := gm x x.cps.size true) (ds := []) fd rfl rfl hsc X₅ gm_atom (Ev.tuple (EvAll.cons (Ev.name rfl) (EvAll.cons Ev.str EvAll.nil)) (show (2 : Nat) ≤ 16777216 by omega)) hs₅ hys ?_)
    intro h₆ tk₆ hk₆ s'' hp hb
    exact seg_end (.ok (.ret .none)) ⟨rfl, rfl, Since.refl _ _ _⟩
  | false =>
    simp only [Bool.false_eq_true, if_false]
    exact seg_end (.ok (.ret .none)) ⟨rfl, rfl, hs₅⟩
end
end Mine

namespace Mine

/-- only the generator number g has moved -/
structure GMoved (L B : Addr) (g : Nat) (s s' : Shared) : Prop where
  keep : ∀ b o, ¬ Priv L B b o → s.heap.get? b = some o → s'.heap.get? b = some o
  rest : ∃ h tk gs, s' = { s with heap := h, toks := tk, gens := gs }
  gens : GenOnly g s.gens s'.gens

structure GenOk (U : Uni) (A : Around) (ga : Addr) (g : Nat) (L B : Addr) (ys rem : List (Int × PySem.Str)) (s : Shared) : Prop where
  obj : s.heap.IsGen ga g
  suf : rem <:+ ys
  gaB : @LE.le Nat _ B ga
  gaL : ga ≠ L
  LB : @LE.le Nat _ B L
  base : ∀ b o, U.base.get? b = some o → @LT.lt Nat _ b B
  go : ∃ gs, s.gens[g]? = some gs ∧ ∀ s'' : Shared, (∀ b o, Priv L B b o → s.heap.get? b = some o → s''.heap.get? b = some o) → Kept U.base s''.heap → gs.Goes (model U.prog U.w) A.in1 (yEnd L B) (yProto U L B ys) rem.length (.send .none) s''

section
variable {U : Uni} {A : Around} {ga : Addr} {g : Nat} {L B : Addr} {ys rem : List (Int × PySem.Str)} {s : Shared}
/-- from outside: the generator's own objects stay -/
theorem GenOk.frame {s' : Shared} (X : GenOk U A ga g L B ys rem s) (hg : s'.gens = s.gens) (ho : ∀ o, s.heap.get? ga = some o → s'.heap.get? ga = some o) (hk : ∀ b o, Priv L B b o → s.heap.get? b = some o → s'.heap.get? b = some o) : GenOk U A ga g L B ys rem s' :=
  ⟨let ⟨o, nm, qn, h, r⟩ := X.obj; ⟨o, nm, qn, ho o h, r⟩, X.suf, X.gaB, X.gaL, X.LB, X.base, let ⟨gs, h1, h2⟩ := X.go; ⟨gs, by rw [hg]; exact h1, fun s'' h3 h4 => h2 s'' (fun b o hp e => h3 b o hp (hk b o hp e)) h4⟩⟩

theorem gen_not_priv {o : Obj} (hc : o.cls = .type "generator") (hL : ga ≠ L) : ¬ Priv L B ga o := by
  rintro (h | ⟨_, h | h | h⟩)
  · exact hL h
  · rw [hc] at h; revert h; decide
  · rw [hc] at h; revert h; decide
  · rw [hc] at h; revert h; decide

theorem suffix_same {α : Type} {a b c : List α} (h1 : a <:+ c) (h2 : b <:+ c) (hl : a.length = b.length) : a = b := by
  obtain ⟨p, hp⟩ := h1
  obtain ⟨q, hq⟩ := h2
  exact (List.append_inj' (hp.trans hq.symm) hl).2

theorem GenOk.next {Q : Option Value → Shared → Prop} {E : Value → Shared → Prop} (f : Fit 31 A) (G : Gl U s.heap) (X : GenOk U A ga g L B ys rem s)
    (hitem : ∀ p x ds, rem = (p, x) :: ds → ∀ (T : Addr) (s₁ : Shared) (t u : Tok) (n : Nat), s₁.heap.get? T = some { cls := .type "tuple", data := .seq #[.int p t, .str x u] n } → (∀ o, s.heap.get? T = some o → Priv L B T o) → T ≠ L → GenOk U A ga g L B ys ds s₁ → GMoved L B g s s₁ → Q (some (.ref T)) s₁)
    (hdone : rem = [] → ∀ s₁, GMoved L B g s s₁ → s₁.gens[g]? = some .finished → Q none s₁) : wpAny (model U.prog U.w) A (pyNext (.ref ga)) Q E s := by
  obtain ⟨gs, hgs, hgo⟩ := X.go
  have hg0 : ∀ {s₀ s₁ : Shared} {st : GenState}, s₀ = s.setGen g .running → Since L B s₀ s₁ → GMoved L B g s (s₁.setGen g st) := by
    rintro _ _ st rfl ⟨h', tk, rfl, hk⟩
    exact ⟨hk, ⟨h', tk, _, rfl⟩, (GenOnly.setGen s g .running).trans (GenOnly.setGen _ g st)⟩
  refine wpAny_pyNext_gen (P := fun n s₀ s₁ => n = 0 ∧ Since L B s₀ s₁) f.hh G.lim f.room X.obj hgs (hgo _ (fun _ _ _ e => e) G.keep) (fun v s₁ gs' hv => ?_) (fun s₁ hp h' hk => ?_)
  · obtain ⟨T, p, x, ds, t, u, n, ⟨hsuf, hlen⟩, rfl, hT, hfr, hTL, hs, hkap⟩ := hv
    cases hrem : rem with
    | nil =>
      exfalso
      have := hkap s₁ (fun _ _ _ e => e) (by
        obtain ⟨h₁, tk₁, rfl, hk₁⟩ := hs
        intro b o e
        refine hk₁ b o ?_ (G.keep b o e)
        have hb := X.base b o e
        rintro (q | ⟨q, _⟩)
        · rw [q] at hb; exact absurd X.LB (Nat.not_le.mpr hb)
        · exact absurd q (Nat.not_le.mpr hb))
      rw [hrem] at this
      exact this
    | cons d ds' =>
      have e1 : (p, x) :: ds = d :: ds' := by
        refine suffix_same hsuf (hrem ▸ X.suf) ?_
        have : ds.length = rem.length - 1 := hlen
        rw [hrem] at this
        simp at this ⊢; omega
      cases e1
      have hm := hg0 (st := gs') rfl hs
      refine hitem p x ds hrem T _ t u n hT hfr hTL ⟨?_, List.IsSuffix.trans ⟨[_], rfl⟩ hsuf, X.gaB, X.gaL, X.LB, X.base, gs', ?_, fun s'' h3 h4 => ?_⟩ hm
      · obtain ⟨o, nm, qn, ho, hcl, r⟩ := X.obj
        exact ⟨o, nm, qn, hm.keep ga o (gen_not_priv hcl X.gaL) ho, hcl, r⟩
      · obtain ⟨h₁, tk₁, rfl, hk₁⟩ := hs
        exact setGen_self (gs := .running) (setGen_self hgs)
      · have := hkap s'' h3 h4
        rw [hrem] at this
        exact this
  · obtain ⟨hn, hs⟩ := hp
    have hrem : rem = [] := List.length_eq_zero_iff.mp hn
    obtain ⟨h₁, tk₁, rfl, hk₁⟩ := hs
    refine hdone hrem _ ⟨fun b o hp e => hk b o (hk₁ b o hp e), ⟨_, _, _, rfl⟩, (GenOnly.setGen s g .running).trans (GenOnly.setGen _ g .finished)⟩ ?_
    exact setGen_self (gs := .running) (setGen_self hgs)
end
end Mine

namespace Mine
section
variable {U : Uni} {A : Around} {s : Shared}
/-- a call of the generator's def -/
theorem gen_make {a : Addr} {pm cd doc : Value} (F : FnAt U "_iter_escaped_chars" a (fdAt 1 "_iter_escaped_chars" pm cd doc)) (f : Fit 1 A) (G : Gl U s.heap) {x : PySem.Str} {t : Tok} {Q : Value → Shared → Prop} {E : Value → Shared → Prop}
    (h : ∀ (h' : Heap) (tk : Nat) (ga L : Addr) (c : Code), Kept s.heap h' → @LE.le Nat _ s.heap.objs.size ga → @LT.lt Nat _ L h'.objs.size → (∀ A', Fit 31 A' → GenOk U A' ga s.gens.size L s.heap.objs.size (escU 0 false x.cps.toList) (escU 0 false x.cps.toList) { s with heap := h', toks := tk, gens := s.gens.push (.fresh c) }) →
      Q (.ref ga) { s with heap := h', toks := tk, gens := s.gens.push (.fresh c) }) : wpAny (model U.prog U.w) A (call (.ref a) [.str x t]) Q E s := by
  obtain ⟨o, ho, hdat⟩ := F.obj
  refine wpAny_call (codeAny_call_generator f.room (G.keep _ _ ho) hdat rfl rfl rfl (F.code.keeps G.keep) ?_)
  have hb : bindArgs (fdAt 1 "_iter_escaped_chars" pm cd doc) ⟨[Value.str x t], []⟩ = (pure ([("addr" : PySem.Str)].zip [Value.str x t]) : Sem _) := rfl
  refine wpAny_of_eq hb ?_
  refine wpAny_newFunctionEnv (show ∀ x ∈ (scopeOf (stAt 1)).names, x.2 ≠ .cell by decide +kernel) (by intro y hy; simp at hy; subst hy; rfl) (fun h₁ hns hsb => ?_) rfl
  have hk₁ : Kept s.heap h₁ := fun b o e => hsb.extBut b o (Nat.ne_of_lt (Heap.lt_size e)) (Heap.get?_push_of_some _ e)
  have hsz : h₁.objs.size = s.heap.objs.size + 1 := by rw [hsb.1, Heap.size_push]
  refine ⟨(G.kept hk₁).lim, ?_⟩
  have hbn : U.base.get? s.heap.objs.size = none := by
    cases e : U.base.get? s.heap.objs.size with
    | none => rfl
    | some o => exact absurd (Heap.lt_size (G.keep _ _ e)) (Nat.lt_irrefl _)
  refine h _ _ h₁.objs.size s.heap.objs.size _ (hk₁.trans (Kept.push _ _)) (by rw [hsz]; exact Nat.le_succ _) (by rw [Heap.size_push, hsz]; exact Nat.lt_succ_of_lt (Nat.lt_succ_self _)) fun A' fA => ?_
  refine ⟨⟨_, _, _, Heap.get?_push_size _ rfl, rfl, rfl, rfl⟩, List.suffix_refl _, by rw [hsz]; exact Nat.le_succ _, by rw [hsz]; exact Nat.succ_ne_self _, Nat.le_refl _, fun b o e => Heap.lt_size (G.keep b o e), _, Array.getElem?_push_size, fun s'' hp hb => ⟨rfl, ?_⟩⟩
  have X : GF U (gm0 x) (newEnv (scopeOf (stAt 1)) s.heap.objs.size mainGlobals [] ("_iter_escaped_chars" ++ ".<locals>.") (some a) cd none builtinsNs) h₁ := by
    refine ⟨⟨G.kept hk₁, rfl, rfl, rfl, rfl, fun b hz => ?_, fun y d hy => ?_⟩, ⟨_, hns⟩, rfl, hbn, fun n c hc => ?_, fun y hy => ?_, fun n c hc => ?_, List.Pairwise.nil, fun b o e => hk₁ b o (G.keep b o e), ⟨G.top, fun _ _ e => e⟩, fun p hp => by simp at hp, List.Pairwise.nil⟩
    · subst hz; obtain ⟨o, _, _, e, _⟩ := hns; exact ⟨o, e⟩
    · unfold gm0 at hy
      split at hy
      · rename_i q; subst q; cases hy
        exact ⟨by decide, _, .inl ⟨rfl, _, hns, rfl⟩, .str x t⟩
      · cases hy
    · cases hc
    · exfalso
      have := PySem.mem_of_lookup hy
      revert this
      have hall : ∀ z ∈ (scopeOf (stAt 1)).names, z.2 ≠ .cell := by decide +kernel
      intro hm; exact hall _ hm rfl
    · cases hc
  exact gen_seg (env := newEnv (scopeOf (stAt 1)) s.heap.objs.size mainGlobals [] ("_iter_escaped_chars" ++ ".<locals>.") (some a) cd none builtinsNs) (A := A'.in1) fA.in1 rfl rfl (Nat.le_refl _) (fun b o e => Heap.lt_size (G.keep b o e)) s''
    (X.wake gm0_atom rfl (fun o e => hp _ o (.inl rfl) (Heap.get?_push_of_some _ e)) hb)
end

def pairD (q : Int × PySem.Str) : D := .tup [.int q.1, .str q.2]
/-- a pair that has come out of the generator -/
def PairAt (h₀ h : Heap) (S L : Addr) (v : Value) (q : Int × PySem.Str) : Prop := ∃ (T : Addr) (t u : Tok) (n : Nat), v = .ref T ∧ T ≠ S ∧ T ≠ L ∧ h₀.get? T = none ∧ h.get? T = some { cls := .type "tuple", data := .seq #[.int q.1 t, .str q.2 u] n }
def Pairs (h₀ h : Heap) (S L : Addr) (vs : List Value) (ds : List (Int × PySem.Str)) : Prop := vs.length = ds.length ∧ ∀ (i : Nat) (v : Value) (q : Int × PySem.Str), vs[i]? = some v → ds[i]? = some q → PairAt h₀ h S L v q
theorem Pairs.mono {h₀ h h' : Heap} {S L : Addr} {vs : List Value} {ds : List (Int × PySem.Str)} (X : Pairs h₀ h S L vs ds) (hk : ∀ b o, o.cls = .type "tuple" → b ≠ S → b ≠ L → h.get? b = some o → h'.get? b = some o) : Pairs h₀ h' S L vs ds :=
  ⟨X.1, fun i v q hv hq => let ⟨T, t, u, n, h1, h2, h3, h4, h5⟩ := X.2 i v q hv hq; ⟨T, t, u, n, h1, h2, h3, h4, hk _ _ rfl h2 h3 h5⟩⟩
theorem Pairs.snoc {h₀ h : Heap} {S L : Addr} {vs : List Value} {ds : List (Int × PySem.Str)} (X : Pairs h₀ h S L vs ds) {v : Value} {q : Int × PySem.Str} (hv : PairAt h₀ h S L v q) : Pairs h₀ h S L (vs ++ [v]) (ds ++ [q]) := by
  refine ⟨by simp [X.1], fun i v' q' h1 h2 => ?_⟩
  by_cases hi : i < vs.length
  · rw [List.getElem?_append_left hi] at h1
    rw [List.getElem?_append_left (by rw [← X.1]; exact hi)] at h2
    exact X.2 i v' q' h1 h2
  · rw [List.getElem?_append_right (by omega)] at h1
    rw [List.getElem?_append_right (by rw [← X.1]; omega), ← X.1] at h2
    have hz : i - vs.length = 0 := by
      have := (List.getElem?_eq_some_iff.mp h1).1
      simp at this; omega
    rw [hz] at h1 h2
    cases h1; cases h2
    exact hv
theorem tuple_not_priv {L B b : Addr} {o : Obj} (hc : o.cls = .type "tuple") (hL : b ≠ L) : ¬ Priv L B b o := by
  rintro (h | ⟨_, h | h | h⟩)
  · exact hL h
  · rw [hc] at h; revert h; decide
  · rw [hc] at h; revert h; decide
  · rw [hc] at h; revert h; decide
theorem list_not_priv {L B b : Addr} {o : Obj} (hc : o.cls = .type "list") (hL : b ≠ L) : ¬ Priv L B b o := by
  rintro (h | ⟨_, h | h | h⟩)
  · exact hL h
  · rw [hc] at h; revert h; decide
  · rw [hc] at h; revert h; decide
  · rw [hc] at h; revert h; decide
theorem low_not_priv {L B b : Addr} {o : Obj} (hb : @LT.lt Nat _ b B) (hL : @LE.le Nat _ B L) : ¬ Priv L B b o := by
  rintro (h | ⟨h, _⟩)
  · rw [h] at hb; exact absurd hL (Nat.not_le.mpr hb)
  · exact absurd h (Nat.not_le.mpr hb)

section
variable {U : Uni} {A : Around} {ga : Addr} {g : Nat} {L B : Addr} {ys : List (Int × PySem.Str)} {R : Result → Shared → Prop}
theorem extend_loop (f : Fit 40 A) (S : Addr) (hSL : S ≠ L) (hSB : @LE.le Nat _ B S) (hSg : S ≠ ga) (h₀ : Heap) (h0B : ∀ b o, h₀.get? b = some o → @LT.lt Nat _ b B) (res : Value) (gens₀ : Array GenState) (sx : Shared) (hys : ys.length ≤ 1000)
    (hR : ∀ s' vs c, Kept h₀ s'.heap → s'.heap.get? S = some { cls := .type "list", dict := none, data := .seq vs.toArray c, slots := #[] } → Pairs h₀ s'.heap S L vs ys → GenOnly g gens₀ s'.gens → s'.gens[g]? = some .finished → (∃ h tk gs, s' = { sx with heap := h, toks := tk, gens := gs }) → R (.ok (.ret res)) s') :
    ∀ (rem : List (Int × PySem.Str)) (done : List (Int × PySem.Str)) (vs : List Value) (s : Shared) (c : Nat), done ++ rem = ys → GenOk U A.in1 ga g L B ys rem s → Gl U s.heap → Kept h₀ s.heap → s.heap.get? S = some { cls := .type "list", dict := none, data := .seq vs.toArray c, slots := #[] } →
      Pairs h₀ s.heap S L vs done → GenOnly g gens₀ s.gens → (∃ h tk gs, s = { sx with heap := h, toks := tk, gens := gs }) → codeAny (model U.prog U.w) A (.builtin "list.extend.loop" ⟨[.ref S, .ref ga, res], []⟩) R s := by
  have fi : Fit 31 A.in1 := (f.le (show 32 ≤ 40 by omega)).in1
  intro rem
  induction rem with
  | nil =>
    intro done vs s c hd X G hk hS hp hg hsx
    refine codeAny_builtin F.entry_extend_loop ?_
    rw [Around.under_plainId F.plain_extend_loop _]
    show wpAny _ A.in1 (pyNext (.ref ga) >>= _) _ _ s
    refine wpAny_bind (X.next fi G (fun p x ds e => by cases e) fun _ s₁ hm hfin => wpAny_pure ?_)
    obtain ⟨h', tk', gs', hs'⟩ := hm.rest
    obtain ⟨h₂, tk₂, gs₂, hs₂⟩ := hsx
    have hd' : done = ys := by rw [← hd, List.append_nil]
    refine hR s₁ vs c (fun b o e => hm.keep b o (low_not_priv (h0B b o e) X.LB) (hk b o e)) (hm.keep S _ (list_not_priv rfl hSL) hS) (by rw [← hd']; exact hp.mono fun b o hc _ hL e => hm.keep b o (tuple_not_priv hc hL) e) (hg.trans hm.gens) hfin ⟨h', tk', gs', by rw [hs', hs₂]⟩
  | cons q rem ih =>
    intro done vs s c hd X G hk hS hp hg hsx
    refine codeAny_builtin F.entry_extend_loop ?_
    rw [Around.under_plainId F.plain_extend_loop _]
    show wpAny _ A.in1 (pyNext (.ref ga) >>= _) _ _ s
    refine wpAny_bind (X.next fi G (fun p x ds e T s₁ t u n hT hfr hTL X₁ hm => ?_) fun e => by cases e)
    cases e
    obtain ⟨h', tk', gs', hs'⟩ := hm.rest
    obtain ⟨h₂, tk₂, gs₂, hs₂⟩ := hsx
    have hS₁ := hm.keep S _ (list_not_priv rfl hSL) hS
    have hTS : T ≠ S := fun e => by
      subst e
      rw [hT] at hS₁
      have := congrArg (Option.map Obj.cls) hS₁
      simp at this
    have hT0 : h₀.get? T = none := by
      cases e : h₀.get? T with
      | none => rfl
      | some o => exact absurd (hfr o (hk _ _ e)) (low_not_priv (h0B _ _ e) X.LB)
    have hlen : vs.length + (rem.length + 1) ≤ 1000 := by
      have : (done ++ (p, x) :: rem).length ≤ 1000 := by rw [hd]; exact hys
      rw [List.length_append, List.length_cons, ← hp.1] at this
      exact this
    have hp₁ : Pairs h₀ s₁.heap S L vs done := hp.mono fun b o hc _ hL e => hm.keep b o (tuple_not_priv hc hL) e
    have hl0 : Kept h₀ s₁.heap := fun b o e => hm.keep b o (low_not_priv (h0B b o e) X.LB) (hk b o e)
    show wpAny _ A.in1 (updateSeq S (·.push (.ref T)) >>= _) _ _ _
    refine wpAny_bind ?_
    have hsz : sizeLine = 16777216 := rfl
    refine wpAny_updateSeq hS₁ rfl (wpAny_pure ⟨plainId_quiet F.plain_extend_loop _, ?_⟩) (by rw [List.size_toArray]; omega) (by show (vs.toArray.push (.ref T)).size ≤ sizeLine + 1; rw [Array.size_push, List.size_toArray]; omega)
    have oth : ∀ b o, b ≠ S → s₁.heap.get? b = some o → (s₁.heap.update S (Obj.mapSeq (·.push (.ref T)))).get? b = some o := fun b o hb e => (Heap.get?_update_other _ _ (Ne.symm hb)).trans e
    refine ih (done ++ [(p, x)]) (vs ++ [.ref T]) _ ?c (by rw [List.append_assoc]; exact hd) (X₁.frame rfl (fun o e => oth _ o hSg.symm e) fun b o hpr e => oth b o (fun w => ?_) e) ?_ (fun b o e => oth b o (fun w => ?_) (hl0 b o e)) ?_ ((hp₁.mono fun b o _ hbS _ e => oth b o hbS e).snoc ⟨T, t, u, n, rfl, hTS, hTL, hT0, oth _ _ hTS hT⟩) (hg.trans hm.gens) ⟨_, _, _, by rw [hs', hs₂]⟩
    rotate_left
    · subst w
      rw [hS₁] at e; cases e
      exact list_not_priv (B := B) rfl hSL hpr
    · refine ⟨G.top, fun b o e => oth b o (fun w => ?_) (hm.keep b o (low_not_priv (X.base b o e) X.LB) (G.keep b o e))⟩
      have := X.base b o e
      rw [w] at this; exact absurd hSB (Nat.not_le.mpr this)
    · have := h0B b o e
      rw [w] at this; exact absurd hSB (Nat.not_le.mpr this)
    · have q := Heap.get?_update_self (Obj.mapSeq (·.push (Value.ref T))) hS₁ rfl
      rw [← List.push_toArray]
      exact q
end
end Mine

namespace Mine

/-- the same as Ev, but generators may have come and ended -/
def YieldsG (U : Uni) (A : Around) (t : Sem Value) (Z : Addr → Prop) (d : D) (s : Shared) : Prop :=
  ∀ (Q : Value → Shared → Prop) (E : Value → Shared → Prop), (∀ v h' tk gs, Kept s.heap h' → Rep Z h' v d → (AllBare s.gens → AllBare gs) → Q v { s with heap := h', toks := tk, gens := gs }) → wpAny (model U.prog U.w) A t Q E s
def EvG (U : Uni) (k : Nat) (σ : Scope) (m : PySem.Str → Option D) (e : Expr) (d : D) : Prop :=
  ∀ (A : Around) (env : Env) (Z : Addr → Prop) (s : Shared), Fit k A → EnvAt U σ m Z env s.heap → YieldsG U A (eval e env) Z d s

theorem bare_end {g : Nat} {gs₀ gs : Array GenState} {c : Code} (hg : g = gs₀.size) (ho : GenOnly g (gs₀.push (.fresh c)) gs) (hf : gs[g]? = some .finished) : AllBare gs₀ → AllBare gs := by
  intro hb y hy
  obtain ⟨j, hj, rfl⟩ := Array.getElem_of_mem hy
  by_cases h : j = g
  · have e : gs[j]? = some .finished := by rw [h]; exact hf
    have e2 : gs[j]? = some gs[j] := Array.getElem?_eq_getElem hj
    rw [Option.some.inj (e2.symm.trans e)]; rfl
  · have e := ho.2 j h
    have hj' : j < gs₀.size := by
      have := ho.1
      rw [Array.size_push] at this
      omega
    rw [Array.getElem?_push, if_neg (by omega), Array.getElem?_eq_getElem hj, Array.getElem?_eq_getElem hj'] at e
    rw [Option.some.inj e]
    exact hb _ (Array.getElem_mem hj')

section
variable {U : Uni} {A : Around} {s : Shared}
theorem list_gen {ga : Addr} {g : Nat} {L B : Addr} {ys : List (Int × PySem.Str)} {Q : Value → Shared → Prop} {E : Value → Shared → Prop} (f : Fit 50 A) (G : Gl U s.heap) (h₀ : Heap) (h0B : ∀ b o, h₀.get? b = some o → @LT.lt Nat _ b B) (hk0 : Kept h₀ s.heap)
    (hX : ∀ A', Fit 31 A' → GenOk U A' ga g L B ys ys s) (hL : @LT.lt Nat _ L s.heap.objs.size) (hys : ys.length ≤ 1000)
    (hQ : ∀ s' S vs c, h₀.get? S = none → S ≠ L → Kept h₀ s'.heap → s'.heap.get? S = some { cls := .type "list", dict := none, data := .seq vs.toArray c, slots := #[] } → Pairs h₀ s'.heap S L vs ys → GenOnly g s.gens s'.gens → s'.gens[g]? = some .finished → (∃ h tk gs, s' = { s with heap := h, toks := tk, gens := gs }) → Q (.ref S) s') :
    wpAny (model U.prog U.w) A (call (.type "list") [.ref ga]) Q E s := by
  have X0 := hX A (f.le (by omega))
  have hgaS : @LT.lt Nat _ ga s.heap.objs.size := by obtain ⟨o, _, _, ho, _⟩ := X0.obj; exact Heap.lt_size ho
  have hSB : @LE.le Nat _ B s.heap.objs.size := Nat.le_trans X0.LB (Nat.le_of_lt hL)
  have hSg : s.heap.objs.size ≠ ga := Nat.ne_of_gt hgaS
  have hSL : s.heap.objs.size ≠ L := Nat.ne_of_gt hL
  refine callType_codes (Q₁ := fun obj s₁ => obj = .ref s.heap.objs.size ∧ s₁ = { s with heap := s.heap.push { cls := .type "list", data := .seq #[] } }) F.called_list (F.typeCall_list_1 _) F.entry_list_init
    (code_list_new _ ⟨rfl, rfl⟩) fun obj s₁ h₁ => ?_
  obtain ⟨rfl, rfl⟩ := h₁
  have hS : (s.heap.push { cls := .type "list", data := .seq #[] }).get? s.heap.objs.size = some { cls := .type "list", data := .seq #[] } := Heap.get?_push_size _ rfl
  refine ⟨⟨_, hS, rfl⟩, F.args_list_init_2 _ _, ?_⟩
  generalize hSe : s.heap.objs.size = S at *
  show wpAny _ A.in1.in1 (do let old ← Builtin.List.listItems (.ref S); Builtin.List.listUpdate (.ref S) (fun _ => #[]); letGo old.toList.reverse; Builtin.List.listExtendWith (.ref S) (.ref ga) .none) _ _ _
  refine wpAny_bind ?_
  unfold Builtin.List.listItems
  refine wpAny_bind (wpAny_seqItems hS rfl (wpAny_pure ?_))
  show wpAny _ A.in1.in1 (updateSeq S (fun _ => #[]) >>= fun _ => letGo (#[] : Array Value).toList.reverse >>= fun _ => Builtin.List.listExtendWith (.ref S) (.ref ga) .none) _ _ _
  refine wpAny_bind (wpAny_updateSeq hS rfl ?_)
  have hS₂ := Heap.get?_update_self (Obj.mapSeq (fun _ => (#[] : Array Value))) hS rfl
  have oth : ∀ b o, b ≠ S → s.heap.get? b = some o → ((s.heap.push { cls := .type "list", data := .seq #[] }).update S (Obj.mapSeq (fun _ => (#[] : Array Value)))).get? b = some o :=
    fun b o hb e => (Heap.get?_update_other _ _ (Ne.symm hb)).trans (Heap.get?_push_of_some _ e)
  refine wpAny_bind (wpAny_letGo ?_)
  have hT : ∀ {h : Heap} {s' : Shared}, s'.heap = h → (∀ o, s.heap.get? ga = some o → h.get? ga = some o) → s'.TypeIs (.ref ga) "generator" := fun e hk => by
    obtain ⟨o, nm, qn, ho, hcl, r⟩ := X0.obj
    exact ⟨o, by rw [e]; exact hk o ho, hcl⟩
  unfold Builtin.List.listExtendWith
  refine wpAny_bind (wpAny_typeOf (hT rfl fun o e => oth _ o hSg.symm e) ?_)
  have h1 : Builtin.List.listSameRef (.ref S) (.ref ga) = false := by simp [Builtin.List.listSameRef, hSg]
  have h2 : (Value.type "generator" == Value.type "list") = false := by decide
  have h3 : (Value.type "generator" == Value.type "tuple") = false := by decide
  simp only [h1, h2, h3, Bool.or_false, Bool.false_eq_true, if_false]
  refine wpAny_bind (wpAny_pyIter_gen (g := g) (by obtain ⟨o, nm, qn, ho, r⟩ := X0.obj; exact ⟨o, nm, qn, oth _ o hSg.symm ho, r⟩) ?_)
  refine wpAny_bind (wpAny_holding ?_)
  unfold Builtin.List.listLengthHint
  refine wpAny_bind (wpAny_specialOf (hT rfl fun o e => oth _ o hSg.symm e) F.gen_no_len ?_)
  show wpAny _ A.in1.in1 (specialOf (Value.ref ga) (Str.ofString "__length_hint__") >>= _) _ _ _
  refine wpAny_bind (wpAny_specialOf (hT rfl fun o e => oth _ o hSg.symm e) F.gen_no_hint ?_)
  refine wpAny_pure ?_
  show wpAny _ A.in1.in1 (rule "list.extend.makes-room" >>= fun _ => Builtin.List.listTouch (.ref S) >>= fun _ =>
    again (.builtin "list.extend.loop" ⟨[.ref S, .ref ga, .none], []⟩)) _ _ _
  refine wpAny_bind (wpAny_rule ?_)
  refine wpAny_bind ?_
  show wpAny _ A.in1.in1 (updateSeq S (·.push .none) >>= fun _ => updateSeq S (·.pop)) _ _ _
  refine wpAny_bind (wpAny_updateSeq (hz := by seq_fits) hS₂ rfl ?_)
  have hS₃ := Heap.get?_update_self (Obj.mapSeq (·.push Value.none)) hS₂ rfl
  refine wpAny_updateSeq (hz := by seq_fits) hS₃ rfl ?_
  have hS₄ := Heap.get?_update_self (Obj.mapSeq (·.pop)) hS₃ rfl
  have oth₄ : ∀ b o, b ≠ S → s.heap.get? b = some o → ((((s.heap.push { cls := .type "list", data := .seq #[] }).update S (Obj.mapSeq (fun _ => (#[] : Array Value)))).update S (Obj.mapSeq (·.push Value.none))).update S (Obj.mapSeq (·.pop))).get? b = some o :=
    fun b o hb e => (Heap.get?_update_other _ _ (Ne.symm hb)).trans ((Heap.get?_update_other _ _ (Ne.symm hb)).trans (oth b o hb e))
  have hs0 : ∀ b o, s.heap.get? b = some o → b ≠ S := fun b o e w => by have := Heap.lt_size e; rw [hSe, w] at this; exact Nat.lt_irrefl _ this
  have hS0 : h₀.get? S = none := by
    cases e : h₀.get? S with
    | none => rfl
    | some o => exact absurd (h0B _ _ e) (Nat.not_lt.mpr hSB)
  refine wpAny_pure ⟨plainId_quiet F.plain_extend_loop _, extend_loop (U := U) (A := A.in1) (f.le (show 41 ≤ 50 by omega)).in1 S hSL hSB hSg h₀ h0B .none s.gens s hys (g := g) (L := L) (fun s' vs c hk hS' hp hg hf hr => ?_) ys [] [] _ _ rfl
    ((hX A.in1.in1 ((f.le (show 33 ≤ 50 by omega)).in1.in1)).frame rfl (fun o e => oth₄ _ o hSg.symm e) fun b o hpr e => oth₄ b o (hs0 b o e) e) (G.kept fun b o e => oth₄ b o (hs0 b o e) e) (fun b o e => oth₄ b o (hs0 _ _ (hk0 _ _ e)) (hk0 _ _ e)) hS₄ ⟨rfl, fun i v q hv => by simp at hv⟩ ⟨rfl, fun _ _ => rfl⟩ ⟨_, _, _, rfl⟩⟩
  exact ⟨rfl, hQ s' S vs c hS0 hSL hk hS' hp hg hf hr⟩

theorem pairs_rep {h₀ h : Heap} {S L : Addr} {vs : List Value} {ys : List (Int × PySem.Str)} {Z : Addr → Prop} {c : Nat} (zok : ∀ b, Z b → ∃ o, h₀.get? b = some o) (hS0 : h₀.get? S = none) (hS : h.get? S = some { cls := .type "list", dict := none, data := .seq vs.toArray c, slots := #[] }) (hp : Pairs h₀ h S L vs ys) :
    Rep Z h (.ref S) (.lst (ys.map pairD)) := by
  have nz : ∀ b, h₀.get? b = none → ¬ Z b := fun b e hz => by obtain ⟨o, q⟩ := zok b hz; rw [e] at q; cases q
  refine .lst (nz S hS0) hS (by rw [List.length_map]; exact hp.1) fun i v d hv hd => ?_
  rw [List.getElem?_map] at hd
  cases hq : ys[i]? with
  | none => rw [hq] at hd; cases hd
  | some q =>
    rw [hq] at hd; cases hd
    obtain ⟨T, t, u, n, rfl, _, _, hT0, hT⟩ := hp.2 i v q hv hq
    refine .tup (vs := [.int q.1 t, .str q.2 u]) (nz T hT0) hT rfl fun j v d hv hd => ?_
    match j, hv, hd with
    | 0, hv, hd => cases hv; cases hd; exact .int _ _
    | 1, hv, hd => cases hv; cases hd; exact .str _ _
    | j + 2, hv, _ => simp at hv

theorem EvG.listGen {k : Nat} {σ : Scope} {m : PySem.Str → Option D} {np np' pos pos' : Pos} {e : Expr} {x : PySem.Str} {a : Addr} {pm cd doc : Value} (F : FnAt U "_iter_escaped_chars" a (fdAt 1 "_iter_escaped_chars" pm cd doc)) (hk : 50 ≤ k) (he : Ev U k σ m e (.str x)) (hys : (escU 0 false x.cps.toList).length ≤ 1000)
    (hl : σ.names.lookup ("list" : PySem.Str) = some .globalImplicit) (hg : σ.names.lookup ("_iter_escaped_chars" : PySem.Str) = some .globalImplicit)
    (hst : ∀ env rest, starEach (e :: rest) env = (false, eval e env) :: starEach rest env := by intro _ _; rfl) :
    EvG U k σ m (.Call (.Name "list" np) [.Call (.Name "_iter_escaped_chars" np') [e] [] pos'] [] pos) (.lst ((escU 0 false x.cps.toList).map pairD)) := fun A env Z s f X Q E hQ => by
  obtain ⟨o, ho, hdat⟩ := F.obj
  refine wpAny_Call_ofName (built_load X hl (by decide) boot_list ?_)
  refine PyProof.Rows.callWith_type rfl ?_
  refine Calls.evalArgs_plain (Calls.spliced_cons ?_)
  refine wpAny_Call_ofName (glob_load X hg F.name ?_)
  refine Calls.callWith_function (o := o) (fd := fdAt 1 "_iter_escaped_chars" pm cd doc) ?_
  refine evalArgs_of (EvAll.cons he EvAll.nil hst) A env Z s _ _ f X fun vs h₁ tk₁ hk₁ rs => ⟨⟨(X.gl.kept hk₁).keep _ _ ho, hdat⟩, ?_⟩
  obtain ⟨v, rfl, r⟩ := rs.one
  obtain ⟨t, rfl⟩ := r.str_inv
  refine gen_make (s := { s with heap := h₁, toks := tk₁ }) F (f.le (by omega)) (X.gl.kept hk₁) fun h₂ tk₂ ga L c hk₂ hga hlt hX => ?_
  refine Calls.spliced_nil ?_
  have X0 := hX A (f.le (by omega))
  refine list_gen (f.le hk) ((X.gl.kept hk₁).kept hk₂) h₁ (fun b o q => Heap.lt_size q) hk₂ hX hlt hys fun s' S vs c' hS0 hSL hk3 hS hp hgo hfin hr => ?_
  · obtain ⟨h₃, tk₃, gs₃, rfl⟩ := hr
    exact hQ _ h₃ tk₃ gs₃ (hk₁.trans hk3) (pairs_rep (zok_kept X.zok hk₁) hS0 hS hp) (bare_end rfl hgo hfin)
end
end Mine

namespace Mine
section
variable {U : Uni} {k : Nat} {σ : Scope} {m : PySem.Str → Option D} {mu : List Mut} {A : Around} {Z : Addr → Prop} {h₀ : Heap} {env : Env} {s : Shared} {Q : Flow → Shared → Prop} {E : Value → Shared → Prop}

theorem FEnv.ownZ {h : Heap} (X : FEnv U σ m mu Z h₀ env h) {b : Addr} (hb : ownF env mu b) : Z b := by
  rcases hb with rfl | ⟨n, hn⟩ | ⟨p, hp, rfl⟩
  · exact X.zl
  · exact (X.cell n b hn).2.1
  · exact (X.muts p hp).2.1
/-- a generator has gone on -/
theorem FEnv.gstep {B : Addr} {h h' : Heap} (X : FEnv U σ m mu Z h₀ env h) (hk : ∀ b o, @LT.lt Nat _ b B → h.get? b = some o → h'.get? b = some o) (hB : ∀ b, Z b → @LT.lt Nat _ b B) (h0B : ∀ b o, h₀.get? b = some o → @LT.lt Nat _ b B)
    (hat : ∀ y d, m y = some d → d.atom = true) (hmu : ∀ p ∈ mu, ∀ d ∈ p.data, d.atom = true) : FEnv U σ m mu Z h₀ env h' := by
  have hl := hB _ X.zl
  have ok : Kept h₀ h' := fun b o e => hk b o (h0B b o e) (X.old b o e)
  have held : ∀ {y : PySem.Str} {v' : Value}, Held env h y v' → Held env h' y v' := fun H => by
    rcases H with ⟨h1, m1, hm1, h2⟩ | ⟨h1, c, hlc, hv'⟩
    · exact .inl ⟨h1, m1, hm1.at' fun o e => hk _ o hl e, h2⟩
    · obtain ⟨o, ho, hd⟩ := hv'; exact .inr ⟨h1, c, hlc, o, hk c o (hB _ (X.cell _ c hlc).2.1) ho, hd⟩
  refine ⟨⟨X.gl0.kept ok, X.toAt.scope, X.toAt.kind, X.toAt.glob, X.toAt.blt, fun b hb => let ⟨o, e⟩ := X.toAt.zok b hb; ⟨o, hk b o (hB b hb) e⟩, fun y d hy => ?_⟩, ?_, X.zl, X.nl, fun n c hc' => ⟨?_, (X.cell n c hc').2⟩, X.hascell, X.above, X.apart, ok, X.gl0, fun p hp => ?_, X.mapart⟩
  · obtain ⟨h1, v, h2, h3⟩ := X.toAt.vars y d hy; exact ⟨h1, v, held h2, h3.atom (hat y d hy)⟩
  · obtain ⟨mm, hn⟩ := X.ns; exact ⟨mm, hn.at' fun o e => hk _ o hl e⟩
  · obtain ⟨⟨v, o, ho, hd⟩, hz, _⟩ := X.cell n c hc'; exact ⟨v, o, hk c o (hB _ hz) ho, hd⟩
  · obtain ⟨h1, h2, h3, vs, n, h4, h5⟩ := X.muts p hp
    exact ⟨held h1, h2, h3, vs, n, hk _ _ (hB _ h2) h4, h5.1, fun i v d hv hd => (h5.2 i v d hv hd).atom (hmu p hp d (List.mem_of_getElem? hd))⟩

theorem st_forGen {τ : Type} {xp xc : PySem.Str} {pp pc tp np pos' pos : Pos} {kk : Nat} {e : Expr} {x : PySem.Str} {body rest : List Stmt} {a : Addr} {pm cd doc : Value} (F : FnAt U "_iter_escaped_chars" a (fdAt 1 "_iter_escaped_chars" pm cd doc)) (hk31 : 31 ≤ k)
    (f : Fit k A) (X : FEnv U σ m mu Z h₀ env s.heap) (he : Ev U k σ m e (.str x)) (hg : σ.names.lookup ("_iter_escaped_chars" : PySem.Str) = some .globalImplicit)
    (hxp : σ.names.lookup xp = some .local ∨ σ.names.lookup xp = some .cell) (hxc : σ.names.lookup xc = some .local ∨ σ.names.lookup xc = some .cell)
    (t₀ : τ) (I : τ → List (Int × PySem.Str) → Prop) (M : τ → PySem.Str → Option D) (Mu : τ → List Mut) (hI : I t₀ (escU 0 false x.cps.toList)) (hM : ∀ y d, M t₀ y = some d → m y = some d) (hMu : Mu t₀ = mu)
    (hat : ∀ t y d, M t y = some d → d.atom = true) (hmu : ∀ t, ∀ p ∈ Mu t, ∀ d ∈ p.data, d.atom = true) (hnp : ∀ t, ∀ p ∈ Mu t, p.name ≠ xp) (hnc : ∀ t, ∀ p ∈ Mu t, p.name ≠ xc)
    (hbody : ∀ t p c ds, I t ((p, c) :: ds) → ∀ (h₁ : Heap) (s₁ : Shared), FEnv U σ (upd (upd (M t) xp (.int p)) xc (.str c)) (Mu t) Z h₁ env s₁.heap → ∀ E', wpAny (model U.prog U.w) A (execs body env) (fun fl s₂ => fl = .next ∧ (∃ h tk, s₂ = { s₁ with heap := h, toks := tk }) ∧ ∃ t', I t' ds ∧ FEnv U σ (M t') (Mu t') Z h₁ env s₂.heap) E' s₁)
    (h : ∀ t s', I t [] → FEnv U σ (M t) (Mu t) Z h₀ env s'.heap → (∃ h tk gs, s' = { s with heap := h, toks := tk, gens := gs } ∧ (AllBare s.gens → AllBare gs)) → wpAny (model U.prog U.w) A (execs rest env) Q E s')
    (hst : ∀ env rest, starEach (e :: rest) env = (false, eval e env) :: starEach rest env := by intro _ _; rfl)
    (hdx : (xp == ("__debug__" : PySem.Str)) = false := by decide) (hdy : (xc == ("__debug__" : PySem.Str)) = false := by decide) :
    wpAny (model U.prog U.w) A (execs (.For (.Tuple [.Name xp pp, .Name xc pc] kk tp) (.Call (.Name "_iter_escaped_chars" np) [e] [] pos') body [] pos :: rest) env) Q E s := by
  obtain ⟨o, ho, hdat⟩ := F.obj
  refine wpAny_execs_cons (wpAny_For ?_ (by intro _; rfl))
  refine wpAny_Call_ofName (glob_load X.toAt hg F.name ?_)
  refine Calls.callWith_function (o := o) (fd := fdAt 1 "_iter_escaped_chars" pm cd doc) ?_
  refine evalArgs_of (EvAll.cons he EvAll.nil hst) A env Z s _ _ f X.toAt fun vs h₁ tk₁ hk₁ rs => ⟨⟨(X.toAt.gl.kept hk₁).keep _ _ ho, hdat⟩, ?_⟩
  obtain ⟨v, rfl, r⟩ := rs.one
  obtain ⟨t, rfl⟩ := r.str_inv
  refine gen_make (s := { s with heap := h₁, toks := tk₁ }) F (f.le (by omega)) (X.toAt.gl.kept hk₁) fun h₂ tk₂ ga L c hk₂ hga hlt hX => ?_
  have X0 := hX A (f.le (by omega))
  refine wpAny_pyIter_gen X0.obj ?_
  have X₁ : FEnv U σ m mu Z h₀ env h₁ := X.kept hk₁
  have hB : ∀ b, Z b → @LT.lt Nat _ b h₁.objs.size := fun b hb => let ⟨o, q⟩ := X₁.toAt.zok b hb; Heap.lt_size q
  have h0B : ∀ b o, h₀.get? b = some o → @LT.lt Nat _ b h₁.objs.size := fun b o q => Heap.lt_size (X₁.old b o q)
  refine codeAny_forLoop_any (fun n s' => ∃ rem t, rem.length = n ∧ I t rem ∧ GenOk U A ga s.gens.size L h₁.objs.size (escU 0 false x.cps.toList) rem s' ∧ FEnv U σ (M t) (Mu t) Z h₀ env s'.heap ∧ GenOnly s.gens.size (s.gens.push (.fresh c)) s'.gens ∧ ∃ h tk gs, s' = { s with heap := h, toks := tk, gens := gs }) ?_ _
    ⟨_, t₀, rfl, hI, X0, (by rw [hMu]; exact (X₁.kept hk₂).lessM hM), ⟨rfl, fun _ _ => rfl⟩, _, _, _, rfl⟩
  rintro n s' ⟨rem, tt, rfl, hIt, Xg, Xf, hgo, hr⟩
  have fA : Fit 31 A := f.le (by omega)
  refine Xg.next fA Xf.toAt.gl (fun p cc ds hrem T s₁ t' u n hT hfr hTL X₁' hm => ?_) (fun hrem s₁ hm hfin => ?_)
  · subst hrem
    have Xs : FEnv U σ (M tt) (Mu tt) Z h₀ env s₁.heap := Xf.gstep (fun b o hb q => hm.keep b o (low_not_priv hb Xg.LB) q) hB h0B (hat tt) (hmu tt)
    obtain ⟨o', nm, qn, ho', hcl, hd', hsl⟩ := X₁'.obj
    refine letOwned_cls ho' hcl (by decide) ?_
    have hZT : ¬ Z T := fun hz => by
      obtain ⟨o, q⟩ := Xf.toAt.zok T hz
      exact low_not_priv (hB T hz) Xg.LB (hfr o q)
    refine FEnv.assign2 f Xs.rebase (d := .int p) (e := .str cc) (.tup (vs := [.int p t', .str cc u]) hZT hT rfl fun j v d hv hd => ?_) hxp hxc (hnp tt) (hnc tt) ?_ ⟨rfl, rfl⟩ hdx hdy
    · match j, hv, hd with
      | 0, hv, hd => cases hv; cases hd; exact .int _ _
      | 1, hv, hd => cases hv; cases hd; exact .str _ _
      | j + 2, hv, _ => simp at hv
    · intro h₃ tk₃ X₃
      refine wpAny_mono (hbody tt p cc ds hIt _ { s₁ with heap := h₃, toks := tk₃ } X₃ _) (fun fl s₅ h₅ => ?_) fun _ _ q => q
      obtain ⟨rfl, ⟨h₆, tk₆, rfl⟩, t₂, hI₂, X₅⟩ := h₅
      have k₅ : ∀ b o, ¬ ownF env (Mu tt) b → s₁.heap.get? b = some o → h₆.get? b = some o := fun b o hb q => X₅.old b o (by rw [hide_no hb]; exact q)
      have hown : ∀ b, @LE.le Nat _ h₁.objs.size b → ¬ ownF env (Mu tt) b := fun b hb ho => absurd hb (Nat.not_le.mpr (hB b (Xs.ownZ ho)))
      refine ⟨ds.length, Nat.lt_succ_self _, ds, t₂, rfl, hI₂, X₁'.frame rfl (fun o q => k₅ _ o (hown _ Xg.gaB) q) (fun b o hp q => k₅ b o (hown b ?_) q), X₅.back Xs.hidden Xs.gl0, hgo.trans hm.gens, ?_⟩
      · rcases hp with hp | hp
        · rw [hp]; exact Xg.LB
        · exact hp.1
      · obtain ⟨h', tk', gs', q⟩ := hm.rest
        obtain ⟨h'', tk'', gs'', q'⟩ := hr
        exact ⟨_, _, _, by rw [q, q']⟩
  · subst hrem
    have Xs : FEnv U σ (M tt) (Mu tt) Z h₀ env s₁.heap := Xf.gstep (fun b o hb q => hm.keep b o (low_not_priv hb Xg.LB) q) hB h0B (hat tt) (hmu tt)
    refine wpAny_execs_nil (h tt s₁ hIt Xs ?_)
    obtain ⟨h', tk', gs', q⟩ := hm.rest
    obtain ⟨h'', tk'', gs'', q'⟩ := hr
    subst q
    exact ⟨h', tk', gs', by rw [q'], bare_end rfl (hgo.trans hm.gens) hfin⟩
end
end Mine

namespace Mine

/-- rising places from lo on, below n -/
def Inc (n : Nat) : Nat → List (Int × PySem.Str) → Prop
  | _, [] => True
  | lo, (p, _) :: ds => ∃ a : Nat, p = a ∧ lo ≤ a ∧ a < n ∧ Inc n (a + 1) ds
theorem Inc.weak {n : Nat} : ∀ {ys : List (Int × PySem.Str)} {lo lo' : Nat}, Inc n lo ys → lo' ≤ lo → Inc n lo' ys
  | [], _, _, _, _ => trivial
  | (p, x) :: ds, lo, lo', ⟨a, h1, h2, h3, h4⟩, hl => ⟨a, h1, Nat.le_trans hl h2, h3, h4⟩
theorem escU_inc (n : Nat) : ∀ (cs : List Nat) (i : Nat), i + cs.length = n → Inc n i (escU i false cs) ∧ (1 ≤ i → Inc n (i - 1) (escU i true cs)) := by
  intro cs
  induction cs with
  | nil =>
    intro i hi
    simp at hi
    refine ⟨trivial, fun h1 => ⟨i - 1, rfl, Nat.le_refl _, by omega, trivial⟩⟩
  | cons c cs ih =>
    intro i hi
    simp at hi
    obtain ⟨h1, h2⟩ := ih (i + 1) (by omega)
    refine ⟨?_, fun hp => ⟨i, rfl, by omega, by omega, h1⟩⟩
    show Inc n i (if _ then _ else _)
    split
    · exact h2 (by omega)
    · exact ⟨i, rfl, Nat.le_refl _, by omega, h1⟩
theorem escU_len : ∀ (cs : List Nat) (i : Nat), (escU i false cs).length ≤ cs.length ∧ (escU i true cs).length ≤ cs.length + 1 := by
  intro cs
  induction cs with
  | nil => intro i; exact ⟨Nat.le_refl _, Nat.le_refl _⟩
  | cons c cs ih =>
    intro i
    obtain ⟨h1, h2⟩ := ih (i + 1)
    refine ⟨?_, ?_⟩
    · show (if _ then _ else _ : List _).length ≤ _
      split
      · simpa using h2
      · simpa using h1
    · show (escU (i + 1) false cs).length + 1 ≤ cs.length + 1 + 1
      omega

def stripF (x : PySem.Str) : Nat → Option Nat → List PySem.Str → List (Int × PySem.Str) → Nat × List PySem.Str
  | start, _, res, [] => (start, res)
  | start, op, res, (p, c) :: ds => if (c == quoteS) = true then (match op with | none => stripF x start (some p.toNat) res ds | some o => stripF x (p.toNat + 1) none (if ((start : Int) != (o : Int)) = true then res ++ [cut x start o] else res) ds) else stripF x start op res ds
def stripS (x : PySem.Str) : PySem.Str := if 34 ∈ x.cps.toList then
    (let r := stripF x 0 none [] (escU 0 false x.cps.toList)
     Txt.join "" (if ((r.1 : Int) < (x.length : Int)) then r.2 ++ [cut x r.1 x.length] else r.2))
  else x

def opD : Option Nat → D
  | none => .none
  | some o => .int o
structure SS where
  start : Nat
  op : Option Nat
  res : List PySem.Str
  lo : Nat
def SS.m (x : PySem.Str) (t : SS) : PySem.Str → Option D := fun y => if y = "addr" then some (.str x) else if y = "start" then some (.int t.start) else if y = "open_pos" then some (opD t.op) else none
theorem SS.atom {x : PySem.Str} (t : SS) : ∀ y d, t.m x y = some d → d.atom = true := by
  intro y d hy
  unfold SS.m at hy
  split at hy
  · cases hy; rfl
  · split at hy
    · cases hy; rfl
    · split at hy
      · cases hy; cases t.op <;> rfl
      · cases hy
structure SSok (x : PySem.Str) (fin : Nat × List PySem.Str) (t : SS) (rem : List (Int × PySem.Str)) : Prop where
  inc : Inc x.length t.lo rem
  st : t.start ≤ t.lo
  op : ∀ o, t.op = some o → t.start ≤ o ∧ o ≤ t.lo
  lo : t.lo ≤ x.length
  len : t.res.length + rem.length ≤ 200
  each : ∀ r ∈ t.res, r.length ≤ 200
  val : stripF x t.start t.op t.res rem = fin
theorem cut_len (x : PySem.Str) (a b : Nat) : (cut x a b).length ≤ x.length := by
  unfold cut Str.length
  simp only [List.size_toArray, List.length_take, List.length_drop, Array.length_toList]
  omega
theorem sum_len {xs : List PySem.Str} (h : ∀ r ∈ xs, r.length ≤ 200) : (xs.map (·.length)).sum ≤ 200 * xs.length := by
  induction xs with
  | nil => exact Nat.le_refl _
  | cons x xs ih =>
    have h1 := h x (by simp)
    have h2 := ih fun r hr => h r (by simp [hr])
    simp only [List.map_cons, List.sum_cons, List.length_cons]
    omega

section
variable {U : Uni} {A : Around} {Z : Addr → Prop} {s : Shared}
theorem opIsNone {A : Around} {v₁ v₂ : Value} {op : Option Nat} (r₁ : Rep Z s.heap v₁ (opD op)) (r₂ : Rep Z s.heap v₂ .none) : Yields U A (compareOp .Is v₁ v₂) Z (.bool op.isNone) s := fun Q E hQ => by
  obtain rfl := r₂.none_inv
  cases op with
  | none => obtain rfl := r₁.none_inv; exact wpAny_is_self rfl (hQ _ s.heap s.toks (Kept.refl _) (.bool _))
  | some o => obtain ⟨t, rfl⟩ := r₁.int_inv; exact is_int_none (hQ _ s.heap s.toks (Kept.refl _) (.bool _))

theorem strip_call {a u : Addr} {pm cd doc pm' cd' doc' : Value} (F : FnAt U "_strip_quoted_realnames" a (fdAt 2 "_strip_quoted_realnames" pm cd doc)) (Fg : FnAt U "_iter_escaped_chars" u (fdAt 1 "_iter_escaped_chars" pm' cd' doc')) {x : PySem.Str} (hx : x.length ≤ 198)
    (f : Fit 60 A) (zok : ∀ b, Z b → ∃ o, s.heap.get? b = some o) (G : Gl U s.heap) {vs : List Value} (rs : RepAll Z s.heap vs [.str x]) : YieldsG U A (call (.ref a) vs) Z (.str (stripS x)) s := fun Q E hQ => by
  obtain ⟨v₁, rfl, _⟩ := rs.one
  refine call_def (ps := ["addr"]) (ds := [.str x]) F (f.le (show 57 ≤ 60 by omega)) G zok rs rfl rfl rfl rfl rfl rfl (by rfl) (by decide) rfl rfl rfl ?_
  intro env h₁ tk X E'
  have fd : Fit 57 (A.deeper env) := f.deeper env
  change FEnv U (scopeOf (stAt 2)) _ _ _ _ _ _ at X
  have hsz : sizeLine = 16777216 := rfl
  refine st_if fd X (b := !decide (34 ∈ x.cps.toList)) (EvT.cmp (Ev.str (x := ⟨#[34]⟩)) (Ev.name rfl) fun A Z s v₁ v₂ _ r₁ r₂ => opInS r₁ r₂) ?_ ?_
  · intro hb h₂ tk₂ X₂
    have hb' : ¬ 34 ∈ x.cps.toList := by simpa using hb
    refine st_return fd X₂ (Ev.name rfl) fun v h'' tk'' hk X'' r => ⟨v, rfl, ?_⟩
    have e : stripS x = x := by unfold stripS; rw [if_neg hb']
    rw [e] at hQ
    exact hQ v h'' tk'' s.gens X''.old (r.atom rfl) fun h => h
  · intro hb h₂ tk₂ X₂
    have hb' : 34 ∈ x.cps.toList := by simpa using hb
    refine wpAny_execs_nil ?_
    refine st_assign fd X₂ (d := .int 0) Ev.int (.inl rfl) (by simp) ?_ rfl
    intro h₃ tk₃ X₃
    refine st_assign fd X₃ (d := .none) Ev.cnone (.inl rfl) (by simp) ?_ rfl
    intro h₄ tk₄ X₄
    refine st_newlist fd X₄ EvAll.nil (Nat.zero_le _) (.inl rfl) (by simp) ?_
    intro ra h₅ tk₅ X₅
    have hlen := (escU_len x.cps.toList 0).1
    have hxl : x.cps.toList.length = x.length := rfl
    obtain ⟨fin, hfin⟩ : ∃ fin, stripF x 0 none [] (escU 0 false x.cps.toList) = fin := ⟨_, rfl⟩
    refine st_forGen Fg (show 31 ≤ 57 by omega) fd X₅ (x := x) (Ev.name rfl) rfl (.inl rfl) (.inl rfl) (⟨0, none, [], 0⟩ : SS) (SSok x fin) (SS.m x) (fun t => [⟨"result", ra, strsD t.res⟩])
      ⟨(escU_inc x.length x.cps.toList 0 (by omega)).1, Nat.le_refl _, fun o h => by simp at h, Nat.zero_le _, by simp; omega, by simp, hfin⟩ ?_ rfl SS.atom ?_ ?_ ?_ ?_ ?_
    · intro y d hy
      unfold SS.m at hy
      split at hy
      · rename_i e; subst e; cases hy; rfl
      · split at hy
        · rename_i e; subst e; cases hy; rfl
        · split at hy
          · rename_i e; subst e; cases hy; rfl
          · cases hy
    · intro t p hp d hd
      simp only [List.mem_singleton] at hp; subst hp
      obtain ⟨r, _, rfl⟩ := List.mem_map.mp hd
      rfl
    · intro t p hp; simp only [List.mem_singleton] at hp; subst hp; show ("result" : PySem.Str) ≠ "pos"; decide
    · intro t p hp; simp only [List.mem_singleton] at hp; subst hp; show ("result" : PySem.Str) ≠ "ch"; decide
    · intro t p c ds hI h₁' s₁ X' E''
      obtain ⟨a', rfl, hlo, han, hinc⟩ := hI.inc
      have hst := hI.st
      have hlo' := hI.lo
      refine st_if fd X' (b := c == quoteS) (EvT.cmp (Ev.name rfl) Ev.str fun A Z s v₁ v₂ _ r₁ r₂ => opEqS r₁ r₂) ?_ ?_
      · intro hc h₆ tk₆ X₆
        refine st_if fd X₆ (b := t.op.isNone) (EvT.cmp (Ev.name (d := opD t.op) rfl) Ev.cnone fun A Z s v₁ v₂ _ r₁ r₂ => opIsNone r₁ r₂) ?_ ?_
        · intro ho h₇ tk₇ X₇
          have ho' : t.op = none := by simpa using ho
          refine st_assign fd X₇ (d := .int a') (Ev.name rfl) (.inl rfl) (by intro p hp; simp only [List.mem_singleton] at hp; subst hp; show ("result" : PySem.Str) ≠ "open_pos"; decide) ?_ rfl
          intro h₈ tk₈ X₈
          refine wpAny_execs_nil (wpAny_execs_nil (wpAny_execs_nil ⟨rfl, ⟨_, _, rfl⟩, ⟨t.start, some a', t.res, a' + 1⟩, ⟨hinc, by show t.start ≤ a' + 1; omega, ?_, by show a' + 1 ≤ _; omega, ?_, hI.each, ?_⟩, X₈.lessM ?_⟩))
          · intro o h; cases h; exact ⟨by show t.start ≤ a'; omega, by show a' ≤ a' + 1; omega⟩
          · have := hI.len
            simp only [List.length_cons] at this
            show t.res.length + ds.length ≤ 200
            omega
          · have := hI.val
            rw [ho'] at this
            unfold stripF at this
            rw [if_pos hc] at this
            exact this
          · intro y d hy
            unfold SS.m at hy
            split at hy
            · rename_i e; subst e; cases hy; rfl
            · split at hy
              · rename_i e; subst e; cases hy; rfl
              · split at hy
                · rename_i e; subst e; cases hy; rfl
                · cases hy
        · intro ho h₇ tk₇ X₇
          obtain ⟨o, ho'⟩ : ∃ o, t.op = some o := by
            cases h : t.op with
            | none => rw [h] at ho; cases ho
            | some o => exact ⟨o, rfl⟩
          obtain ⟨hso, hol⟩ := hI.op o ho'
          have hop1 : (upd (upd (t.m x) "pos" (.int a')) "ch" (.str c)) "open_pos" = some (.int o) := by show some (opD t.op) = _; rw [ho']; rfl
          refine st_if fd X₇ (b := (t.start : Int) != (o : Int)) (EvT.cmp (Ev.name rfl) (Ev.name hop1) fun A Z s v₁ v₂ _ r₁ r₂ => opNe r₁ r₂) ?_ ?_
          · intro hne h₈ tk₈ X₈
            refine st_append fd X₈ (d := .str (cut x t.start o)) (Ev.cutStr (Ev.name rfl) (Ev.name rfl) (Ev.name hop1) hso (by omega) (by omega)) (by have := hI.len; simp only [strsD, List.length_map]; omega) ?_
            intro h₉ tk₉ X₉
            refine wpAny_execs_nil ?_
            have e9 : strsD t.res ++ [D.str (cut x t.start o)] = strsD (t.res ++ [cut x t.start o]) := by simp [strsD]
            rw [e9] at X₉
            refine st_assign fd X₉ (d := .int ((a' : Int) + 1)) (Ev.add (Ev.name rfl) Ev.int) (.inl rfl) (by intro p hp; simp only [List.mem_singleton] at hp; subst hp; show ("result" : PySem.Str) ≠ "start"; decide) ?_ rfl
            intro h₁₀ tk₁₀ X₁₀
            refine st_assign fd X₁₀ (d := .none) Ev.cnone (.inl rfl) (by intro p hp; simp only [List.mem_singleton] at hp; subst hp; show ("result" : PySem.Str) ≠ "open_pos"; decide) ?_ rfl
            intro h₁₁ tk₁₁ X₁₁
            refine wpAny_execs_nil (wpAny_execs_nil (wpAny_execs_nil ⟨rfl, ⟨_, _, rfl⟩, ⟨a' + 1, none, t.res ++ [cut x t.start o], a' + 1⟩, ⟨hinc, Nat.le_refl _, fun o h => (by cases h), by show a' + 1 ≤ _; omega, ?_, ?_, ?_⟩, X₁₁.lessM ?_⟩))
            · have := hI.len
              simp only [List.length_cons] at this
              show (t.res ++ [cut x t.start o]).length + ds.length ≤ 200
              rw [List.length_append, List.length_singleton]
              omega
            · intro r hr
              rcases List.mem_append.mp hr with hr | hr
              · exact hI.each r hr
              · rw [List.mem_singleton.mp hr]; have := cut_len x t.start o; omega
            · have := hI.val
              rw [ho'] at this
              unfold stripF at this
              rw [if_pos hc] at this
              simp only [hne, if_true] at this
              exact this
            · intro y d hy
              unfold SS.m at hy
              split at hy
              · rename_i e; subst e; cases hy; rfl
              · split at hy
                · rename_i e; subst e; cases hy; rfl
                · split at hy
                  · rename_i e; subst e; cases hy; rfl
                  · cases hy
          · intro hne h₈ tk₈ X₈
            refine wpAny_execs_nil ?_
            refine st_assign fd X₈ (d := .int ((a' : Int) + 1)) (Ev.add (Ev.name rfl) Ev.int) (.inl rfl) (by intro p hp; simp only [List.mem_singleton] at hp; subst hp; show ("result" : PySem.Str) ≠ "start"; decide) ?_ rfl
            intro h₁₀ tk₁₀ X₁₀
            refine st_assign fd X₁₀ (d := .none) Ev.cnone (.inl rfl) (by intro p hp; simp only [List.mem_singleton] at hp; subst hp; show ("result" : PySem.Str) ≠ "open_pos"; decide) ?_ rfl
            intro h₁₁ tk₁₁ X₁₁
            refine wpAny_execs_nil (wpAny_execs_nil (wpAny_execs_nil ⟨rfl, ⟨_, _, rfl⟩, ⟨a' + 1, none, t.res, a' + 1⟩, ⟨hinc, Nat.le_refl _, fun o h => (by cases h), by show a' + 1 ≤ _; omega, ?_, hI.each, ?_⟩, X₁₁.lessM ?_⟩))
            · have := hI.len
              simp only [List.length_cons] at this
              show t.res.length + ds.length ≤ 200
              omega
            · have := hI.val
              rw [ho'] at this
              unfold stripF at this
              rw [if_pos hc] at this
              simp only [hne, Bool.false_eq_true, if_false] at this
              exact this
            · intro y d hy
              unfold SS.m at hy
              split at hy
              · rename_i e; subst e; cases hy; rfl
              · split at hy
                · rename_i e; subst e; cases hy; rfl
                · split at hy
                  · rename_i e; subst e; cases hy; rfl
                  · cases hy
      · intro hc h₆ tk₆ X₆
        refine wpAny_execs_nil (wpAny_execs_nil ⟨rfl, ⟨_, _, rfl⟩, ⟨t.start, t.op, t.res, a' + 1⟩, ⟨hinc, by show t.start ≤ a' + 1; omega, ?_, by show a' + 1 ≤ _; omega, ?_, hI.each, ?_⟩, X₆.lessM ?_⟩)
        · intro o h
          have := hI.op o h
          exact ⟨this.1, by show o ≤ a' + 1; omega⟩
        · have := hI.len
          simp only [List.length_cons] at this
          show t.res.length + ds.length ≤ 200
          omega
        · have := hI.val
          unfold stripF at this
          rw [if_neg (by rw [hc]; decide)] at this
          exact this
        · intro y d hy
          unfold SS.m at hy
          split at hy
          · rename_i e; subst e; cases hy; rfl
          · split at hy
            · rename_i e; subst e; cases hy; rfl
            · split at hy
              · rename_i e; subst e; cases hy; rfl
              · cases hy
    · rintro t s' hI X' ⟨h', tk', gs, rfl, hbare⟩
      have hval : fin = (t.start, t.res) := by have := hI.val; rw [← this]; rfl
      have hlen' := hI.len
      simp only [List.length_nil, Nat.add_zero] at hlen'
      have hst := hI.st
      have hlo' := hI.lo
      -- the end
      have done : ∀ (res' : List PySem.Str) (s₂ : Shared) (E₂ : Value → Shared → Prop) (rest : List Stmt), rest = (bodyOf (stAt 2)).drop 6 → stripS x = Txt.join "" res' → res'.length ≤ 201 → (∀ r ∈ res', r.length ≤ 200) → (∃ h tk, s₂ = { s with heap := h, toks := tk, gens := gs }) →
          FEnv U (scopeOf (stAt 2)) (t.m x) [⟨"result", ra, strsD res'⟩] (fun b => (Z b ∨ ownF env [] b) ∨ b = ra) s.heap env s₂.heap → wpAny (model U.prog U.w) (A.deeper env) (execs rest env) (fun fl s' => ∃ v, fl = .ret v ∧ Q v s') E₂ s₂ := by
        rintro res' s₂ E₂ rest rfl hres hl he ⟨h₂, tk₂, rfl⟩ X₂
        refine st_returnA fd X₂ (by intro p hp; simp only [List.mem_singleton] at hp; subst hp; show (("result" : PySem.Str) == "__debug__") = false; decide) (d := .str (stripS x)) ?_ fun v h'' tk'' hk X'' r => ⟨v, rfl, ?_⟩
        · rw [hres]
          have hsum := sum_len he
          exact Ev.join (sep := "") (Ev.name rfl) (by decide) (by omega) rfl
        · exact hQ v h'' tk'' gs X''.old (r.atom rfl) hbare
      have hS : stripS x = Txt.join "" (if ((t.start : Int) < (x.length : Int)) then t.res ++ [cut x t.start x.length] else t.res) := by
        unfold stripS
        rw [if_pos hb', hfin, hval]
      refine st_if fd X' (b := decide ((t.start : Int) < (x.length : Int))) (EvT.cmp (Ev.name rfl) (Ev.lenStr (Ev.name rfl) (by omega) rfl) fun A Z s v₁ v₂ _ r₁ r₂ => opLt r₁ r₂) ?_ ?_
      · intro hlt h₆ tk₆ X₆
        have hlt' : (t.start : Int) < (x.length : Int) := by simpa using hlt
        refine st_append fd X₆ (d := .str (cut x t.start x.length)) (Ev.cutFrom (Ev.name rfl) (Ev.name rfl) (by omega) (by omega)) (by simp only [strsD, List.length_map]; omega) ?_
        intro h₇ tk₇ X₇
        refine wpAny_execs_nil ?_
        have e9 : strsD t.res ++ [D.str (cut x t.start x.length)] = strsD (t.res ++ [cut x t.start x.length]) := by simp [strsD]
        rw [e9] at X₇
        refine done _ _ _ _ rfl (by rw [hS, if_pos hlt']) (by rw [List.length_append, List.length_singleton]; omega) ?_ ⟨_, _, rfl⟩ X₇
        intro r hr
        rcases List.mem_append.mp hr with hr | hr
        · exact hI.each r hr
        · rw [List.mem_singleton.mp hr]; have := cut_len x t.start x.length; omega
      · intro hlt h₆ tk₆ X₆
        have hlt' : ¬ (t.start : Int) < (x.length : Int) := by simpa using hlt
        refine wpAny_execs_nil ?_
        exact done _ _ _ _ rfl (by rw [hS, if_neg hlt']) (by omega) hI.each ⟨_, _, rfl⟩ X₆
end
end Mine

namespace Mine
section
variable {U : Uni} {A : Around} {Z : Addr → Prop} {s : Shared}
theorem iters_bytes {v : Value} {b : Array UInt8} (zok : ∀ b, Z b → ∃ o, s.heap.get? b = some o) (hh : A.handled = none) (r : Rep Z s.heap v (.bytes b)) : Iters U A (pyIter v) Z (intsD (KBw.bInts b)) s := fun K E hK => by
  obtain ⟨t, rfl⟩ := r.bytes_inv
  have hl : (intsD (KBw.bInts b)).length = b.size := by rw [intsD, List.length_map, KBw.ints_length]
  refine KBw.pyIter_bytes ?_
  refine hK s.heap.objs.size [s.heap.objs.size] [s.heap.objs.size] _ _ _ s.toks (Kept.push _ _) (fun A' hh' => hl ▸ KBw.walks hh' s.heap.objs.size b t) ⟨_, Heap.get?_push_size _ rfl, rfl, rfl⟩ ?_ ?_ ?_ ?_ ?_ ?_
  · intro b' hb
    rw [Heap.size_push, List.mem_singleton.mp hb]
    exact Nat.lt_succ_self _
  · intro b' hb; rw [List.mem_singleton.mp hb]; exact fresh_not zok
  · intro b hb; rw [List.mem_singleton.mp hb]; exact none_size _
  · intro i h₁ hst b hb; rw [List.mem_singleton.mp hb]; obtain ⟨o, ho', _⟩ := hst; exact ⟨o, ho'⟩
  · rintro i d v hd ⟨c, u, hc, rfl⟩
    have := KBw.ints_get hc
    rw [intsD, List.getElem?_map, this] at hd
    cases hd
    exact .int _ _
  · rintro i h₁ v A' tgt tk' s₁ Q' E' ⟨o, ho', hc, _⟩ rfl hq
    exact letOwned_cls ho' hc (by decide) hq
end
section
variable {U : Uni} {k : Nat} {σ : Scope} {m : PySem.Str → Option D}
theorem EvIter.bytes {e : Expr} {b : Array UInt8} (h : Ev U k σ m e (.bytes b)) : EvIter U k σ m e (intsD (KBw.bInts b)) := fun A env Z s f X K E hK =>
  h A env Z s f X _ E fun v h' tk hk r => hK v h' tk hk fun A' hh' => iters_bytes (zok_kept X.zok hk) hh' r

theorem Ev.index {x : PySem.Str} {p1 apos cpos : Pos} {e : Expr} {xs : List PySem.Str} {c : PySem.Str} {j : Nat} (hx : m x = some (.lst (strsD xs))) (he : Ev U k σ m e (.str c)) (hj : xs[j]? = some c) (hlen : xs.length ≤ 1000) (hfirst : ∀ i < j, xs[i]? ≠ some c)
    (hline : (apos.endLine == cpos.line) = true := by rfl) (hst : ∀ env, starEach [e] env = [(false, eval e env)] := by intro _; rfl) : Ev U k σ m (.Call (.Attribute (.Name x p1) "index" apos) [e] [] cpos) (.int (j : Int)) := fun A env Z s f X Q E hQ => by
  obtain ⟨hd, v, hv, hr⟩ := X.vars x _ hx
  obtain ⟨a, vs, n, rfl, hz, ho, ra⟩ := hr.lst_inv
  have hkind : env.scope.kind = .function := by rw [X.scope]; exact X.kind
  refine wpAny_Call_method (T := "list") (id := "list.index") rfl (by rw [hst env]; rfl) hline F.plainAttrs_list PySem.F.slot_list_index PySem.F.type_list_index ?_
  refine wpAny_Name (held_load hkind hv ⟨⟨_, ho, rfl⟩, fun b hb => by cases hb; exact ⟨_, ho, rfl⟩, ?_⟩) hd
  rw [hst env]
  show wpAny _ A (callWith cpos (.builtin "list.index") [.ref a] [(false, eval e env)] []) _ _ _
  refine Calls.callWith_builtin rfl (Calls.evalArgs_plain (Calls.spliced_cons (he A env Z s f X _ _ fun v h₁ tk hk r => Calls.spliced_nil ?_)))
  obtain ⟨t, rfl⟩ := r.str_inv
  have sa := RepAll.strsAre ra
  have hjl : j < xs.length := (List.getElem?_eq_some_iff.mp hj).1
  have hvl : vs.length = xs.length := by have := ra.1; simpa [strsD] using this
  have hat : ∀ i (hi : i < vs.length), isS c vs[i] = (xs[i]'(by omega) == c) := fun i hi => by
    have := ra.2 i vs[i] (.str (xs[i]'(by omega))) (List.getElem?_eq_getElem hi) (by rw [strsD, List.getElem?_map, List.getElem?_eq_getElem (by omega)]; rfl)
    obtain ⟨t', e'⟩ := this.str_inv
    rw [e']; rfl
  refine call_meets PySem.F.slot_list_index ⟨_, hk _ _ ho, rfl⟩ PySem.F.entry_list_index (PySem.F.args_list_index_2 _ _)
    (SeqAt.list_indexAt a vs.toArray n none #[] (.str c t) (isS c) j (by rw [List.size_toArray]; omega) (by omega) ?_ ?_) ⟨hk _ _ ho, fun y hy => ?_, hQ _ h₁ _ hk (.int _ _)⟩
  · rw [List.getElem_toArray, hat j (by omega)]
    have := (List.getElem?_eq_some_iff.mp hj).2
    rw [this]; exact beq_self_eq_true c
  · intro i hi hlt
    rw [List.getElem_toArray, hat i (by rw [List.size_toArray] at hi; exact hi)]
    have := hfirst i hlt
    rw [List.getElem?_eq_getElem (by omega)] at this
    exact beq_eq_false_iff_ne.mpr fun e => this (by rw [e])
  · obtain ⟨y', t', rfl, _⟩ := strsAre_mem sa y (by simpa using hy)
    exact (eqGives_str y' c t' t).at _ _
end

section
variable {U : Uni} {A : Around} {Z : Addr → Prop} {s : Shared} {v₁ v₂ : Value}
theorem eqPair {q : Int × PySem.Str} (f : Fit 3 A) (r₁ : Rep Z s.heap v₁ (pairD q)) (r₂ : Rep Z s.heap v₂ (pairD q)) : SeqAt.EqAt A s v₁ v₂ true := by
  obtain ⟨a, vs, n, rfl, hz, ho, ra⟩ := r₁.tup_inv
  obtain ⟨b, us, n', rfl, hz', ho', rb⟩ := r₂.tup_inv
  obtain ⟨x₁, x₂, rfl, i₁, i₂⟩ := ra.two
  obtain ⟨y₁, y₂, rfl, j₁, j₂⟩ := rb.two
  obtain ⟨t₁, rfl⟩ := i₁.int_inv; obtain ⟨t₂, rfl⟩ := i₂.str_inv
  obtain ⟨u₁, rfl⟩ := j₁.int_inv; obtain ⟨u₂, rfl⟩ := j₂.str_inv
  by_cases hab : a = b
  · subst hab; exact SeqAt.EqAt.same _
  · refine SeqAt.EqAt.of_refs hab ?_
    have := SeqAt.RcAt.tuples (A := A) (s := s) (e := fun _ => true) (items := [Value.int q.1 t₁, .str q.2 t₂].toArray) (items2 := [Value.int q.1 u₁, .str q.2 u₂].toArray) ⟨_, ho, rfl, n, rfl⟩ ⟨_, ho', rfl, n', rfl⟩ f.units (fun j h1 h2 => by
      match j, h1, h2 with
      | 0, _, _ => have := SeqAt.EqAt.int_int (A := A.in1) (s := s) q.1 t₁ q.1 u₁; rw [beq_self_eq_true] at this; exact this
      | 1, _, _ => have := SeqAt.EqAt.str_str (A := A.in1) (s := s) q.2 t₂ q.2 u₂; rw [beq_self_eq_true] at this; exact this
      | j + 2, h1, _ => simp at h1; omega)
    exact this
theorem all_true (n : Nat) : ((List.range n).all fun _ => true) = true := by simp
theorem opNePairs {qs : List (Int × PySem.Str)} (f : Fit 5 A) (r₁ : Rep Z s.heap v₁ (.lst (qs.map pairD))) (r₂ : Rep Z s.heap v₂ (.lst (qs.map pairD))) : Yields U A (compareOp .NotEq v₁ v₂) Z (.bool false) s := fun Q E hQ => by
  obtain ⟨a, vs, n, rfl, hz, ho, ra⟩ := r₁.lst_inv
  obtain ⟨b, us, n', rfl, hz', ho', rb⟩ := r₂.lst_inv
  have hl : vs.length = us.length := ra.1.trans rb.1.symm
  have := SeqAt.RcNeAt.lists (A := A) (s := s) (e := fun _ => true) (items := vs.toArray) (items2 := us.toArray) ⟨_, ho, rfl, n, rfl⟩ ⟨_, ho', rfl, n', rfl⟩ (by simpa using hl) f.units (fun j h1 h2 => by
    have h1' : j < vs.length := by simpa using h1
    have h2' : j < us.length := by simpa using h2
    have hq : j < qs.length := by have := ra.1; rw [List.length_map] at this; omega
    have e : (qs.map pairD)[j]? = some (pairD qs[j]) := by rw [List.getElem?_map, List.getElem?_eq_getElem hq]; rfl
    rw [List.getElem_toArray, List.getElem_toArray]
    exact eqPair (f.le (show 4 ≤ 5 by omega)).in1 (ra.2 j _ _ (List.getElem?_eq_getElem h1') e) (rb.2 j _ _ (List.getElem?_eq_getElem h2') e))
  rw [all_true] at this
  exact this U.prog U.w E Q (hQ _ s.heap s.toks (Kept.refl _) (.bool _))
theorem opEqBytes {bs : List (Array UInt8)} (f : Fit 5 A) (r₁ : Rep Z s.heap v₁ (.lst (bs.map .bytes))) (r₂ : Rep Z s.heap v₂ (.lst (bs.map .bytes))) : Yields U A (compareOp .Eq v₁ v₂) Z (.bool true) s := fun Q E hQ => by
  obtain ⟨a, vs, n, rfl, hz, ho, ra⟩ := r₁.lst_inv
  obtain ⟨b, us, n', rfl, hz', ho', rb⟩ := r₂.lst_inv
  have hl : vs.length = us.length := ra.1.trans rb.1.symm
  refine SeqAt.eq_listAt (e := fun _ => true) (items := vs.toArray) (items2 := us.toArray) ⟨_, ho, rfl, n, rfl⟩ ⟨_, ho', rfl, n', rfl⟩ (by simpa using hl) f.units (fun j h1 h2 => ?_) ?_
  · have h1' : j < vs.length := by simpa using h1
    have h2' : j < us.length := by simpa using h2
    have hq : j < bs.length := by have := ra.1; rw [List.length_map] at this; omega
    have e : (bs.map D.bytes)[j]? = some (D.bytes bs[j]) := by rw [List.getElem?_map, List.getElem?_eq_getElem hq]; rfl
    rw [List.getElem_toArray, List.getElem_toArray]
    obtain ⟨t, e1⟩ := (ra.2 j _ _ (List.getElem?_eq_getElem h1') e).bytes_inv
    obtain ⟨u, e2⟩ := (rb.2 j _ _ (List.getElem?_eq_getElem h2') e).bytes_inv
    rw [e1, e2]
    intro prog w E Q hq
    exact eqBool_bytes (by rw [decide_eq_true rfl]; exact hq)
  · rw [all_true]; exact hQ _ s.heap s.toks (Kept.refl _) (.bool _)
end

/-- the second of a pair -/
def bindSnd (y : PySem.Str) : D → PySem.Str → Option D
  | .tup [_, b] => bind1 y b
  | _ => fun _ => none
theorem tgt_pair {U : Uni} {k : Nat} {scope : Scope} {x y : PySem.Str} {px py tp : Pos} {kk : Nat} (hx : scope.names.lookup x = some .local) (hy : scope.names.lookup y = some .local) (hdx : (x == ("__debug__" : PySem.Str)) = false := by decide) (hdy : (y == ("__debug__" : PySem.Str)) = false := by decide) :
    TgtOk U k scope (.Tuple [.Name x px, .Name y py] kk tp) (bindSnd y) (fun d => ∃ q, d = pairD q) := fun A cenv s v d Z f X hz hd r Q E hQ => by
  obtain ⟨q, rfl⟩ := hd
  obtain ⟨a, vs, n, rfl, hza, ho, ra⟩ := r.tup_inv
  obtain ⟨v₁, v₂, rfl, r₁, r₂⟩ := ra.two
  refine wpAny_assign_Tuple f.hh (items := [v₁, v₂].toArray) ⟨_, ho, rfl, n, rfl⟩ rfl rfl fun h' he => ?_
  have hk : Kept s.heap h' := fun b o e => he b o (Nat.ne_of_lt (Heap.lt_size e)) e
  show wpAny _ A (assignInOrder [assign (.Name x px) cenv, assign (.Name y py) cenv] [v₁, v₂]) _ _ _
  refine wpAny_assignInOrder_more (tgt_local hx hdx A cenv { s with heap := h' } v₁ (.int q.1) Z f (X.kept fun b o _ e => hk b o e) hz trivial (r₁.kept hk) _ _ fun h₂ tk₂ X₂ hk₂ _ => ?_)
  refine wpAny_assignInOrder_more (tgt_local hy hdy A cenv { s with heap := h₂, toks := tk₂ } v₂ (.str q.2) Z f X₂ hz trivial (r₂.atom rfl) _ _ fun h₃ tk₃ X₃ hk₃ hb => ?_)
  exact wpAny_assignInOrder_none (hQ h₃ tk₃ X₃ (fun b o hb e => hk₃ b o hb (hk₂ b o hb (hk b o e))) hb)

section
variable {U : Uni} {k : Nat} {σ : Scope} {m : PySem.Str → Option D} {mu : List Mut} {A : Around} {Z : Addr → Prop} {h₀ : Heap} {env : Env} {s : Shared} {Q : Flow → Shared → Prop} {E : Value → Shared → Prop}
/-- x = [..]: the name is bound ahead of the comprehension's end -/
theorem st_compUse {x : PySem.Str} {px spos : Pos} {rest : List Stmt} {elt target iter : Expr} {ifs : List Expr} {scope : Scope} {pos : Pos} {items : List D} {keep : D → Bool} {out : D → D} {bindD : D → PySem.Str → Option D} {ok : D → Prop}
    (f : Fit k A) (X : FEnv U σ m mu Z h₀ env s.heap) (hsw : swapsWith (.ListComp elt [⟨target, iter, ifs, 0⟩] scope pos) (some (.Name x px)) spos.line env = pure true)
    (hit : EvIter U k σ m iter items) (hsz : items.length ≤ sizeLine) (hsc : scopeOk scope σ = true) (hm : ∀ y, (y, NameKind.free) ∈ scope.names → ∃ d, m y = some d)
    (htgt : TgtOk U k scope target bindD ok) (hok : ∀ d ∈ items, ok d)
    (htest : ∀ d ∈ items, EvIfs U k (relabelS scope σ) (inn m scope (bindD d)) ifs (keep d)) (helt : ∀ d ∈ items, keep d = true → Ev U k (relabelS scope σ) (inn m scope (bindD d)) elt (out d))
    (hx : σ.names.lookup x = some .local ∨ σ.names.lookup x = some .cell) (hne : ∀ p ∈ mu, p.name ≠ x)
    (h : ∀ h' tk, FEnv U σ (upd m x (.lst ((items.filter keep).map out))) mu Z h₀ env h' → wpAny (model U.prog U.w) A (execs rest env) Q E { s with heap := h', toks := tk })
    (hs : ∀ env x, foldedSetIterable iter env x = pure x := by intro _ _; rfl) (hd : (x == ("__debug__" : PySem.Str)) = false := by decide) (hone : ifs.length ≤ 1 := by exact Nat.le_of_ble_eq_true rfl) :
    wpAny (model U.prog U.w) A (execs (.Assign [.Name x px] (.ListComp elt [⟨target, iter, ifs, 0⟩] scope pos) spos :: rest) env) Q E s := by
  refine wpAny_execs_cons ?_
  rw [exec_Assign_Name_used _ _ _ _ hsw]
  refine wpAny_bind (wpAny_standAt (wpAny_bind ?_))
  show wpAny _ A (do let _ ← comprehension (.ListComp elt [⟨target, iter, ifs, 0⟩] scope pos) scope env _ (newList []) false (eval iter env) (some (assign (.Name x px) env))) _ _ s
  obtain ⟨cl, hclos, hcl⟩ := closure_ok (free_cells X.toAt hsc hm)
  refine wpAny_bind (wpAny_mono (wpAny_comprehension_free (use := some (assign (.Name x px) env)) (Q := fun _ s' => wpAny (model U.prog U.w) A (execs rest env) Q E s') rfl (hs env) hclos (scopeOk_kind hsc) (scopeOk_local hsc) ?_)
    (fun _ s' hq => wpAny_pure (wpAny_pure hq)) fun _ _ e => e)
  refine hit A env Z s f X.toAt _ _ fun v h₁ tk₁ hk₁ its => ?_
  refine its A f.hh _ _ fun I fp wr P St h₂ tk₂ hk₂ W hst hfp hfz hwr hex hP hlet => ?_
  refine comp_core (h₀ := h₁) (RR := fun acc C => compPost (model U.prog U.w) A _ (some (assign (.Name x px) env)) (fun _ s' => wpAny (model U.prog U.w) A (execs rest env) Q E s') acc C) hone f (X.toAt.kept hk₁) hk₂ (W A f.hh) hst hfp hwr hex hP (fun i h' v A' tgt tk' s₁ Q' E' a1 a2 a3 => hlet i h' v A' tgt tk' s₁ Q' E' a1 a2 a3) hsz hsc hcl htgt hok htest helt ?_
  intro Dd C h' tk m' hD hC hDC hn r hk
  have X₁ := X.kept hk₁
  have hCn : ∀ b, Z b → b ≠ C := fun b hb e => by obtain ⟨o, q⟩ := X₁.toAt.zok b hb; rw [e, hC] at q; exact nomatch q
  have X₂ : FEnv U σ m mu (fun b => Z b ∨ b = C) h₀ env h' := X₁.move hk (fun b hb => .inl hb) (fun b hb => hb.elim (zok_kept X₁.toAt.zok hk b) fun e => by rw [e]; obtain ⟨o, _, _, q, _⟩ := hn; exact ⟨o, q⟩)
    fun r => r.mono fun b o hb e => ⟨fun hb' => hb'.elim hb fun e' => (by rw [e', hC] at e; exact nomatch e), hk b o e⟩
  show wpAny _ A (assign (.Name x px) env (.ref Dd)) _ _ _
  refine wpAny_assign_Name (FEnv.storeD (s := { s with heap := h', toks := tk }) X₂.rebase hx r (fun h₃ tk₃ X₃ => ?_) hd)
  rw [mu_same hne] at X₃
  have hCo : ¬ ownF env mu C := fun ho => by
    have hz := X₁.ownZ ho
    exact hCn C hz rfl
  refine ⟨m', hn.at' fun o e => X₃.old _ o (by rw [hide_no hCo]; exact e), fun h₄ hs₄ => h h₄ tk₃ ?_⟩
  have X₄ := X₃.back X₂.hidden X₂.gl0
  refine X₄.shift (wr := [C]) (fun b o hb e => hs₄.extBut b o (fun e' => hb (by simp [e'])) e) (fun b hb => .inr (List.mem_singleton.mp hb)) (fun b hb => ?_) (fun b ho hb => ?_) (fun b hb => .inl hb) (fun b hb => ?_) fun b ho => X₁.ownZ ho
  · rw [List.mem_singleton.mp hb]
    cases e : h₀.get? C with
    | none => rfl
    | some o => have := X₁.old C o e; rw [hC] at this; exact nomatch this
  · rw [List.mem_singleton.mp hb] at ho; exact hCo ho
  · obtain ⟨o, e⟩ := X₄.toAt.zok b (.inl hb)
    exact ⟨o, hs₄.extBut b o (hCn b hb) e⟩

/-- x = e, where generators may run -/
theorem st_assignG {x : PySem.Str} {px pos : Pos} {e : Expr} {rest : List Stmt} {d : D} (f : Fit k A) (X : FEnv U σ m mu Z h₀ env s.heap) (he : EvG U k σ m e d) (hx : σ.names.lookup x = some .local ∨ σ.names.lookup x = some .cell) (hne : ∀ p ∈ mu, p.name ≠ x)
    (h : ∀ h' tk gs, FEnv U σ (upd m x d) mu Z h₀ env h' → (AllBare s.gens → AllBare gs) → wpAny (model U.prog U.w) A (execs rest env) Q E { s with heap := h', toks := tk, gens := gs })
    (hsw : swapsWith e (some (.Name x px)) pos.line env = pure false := by rfl) (hd : (x == ("__debug__" : PySem.Str)) = false := by decide) :
    wpAny (model U.prog U.w) A (execs (.Assign [.Name x px] e pos :: rest) env) Q E s :=
  wpAny_execs_cons (wpAny_Assign_Name (he A env Z s f X.toAt _ _ fun v h' tk gs hk r hg => FEnv.storeD (s := { s with heap := h', toks := tk, gens := gs }) (X.kept hk) hx r (fun h'' tk' X' => h h'' tk' gs (by rw [mu_same hne] at X'; exact X') hg) hd) hsw)
theorem EvG.callF {x : PySem.Str} {a : Addr} {fd : FuncData} {np pos : Pos} {e : Expr} {es : List Expr} {ds : List D} {d : D} (h : EvAll U k σ m (e :: es) ds) (hx : σ.names.lookup x = some .globalImplicit) (F : FnAt U x a fd)
    (hc : ∀ (A : Around) (Z : Addr → Prop) (s : Shared) (vs : List Value), Fit k A → (∀ b, Z b → ∃ o, s.heap.get? b = some o) → Gl U s.heap → RepAll Z s.heap vs ds → YieldsG U A (call (.ref a) vs) Z d s)
    (hd : (x == ("__debug__" : PySem.Str)) = false := by decide) :
    EvG U k σ m (.Call (.Name x np) (e :: es) [] pos) d := fun A env Z s f X Q E hQ => by
  obtain ⟨o, ho, hdat⟩ := F.obj
  refine wpAny_Call_ofName (glob_load X hx F.name ?_ hd)
  refine Calls.callWith_function (o := o) (fd := fd) ?_
  exact evalArgs_of h A env Z s _ E f X fun vs h' tk hk rs => ⟨⟨(X.gl.kept hk).keep _ _ ho, hdat⟩, hc A Z _ vs f (zok_kept X.zok hk) (X.gl.kept hk) rs _ E fun v h'' tk' gs hk' r hg => hQ v h'' tk' gs (hk.trans hk') r hg⟩
end
end Mine

namespace Mine

def menuL : List (List PySem.Str) := [[], ["\\\""], ["\\\\"], ["\"", "\""], ["\\("], ["\\\\", "\\\""], ["'", ")"], []]
def tailsF (dress : Int) : List (List PySem.Str) := (upto 0 16).map fun p => menuL.getD (dress / 8 ^ p.toNat % 8).toNat []
def endsF (odd : Bool) : List PySem.Str := if odd = true then [bsl] else []
def pieceF (bits : List Int) (tails : List (List PySem.Str)) (p : Int) : PySem.Str := ((if (bits.getD p.toNat 0 == 1) = true then quoteS else "") ++ chrS p) ++ Txt.join "" (tails.getD p.toNat [])
def lineF (bits : List Int) (tails : List (List PySem.Str)) (ends : List PySem.Str) : PySem.Str := Txt.join "" ((upto 0 16).map (pieceF bits tails) ++ ends)
def spotsF : Int → List PySem.Str → List (Int × PySem.Str)
  | _, [] => []
  | r, u :: us => (r + u.length, u) :: spotsF (r + u.length) us
def reachF : Int → List PySem.Str → Int
  | r, [] => r
  | r, u :: us => reachF (r + u.length) us
def cutShown (due : List PySem.Str) : List PySem.Str := due.takeWhile (· != quoteS)
def carriedF (shown : List PySem.Str) (ps : List Int) : Int := ps.foldl (fun c p => c * 2 + (if (shown.any (· == chrS p)) = true then 0 else 1)) 0
def numOf (row : List Int) : Int := row.foldl (fun c b => c * 2 + b) 0
def rowAt (number : Int) (i : Nat) : List Int := (rowsF number).getD i []
def wlet (w : Array UInt8) : List Int := List.replicate (4 - w.size) 0 ++ (KBw.bInts w).map (· - 65)
def bitsOf (letters : List Int) : List Int := (upto 0 16).map fun p => letters.getD (p / 4).toNat 0 / 2 ^ (3 - p % 4).toNat % 2

/-- what the plain law has to give -/
structure Facts (number : Int) (tails : List (List PySem.Str)) (ends : List PySem.Str) : Prop where
  h0 : 0 ≤ number
  h1 : number < 65536
  tl : tails.length = 16
  t2 : ∀ t ∈ tails, t.length ≤ 2
  el : ends.length ≤ 1
  len : ∀ i, i < 5 → (rowAt number i).length = 16
  bit : ∀ i, i < 5 → ∀ n ∈ rowAt number i, 0 ≤ n ∧ n < 2
  first : (apF number.natAbs).toArray = wordF (rowAt number 0)
  wsz : ∀ i, i < 5 → (wordF (rowAt number i)).size ≤ 4
  wlet : ∀ i, i < 5 → wlet (wordF (rowAt number i)) = lettersF (rowAt number i)
  bits : ∀ i, i < 5 → bitsOf (lettersF (rowAt number i)) = rowAt number i
  plen : ∀ i, i < 5 → ∀ p ∈ upto 0 16, (pieceF (rowAt number i) tails p).length ≤ 8
  pj : ∀ p ∈ upto 0 16, ((tails.getD p.toNat []).map (·.length)).sum ≤ 8
  es : ∀ e ∈ ends, e.length ≤ 1
  line : ∀ i, i < 5 → (lineF (rowAt number i) tails ends).length ≤ 198
  strip : ∀ i, i < 4 → stripS (lineF (rowAt number i) tails ends) = Txt.join "" (leftF (rowAt number (i + 1)) tails ends)
  dlen : ∀ i, i < 4 → (leftF (rowAt number (i + 1)) tails ends).length ≤ 200 ∧ ∀ u ∈ leftF (rowAt number (i + 1)) tails ends, u.length ≤ 2
  esc : ∀ i, i < 4 → escU 0 false (Txt.join "" (leftF (rowAt number (i + 1)) tails ends)).cps.toList = spotsF (-1) (leftF (rowAt number (i + 1)) tails ends)
  carried : ∀ i, i < 4 → carriedF (cutShown (leftF (rowAt number (i + 1)) tails ends)) (upto 0 16) = numOf (rowAt number (i + 1))
  word : ∀ i, i < 5 → 0 ≤ numOf (rowAt number i) ∧ numOf (rowAt number i) < 65536 ∧ (apF (numOf (rowAt number i)).natAbs).toArray = wordF (rowAt number i)
end Mine

namespace Mine

section
variable {U : Uni} {k : Nat} {σ : Scope} {m : PySem.Str → Option D} {mu : List Mut} {A : Around} {Z : Addr → Prop} {h₀ : Heap} {env : Env} {s : Shared} {Q : Flow → Shared → Prop} {E : Value → Shared → Prop}
/-- x = a new list of ints, read off lists of bytes that still change -/
theorem st_assignL {x : PySem.Str} {px pos : Pos} {e : Expr} {rest : List Stmt} {ns : List Int} (f : Fit k A) (X : FEnv U σ m mu Z h₀ env s.heap) (hdb : ∀ p ∈ mu, (p.name == ("__debug__" : PySem.Str)) = false) (he : Ev U k σ (frz m mu) e (.lst (intsD ns))) (hns : 0 < ns.length) (hmu : ∀ p ∈ mu, ∃ b ds, p.data = .bytes b :: ds)
    (hx : σ.names.lookup x = some .local ∨ σ.names.lookup x = some .cell) (hne : ∀ p ∈ mu, p.name ≠ x)
    (h : ∀ h' tk, FEnv U σ (upd m x (.lst (intsD ns))) mu Z h₀ env h' → wpAny (model U.prog U.w) A (execs rest env) Q E { s with heap := h', toks := tk })
    (hsw : swapsWith e (some (.Name x px)) pos.line env = pure false := by rfl) (hd : (x == ("__debug__" : PySem.Str)) = false := by decide) :
    wpAny (model U.prog U.w) A (execs (.Assign [.Name x px] e pos :: rest) env) Q E s :=
  wpAny_execs_cons (wpAny_Assign_Name (he A env _ s f (X.frozen hdb) _ _ fun v h' tk hk r => FEnv.storeD (s := { s with heap := h', toks := tk }) (X.kept hk) hx (by
    obtain ⟨a, vs, n, rfl, hz, ho, ra⟩ := r.lst_inv
    have hlen : vs.length = ns.length := by have := ra.1; simpa [intsD] using this
    refine .lst (fun hza => hz ⟨hza, fun p hp e => ?_⟩) ho ra.1 fun i v d hv hd => ?_
    · obtain ⟨_, _, _, us, n', ho', rb⟩ := (X.kept hk).muts p hp
      obtain ⟨b, ds, hb⟩ := hmu p hp
      rw [e, ho] at ho'
      have e2 : vs = us := by
        have := Option.some.inj ho'
        injection this with _ _ h3
        injection h3 with h4
        exact (List.toArray_inj h4)
      subst e2
      have r1 := ra.2 0 vs[0] (.int ns[0]) (List.getElem?_eq_getElem (by omega)) (by simp [intsD])
      have r2 := rb.2 0 vs[0] (.bytes b) (List.getElem?_eq_getElem (by omega)) (by rw [hb]; rfl)
      obtain ⟨t, q⟩ := r1.int_inv
      obtain ⟨u, q'⟩ := r2.bytes_inv
      rw [q] at q'; cases q'
    · have hm := List.mem_of_getElem? hd
      obtain ⟨z, _, rfl⟩ := List.mem_map.mp hm
      exact (ra.2 i v _ hv hd).atom rfl) (fun h'' tk' X' => h h'' tk' (by rw [mu_same hne] at X'; exact X')) hd) hsw)
theorem swaps_local {elt : Expr} {gens : List Comprehension} {sc : Scope} {p px : Pos} {x : PySem.Str} {line : Nat} (hs : env.scope = σ) (hk : σ.kind = .function) (hx : σ.names.lookup x = some .local) (hl : (px.line == p.line && !(sc.names.any fun (n, k) => n == x && (k == .local || k == .cell))) = true) :
    swapsWith (.ListComp elt gens sc p) (some (.Name x px)) line env = pure true := by
  have hk' : (env.kindOf x == some NameKind.local) = true := by
    show (env.scope.names.lookup x == some NameKind.local) = true
    rw [hs, hx]; rfl
  have hb : (env.blockKind == ScopeKind.function) = true := by unfold Env.blockKind; rw [hs, hk]; rfl
  show (pure (env.blockKind == .function && env.kindOf x == some .local && px.line == p.line && !(sc.names.any fun (n, k) => n == x && (k == .local || k == .cell))) : Sem Bool) = pure true
  rw [hk', hb, Bool.and_assoc, hl]; rfl
end

def lawFor : Stmt := (bodyOf (stAt 10)).getD 8 (.Pass ⟨0, 0, 0, 0⟩)
def lawM (number : Int) (tails : List (List PySem.Str)) (ends : List PySem.Str) : PySem.Str → Option D := fun y =>
  if y = "tails" then some (tailsD tails) else if y = "end" then some (.lst (strsD ends)) else if y = "rows" then some (rowsD (rowsF number)) else none
def wordsD (number : Int) (k : Nat) : List D := ((rowsF number).take k).map fun r => .bytes (wordF r)
theorem rowsF_len (number : Int) : (rowsF number).length = 5 := by unfold rowsF; simp [upto_len]
theorem wordsD_succ {number : Int} {i : Nat} (hi : i < 5) : wordsD number (i + 1) = wordsD number i ++ [.bytes (wordF (rowAt number i))] := by
  unfold wordsD
  have h : i < (rowsF number).length := by rw [rowsF_len]; exact hi
  rw [List.take_succ_eq_append_getElem h, List.map_append]
  unfold rowAt
  rw [List.getD_eq_getElem?_getD, List.getElem?_eq_getElem h]; rfl
theorem spotsF_snoc : ∀ (us : List PySem.Str) (r : Int) (u : PySem.Str), spotsF r (us ++ [u]) = spotsF r us ++ [(reachF r us + u.length, u)]
  | [], _, _ => rfl
  | v :: us, r, u => by show _ :: spotsF _ (us ++ [u]) = _; rw [spotsF_snoc us]; rfl
theorem reachF_snoc : ∀ (us : List PySem.Str) (r : Int) (u : PySem.Str), reachF r (us ++ [u]) = reachF r us + u.length
  | [], _, _ => rfl
  | v :: us, r, u => by show reachF _ (us ++ [u]) = _; rw [reachF_snoc us]; rfl
def sndD : D → D
  | .tup [_, b] => b
  | d => d
theorem snd_spots : ∀ (us : List PySem.Str) (r : Int), ((((spotsF r us).map pairD).filter fun _ => true).map sndD) = strsD us
  | [], _ => rfl
  | u :: us, r => by
    have := snd_spots us (r + u.length)
    show sndD (pairD _) :: _ = D.str u :: strsD us
    rw [← this]; rfl
theorem spotsF_len : ∀ (us : List PySem.Str) (r : Int), (spotsF r us).length = us.length
  | [], _ => rfl
  | u :: us, r => by show (spotsF _ us).length + 1 = _; rw [spotsF_len us]; rfl
theorem takeWhile_take {us : List PySem.Str} : us.take (cutShown us).length = cutShown us := by
  unfold cutShown
  exact (List.prefix_iff_eq_take.mp (List.takeWhile_prefix _)).symm
theorem cut_at : ∀ {us : List PySem.Str}, us.any (· == quoteS) = true → us[(cutShown us).length]? = some quoteS ∧ ∀ i < (cutShown us).length, us[i]? ≠ some quoteS
  | [], h => by simp at h
  | u :: us, h => by
    by_cases hu : u = quoteS
    · have e : cutShown (u :: us) = [] := by unfold cutShown; rw [List.takeWhile_cons, if_neg (by simp [hu])]
      rw [e]
      exact ⟨by simp [hu], fun i hi => by simp at hi⟩
    · have e : cutShown (u :: us) = u :: cutShown us := by unfold cutShown; rw [List.takeWhile_cons, if_pos (by simpa using hu)]
      have h' : us.any (· == quoteS) = true := by
        rw [List.any_cons] at h
        simpa [hu] using h
      obtain ⟨h1, h2⟩ := cut_at h'
      rw [e]
      refine ⟨by simpa using h1, fun i hi => ?_⟩
      cases i with
      | zero => simpa using hu
      | succ i => simpa using h2 i (by simpa using hi)
theorem cut_none : ∀ {us : List PySem.Str}, us.any (· == quoteS) = false → cutShown us = us
  | [], _ => rfl
  | u :: us, h => by
    rw [List.any_cons, Bool.or_eq_false_iff] at h
    have hu : ¬ u = quoteS := by simpa using h.1
    have e : cutShown (u :: us) = u :: cutShown us := by unfold cutShown; rw [List.takeWhile_cons, if_pos (by simpa using hu)]
    rw [e, cut_none h.2]
end Mine

namespace Mine

/-- the text's defs, each at its place -/
structure Fns (U : Uni) : Prop where
  it : ∃ a pm cd doc, FnAt U "_iter_escaped_chars" a (fdAt 1 "_iter_escaped_chars" pm cd doc)
  st : ∃ a pm cd doc, FnAt U "_strip_quoted_realnames" a (fdAt 2 "_strip_quoted_realnames" pm cd doc)
  ap : ∃ a pm cd doc, FnAt U "Int2AP" a (fdAt 4 "Int2AP" pm cd doc)
  wo : ∃ a pm cd doc, FnAt U "_law_word" a (fdAt 6 "_law_word" pm cd doc)
  ro : ∃ a pm cd doc, FnAt U "_law_rows" a (fdAt 7 "_law_rows" pm cd doc)
  un : ∃ a pm cd doc, FnAt U "_law_units" a (fdAt 8 "_law_units" pm cd doc)
  le : ∃ a pm cd doc, FnAt U "_law_left" a (fdAt 9 "_law_left" pm cd doc)

theorem str_len_app (a b : PySem.Str) : (a ++ b).length = a.length + b.length := Array.size_append
theorem sum_le {xs : List PySem.Str} {n : Nat} (h : ∀ r ∈ xs, r.length ≤ n) : (xs.map (·.length)).sum ≤ n * xs.length := by
  induction xs with
  | nil => exact Nat.le_refl _
  | cons x xs ih =>
    have h1 := h x (by simp)
    have h2 := ih fun r hr => h r (by simp [hr])
    simp only [List.map_cons, List.sum_cons, List.length_cons]
    rw [Nat.mul_add]
    omega

section
variable {U : Uni} {A : Around} {Z : Addr → Prop} {h₁ : Heap} {env : Env} {s₁ : Shared} {E : Value → Shared → Prop}
set_option maxHeartbeats 4000000 in
theorem law_turn (FF : Fns U) {number : Int} {tails : List (List PySem.Str)} {ends : List PySem.Str} (H : Facts number tails ends) {i : Nat} (hi : i < 4) (f : Fit 100 A) {wa : Addr}
    (X : FEnv U (scopeOf (stAt 10)) (upd (lawM number tails ends) "turn" (.int ((i : Int) + 1))) [⟨"words", wa, wordsD number (i + 1)⟩] Z h₁ env s₁.heap) :
    wpAny (model U.prog U.w) A (execs (forB lawFor) env) (fun fl s₂ => fl = .next ∧ (∃ h tk gs, s₂ = { s₁ with heap := h, toks := tk, gens := gs } ∧ (AllBare s₁.gens → AllBare gs)) ∧ FEnv U (scopeOf (stAt 10)) (lawM number tails ends) [⟨"words", wa, wordsD number (i + 2)⟩] Z h₁ env s₂.heap) E s₁ := by
  obtain ⟨ait, pit, cit, dit, Fit_⟩ := FF.it
  obtain ⟨ast, pst, cst, dst, Fst⟩ := FF.st
  obtain ⟨aap, pap, cap, dap, Fap⟩ := FF.ap
  obtain ⟨aun, pun, cun, dun, Fun_⟩ := FF.un
  obtain ⟨ale, ple, cle, dle, Fle⟩ := FF.le
  have hsz : sizeLine = 16777216 := rfl
  have hin : ∀ p ∈ upto 0 16, 0 ≤ p ∧ p < 16 := fun p hp => upto_mem.mp hp
  have hwn : ∀ (ds : List D) (x : PySem.Str), ("words" : PySem.Str) ≠ x → ∀ p ∈ ([⟨"words", wa, ds⟩] : List Mut), p.name ≠ x := fun ds x hx p hp => by rw [List.mem_singleton.mp hp]; exact hx
  have hwd : ∀ (ds : List D), ∀ p ∈ ([⟨"words", wa, ds⟩] : List Mut), (p.name == ("__debug__" : PySem.Str)) = false := fun ds p hp => by rw [List.mem_singleton.mp hp]; show (("words" : PySem.Str) == "__debug__") = false; decide
  have hwn2 : ∀ (sa : Addr) (ds' ds : List D) (x : PySem.Str), ("spots" : PySem.Str) ≠ x → ("words" : PySem.Str) ≠ x → ∀ p ∈ ([⟨"spots", sa, ds'⟩, ⟨"words", wa, ds⟩] : List Mut), p.name ≠ x := fun sa ds' ds x hx hx' p hp => by
    rcases List.mem_cons.mp hp with rfl | hp
    · exact hx
    · exact hwn ds x hx' p hp
  have hwd2 : ∀ (sa : Addr) (ds' ds : List D), ∀ p ∈ ([⟨"spots", sa, ds'⟩, ⟨"words", wa, ds⟩] : List Mut), (p.name == ("__debug__" : PySem.Str)) = false := fun sa ds' ds p hp => by
    rcases List.mem_cons.mp hp with rfl | hp
    · show (("spots" : PySem.Str) == "__debug__") = false; decide
    · exact hwd ds p hp
  have hlast : wordsD number (i + 1) = wordsD number i ++ [.bytes (wordF (rowAt number i))] := wordsD_succ (by omega)
  have hwl : (wordsD number i).length ≤ 5 := by unfold wordsD; rw [List.length_map, List.length_take, rowsF_len]; omega
  have hws := H.wsz i (by omega)
  have hrl := H.len i (by omega)
  have hll : (lettersF (rowAt number i)).length = 4 := rfl
  -- letters
  have hwE : ∀ {k σ pos p1 p2 p3 kk}, Ev U k σ (frz (upd (lawM number tails ends) "turn" (.int ((i : Int) + 1))) [⟨"words", wa, wordsD number (i + 1)⟩]) (.Subscript (.Name "words" p1) (.UnaryOp .USub (.Constant (.int 1) kk p2) p3) pos) (.bytes (wordF (rowAt number i))) := fun {k σ pos p1 p2 p3 kk} =>
    Ev.itemLast (ds := wordsD number i) (by rw [← hlast]; exact Ev.name rfl) (Ev.neg Ev.int) (by omega)
  refine st_assignL f X (hwd _) (ns := lettersF (rowAt number i)) ?_ (by rw [hll]; decide) (fun p hp => by rw [List.mem_singleton.mp hp]; exact ⟨wordF (rowAt number 0), _, rfl⟩) (.inr rfl) (hwn _ _ (by decide)) ?_
  · have hb : (KBw.bInts (wordF (rowAt number i))).length = (wordF (rowAt number i)).size := KBw.ints_length _
    have e : intsD (lettersF (rowAt number i)) = List.replicate (4 - ((wordF (rowAt number i)).size : Int)).toNat (.int 0) ++ (KBw.bInts (wordF (rowAt number i))).map fun n => D.int (n - 65) := by
      rw [← H.wlet i (by omega), int_list]
      unfold wlet intsD
      rw [List.map_append, List.map_replicate]
      have : (4 - ((wordF (rowAt number i)).size : Int)).toNat = 4 - (wordF (rowAt number i)).size := by omega
      rw [this]
    rw [e]
    refine Ev.addLst (Ev.repeat1 (Ev.list (EvAll.cons Ev.int EvAll.nil) (show (1 : Nat) ≤ 16777216 by omega)) (Ev.sub Ev.int (Ev.lenBytes hwE (by omega) rfl)) (by omega) (by omega)) (Ev.compM (EvIter.bytes hwE) (by omega) (by decide +kernel) trivial (tgt_local rfl) ?_) ?_
    · intro n hn; exact Ev.sub (Ev.name rfl) Ev.int
    · rw [List.length_replicate, List.length_map, hb]; omega
  intro h₂ tk₂ X₂
  -- bits
  refine st_assign f X₂ (d := .lst (intsD (rowAt number i))) ?_ (.inr rfl) (hwn _ _ (by decide)) ?_ (swaps_cell X₂.toAt.scope rfl)
  · rw [show intsD (rowAt number i) = (upto 0 16).map fun p => D.int ((lettersF (rowAt number i)).getD (p / 4).toNat 0 / 2 ^ (3 - p % 4).toNat % 2) from by rw [int_list]; exact (congrArg intsD (H.bits i (by omega))).symm]
    refine Ev.compM (EvIter.upto (Ev.range1 Ev.int rfl) (by decide) (by decide) (by decide) (by decide)) (by decide) (by decide +kernel) ⟨⟨_, rfl⟩, trivial⟩ (tgt_local rfl) ?_
    intro n hn
    obtain ⟨h1, h2⟩ := hin n hn
    have e : (3 : Int) - n % 4 = (((3 - n % 4).toNat : Nat) : Int) := by omega
    have hpw : (0 : Int) < 2 ^ (3 - n % 4).toNat := Int.pow_pos (by decide)
    have hle : (2 : Int) ^ (3 - n % 4).toNat ≤ 2 ^ 3 := by
      have : (3 - n % 4).toNat ≤ 3 := by omega
      exact_mod_cast Nat.pow_le_pow_right (by decide : 0 < 2) this
    refine Ev.mod (Ev.div (Ev.item (Ev.name rfl) (Ev.div (Ev.name rfl) Ev.int (by decide) (by decide)) (by omega) (by rw [intsD, List.getElem?_map, getD_some (d := 0) (by rw [hll]; omega)]; rfl) (by omega)) (Ev.pow Ev.int (e ▸ Ev.sub Ev.int (Ev.mod (Ev.name rfl) Ev.int (by decide))) ?_) hpw ?_) Ev.int (by decide)
    · have : (Builtin.Int.intBits 2 : Int) = 2 := by decide
      rw [this]; omega
    · have h3 : ((2 : Int) ^ (3 - n % 4).toNat).natAbs ≤ 2 ^ 3 := by omega
      have h4 : ((2 : Int) ^ (3 - n % 4).toNat).natAbs ≠ 0 := by omega
      have := (Nat.log2_lt (k := 16) h4).mpr (by omega)
      omega
  intro h₃ tk₃ X₃
  -- line
  have hel := H.el
  have hpl : (((upto 0 16).map (pieceF (rowAt number i) tails) ++ ends).map (·.length)).sum ≤ 200 := by
    rw [List.map_append, List.sum_append]
    have h1 := sum_le (n := 8) (xs := (upto 0 16).map (pieceF (rowAt number i) tails)) fun r hr => by
      obtain ⟨p, hp, rfl⟩ := List.mem_map.mp hr
      exact H.plen i (by omega) p hp
    have h2 := sum_le (n := 1) (xs := ends) H.es
    rw [List.length_map, upto_len] at h1
    omega
  refine st_assign f X₃ (d := .str (lineF (rowAt number i) tails ends)) (Ev.join (sep := "") (xs := (upto 0 16).map (pieceF (rowAt number i) tails) ++ ends) ?_ (by decide) (by rw [List.length_append, List.length_map, upto_len]; omega) rfl) (.inl rfl) (hwn _ _ (by decide)) ?_ rfl
  · have e : strsD ((upto 0 16).map (pieceF (rowAt number i) tails) ++ ends) = ((upto 0 16).map fun p => D.str (pieceF (rowAt number i) tails p)) ++ strsD ends := by simp [strsD]
    rw [e]
    refine Ev.addLst (Ev.compM (EvIter.upto (Ev.range1 Ev.int rfl) (by decide) (by decide) (by decide) (by decide)) (by decide) (by decide +kernel) ⟨⟨_, rfl⟩, ⟨_, rfl⟩, trivial⟩ (tgt_local rfl) ?_) (Ev.name rfl) ?_
    · intro n hn
      obtain ⟨h1, h2⟩ := hin n hn
      have htl := H.tl
      have hpj := H.pj n hn
      have hple := H.plen i (by omega) n hn
      have ht2 : (tails.getD n.toNat []).length ≤ 2 := H.t2 _ (List.mem_of_getElem? (getD_some (l := tails) (i := n.toNat) (d := []) (by omega)))
      have hq : ∀ b : Bool, (if b = true then quoteS else "").length ≤ 1 := by decide
      refine Ev.addStr (Ev.addStr (Ev.ifexp (b := (rowAt number i).getD n.toNat 0 == 1) (d := .str (if ((rowAt number i).getD n.toNat 0 == 1) = true then quoteS else "")) (EvT.cmp (Ev.item (Ev.name rfl) (Ev.name rfl) h1 (by rw [intsD, List.getElem?_map, getD_some (d := 0) (by omega)]; rfl) (by omega)) Ev.int fun A Z s v₁ v₂ _ r₁ r₂ => opEq r₁ r₂) (fun hb => by rw [if_pos hb]; exact Ev.str) (fun hb => by rw [if_neg (by rw [hb]; decide)]; exact Ev.str))
        (Ev.chr (Ev.add Ev.int (Ev.name rfl)) (by omega) (by omega) rfl) ?_) (Ev.joinT (sep := "") (xs := tails.getD n.toNat []) (Ev.item (Ev.name rfl) (Ev.name rfl) h1 (by rw [List.getElem?_map, getD_some (d := []) (by omega)]; rfl) (by omega)) (by decide) (by omega) rfl) ?_
      · have := hq ((rowAt number i).getD n.toNat 0 == 1)
        show _ + 1 ≤ 16777216
        omega
      · have e2 : (pieceF (rowAt number i) tails n).length = _ := str_len_app _ _
        have e3 : (((if ((rowAt number i).getD n.toNat 0 == 1) = true then quoteS else "") ++ chrS n).length + (Txt.join "" (tails.getD n.toNat [])).length) ≤ 8 := by
          unfold pieceF at e2 hple
          omega
        have e4 : chrS n = ⟨#[(97 + n).toNat]⟩ := rfl
        rw [e4] at e3
        omega
    · simp only [strsD, List.length_map, upto_len]; omega
  intro h₄ tk₄ X₄
  -- left
  obtain ⟨due, hdue⟩ : ∃ due, leftF (rowAt number (i + 1)) tails ends = due := ⟨_, rfl⟩
  have hstrip := H.strip i hi
  have hesc := H.esc i hi
  have hcar := H.carried i hi
  have hdl := H.dlen i hi
  rw [hdue] at hstrip hesc hcar hdl
  have hdsum := sum_le (n := 2) (xs := due) hdl.2
  have hline := H.line i (by omega)
  refine st_assignG f X₄ (d := .str (Txt.join "" due)) ?_ (.inl rfl) (hwn _ _ (by decide)) ?_ rfl
  · rw [← hstrip]
    exact EvG.callF (EvAll.cons (Ev.name rfl) EvAll.nil) rfl Fst fun A Z s vs f' zok G rs => strip_call Fst Fit_ hline (f'.le (by omega)) zok G rs
  intro h₅ tk₅ gs₅ X₅ hg₅
  -- due
  refine st_assign f X₅ (d := .lst (strsD due)) ?_ (.inl rfl) (hwn _ _ (by decide)) ?_ rfl
  · rw [← hdue]
    refine Ev.callF (ds := [.lst (intsD (rowAt number (i + 1))), tailsD tails, .lst (strsD ends)]) (EvAll.cons (Ev.item (Ev.name rfl) (Ev.name rfl) (by omega) ?_ (by omega)) (EvAll.cons (Ev.name rfl) (EvAll.cons (Ev.name rfl) EvAll.nil))) rfl Fle fun A Z s vs f' zok G rs =>
      left_call Fle Fun_ (H.len (i + 1) (by omega)) H.t2 H.tl hel (f'.le (by omega)) zok G rs
    have e : ((i : Int) + 1).toNat = i + 1 := by omega
    rw [e, List.getElem?_map, getD_some (d := []) (by rw [rowsF_len]; omega)]; rfl
  intro h₆ tk₆ X₆
  -- left as due
  refine st_if f X₆ (b := (Txt.join "" due) != (Txt.join "" due)) (EvT.cmp (Ev.name rfl) (Ev.join (sep := "") (xs := due) (Ev.name rfl) (by decide) (by omega) rfl) fun A Z s v₁ v₂ _ r₁ r₂ => opNeS r₁ r₂) (fun hb => by simp at hb) ?_
  intro _ h₇ tk₇ X₇
  refine wpAny_execs_nil ?_
  -- spots
  refine st_newlist f X₇ EvAll.nil (Nat.zero_le _) (.inl rfl) (hwn _ _ (by decide)) ?_
  intro sa h₈ tk₈ X₈
  refine st_assign f X₈ (d := .int (-1)) (Ev.neg Ev.int) (.inl rfl) (hwn2 _ _ _ _ (by decide) (by decide)) ?_ rfl
  intro h₉ tk₉ X₉
  refine st_for (items := strsD due) f X₉ (EvIter.lst (Ev.name rfl)) (.inl rfl)
    (fun j y => if y = "reach" then some (.int (reachF (-1) (due.take j))) else if y = "left" then some (.str (Txt.join "" due)) else if y = "turn" then some (.int ((i : Int) + 1)) else lawM number tails ends y)
    (fun j => [⟨"spots", sa, (spotsF (-1) (due.take j)).map pairD⟩, ⟨"words", wa, wordsD number (i + 1)⟩]) (fun _ s' => ∃ h' tk', s' = { s₁ with heap := h', toks := tk', gens := gs₅ })
    ?_ rfl ⟨_, _, rfl⟩ ?_ ?_ ?_ ?_ ?_ (by intro _ _; rfl)
  · intro y d hy
    split at hy
    · rename_i e; subst e; cases hy; rfl
    · split at hy
      · rename_i e; subst e; cases hy; rfl
      · split at hy
        · rename_i e; subst e; cases hy; rfl
        · unfold lawM at hy
          split at hy
          · rename_i e; subst e; cases hy; rfl
          · split at hy
            · rename_i e; subst e; cases hy; rfl
            · split at hy
              · rename_i e; subst e; cases hy; rfl
              · cases hy
  · rintro j s' h tk ⟨h', tk', rfl⟩; exact ⟨h, tk, rfl⟩
  · intro j p hp
    rcases List.mem_cons.mp hp with rfl | hp
    · show ("spots" : PySem.Str) ≠ "unit"; decide
    · exact hwn _ _ (by decide) p hp
  · intro j p hp
    rcases List.mem_cons.mp hp with rfl | hp
    · exact .inr rfl
    · rw [List.mem_singleton.mp hp]
      exact .inl (X.muts _ List.mem_cons_self).2.1
  · intro j d hd Z' h₁' s₂ hz X' hJ E''
    have hj : j < due.length := by have := (List.getElem?_eq_some_iff.mp hd).1; simpa [strsD] using this
    obtain rfl : d = .str due[j] := by simpa [strsD, hj] using hd.symm
    have hul := hdl.2 _ (List.getElem_mem hj)
    have e1 : due.take (j + 1) = due.take j ++ [due[j]] := List.take_succ_eq_append_getElem hj
    refine st_assign f X' (d := .int (reachF (-1) (due.take j) + (due[j].length : Int))) (Ev.add (Ev.name rfl) (Ev.lenStr (Ev.name rfl) (by omega) rfl)) (.inl rfl) (hwn2 _ _ _ _ (by decide) (by decide)) ?_ rfl
    intro h₁₀ tk₁₀ X₁₀
    refine st_append f X₁₀ (d := pairD (reachF (-1) (due.take j) + (due[j].length : Int), due[j])) (Ev.tuple (EvAll.cons (Ev.name rfl) (EvAll.cons (Ev.name rfl) EvAll.nil)) (show (2 : Nat) ≤ 16777216 by omega)) (by rw [List.length_map, spotsF_len, List.length_take]; omega) ?_
    intro h₁₁ tk₁₁ X₁₁
    refine wpAny_execs_nil ⟨rfl, ?_, ?_⟩
    · obtain ⟨h', tk', rfl⟩ := hJ; exact ⟨_, _, rfl⟩
    · rw [e1, spotsF_snoc, reachF_snoc, List.map_append]
      refine X₁₁.lessM ?_
      intro y d hy
      split at hy
      · rename_i e; subst e; cases hy; rfl
      · split at hy
        · rename_i e; subst e; cases hy; rfl
        · split at hy
          · rename_i e; subst e; cases hy; rfl
          · unfold lawM at hy
            split at hy
            · rename_i e; subst e; cases hy; rfl
            · split at hy
              · rename_i e; subst e; cases hy; rfl
              · split at hy
                · rename_i e; subst e; cases hy; rfl
                · cases hy
  rintro s' ⟨h', tk', rfl⟩ X'
  have e4 : due.take (strsD due).length = due := by simp [strsD]
  rw [e4] at X'
  -- told
  refine st_assignG f X' (d := .lst ((spotsF (-1) due).map pairD)) ?_ (.inl rfl) (hwn2 _ _ _ _ (by decide) (by decide)) ?_ rfl
  · rw [← hesc]
    refine EvG.listGen Fit_ (by omega) (Ev.name rfl) ?_ rfl rfl
    rw [hesc, spotsF_len]; omega
  intro h₁₂ tk₁₂ gs₁₂ X₁₂ hg₁₂
  refine st_ifA f X₁₂ (hwd2 _ _ _) (b := false) (EvT.cmp (Ev.name rfl) (Ev.name rfl) fun A Z s v₁ v₂ f' r₁ r₂ => opNePairs (f'.le (by omega)) r₁ r₂) (fun hb => by cases hb) ?_
  intro _ h₁₃ tk₁₃ X₁₃
  refine wpAny_execs_nil ?_
  have X₁₄ : FEnv U (scopeOf (stAt 10)) _ [⟨"words", wa, wordsD number (i + 1)⟩] Z h₁ env h₁₃ := X₁₃.weaken (fun _ _ e => e) (List.sublist_cons_self _ _) (fun b hb => .inl hb) X.zl (fun n c hc => (X.cell n c hc).2.1) fun p hp => by rw [List.mem_singleton.mp hp]; exact (X.muts _ List.mem_cons_self).2.1
  -- shown
  refine st_compUse f X₁₄ (swaps_local X₁₄.toAt.scope rfl rfl rfl) (items := (spotsF (-1) due).map pairD) (keep := fun _ => true) (out := sndD) (EvIter.lst (Ev.name rfl)) (by rw [List.length_map, spotsF_len]; omega) (by decide +kernel) (frees_ok trivial) (tgt_pair rfl rfl) (fun d hd => by obtain ⟨q, _, rfl⟩ := List.mem_map.mp hd; exact ⟨q, rfl⟩) (fun d hd => rfl) (fun d hd _ => by obtain ⟨q, _, rfl⟩ := List.mem_map.mp hd; exact Ev.name rfl) (.inl rfl) (hwn _ _ (by decide)) ?_
  intro h₁₅ tk₁₅ X₁₅
  rw [snd_spots] at X₁₅
  -- the rest of the turn
  have hcl : (cutShown due).length ≤ 200 := Nat.le_trans (List.Sublist.length_le (List.takeWhile_sublist _)) hdl.1
  have fin : ∀ (m' : PySem.Str → Option D) (s₂ : Shared) (E₂ : Value → Shared → Prop) (rest : List Stmt), rest = (forB lawFor).drop 13 → m' "shown" = some (.lst (strsD (cutShown due))) → m' "turn" = some (.int ((i : Int) + 1)) → (∀ y d, lawM number tails ends y = some d → m' y = some d) →
      (∃ h tk, s₂ = { s₁ with heap := h, toks := tk, gens := gs₁₂ }) → FEnv U (scopeOf (stAt 10)) m' [⟨"words", wa, wordsD number (i + 1)⟩] Z h₁ env s₂.heap →
      wpAny (model U.prog U.w) A (execs rest env) (fun fl s₂ => fl = .next ∧ (∃ h tk gs, s₂ = { s₁ with heap := h, toks := tk, gens := gs } ∧ (AllBare s₁.gens → AllBare gs)) ∧ FEnv U (scopeOf (stAt 10)) (lawM number tails ends) [⟨"words", wa, wordsD number (i + 2)⟩] Z h₁ env s₂.heap) E₂ s₂ := by
    rintro m' s₂ E₂ rest rfl hsh htu hlm ⟨hh, ttk, rfl⟩ Y
    refine st_assign f Y (d := .int 0) Ev.int (.inl rfl) (hwn _ _ (by decide)) ?_ rfl
    intro g₁ k₁ Y₁
    refine st_for (items := intsD (upto 0 16)) f Y₁ (EvIter.upto (Ev.range1 Ev.int rfl) (by decide) (by decide) (by decide) (by decide)) (.inl rfl)
      (fun j y => if y = "carried" then some (.int (carriedF (cutShown due) ((upto 0 16).take j))) else if y = "shown" then some (.lst (strsD (cutShown due))) else if y = "turn" then some (.int ((i : Int) + 1)) else lawM number tails ends y)
      (fun j => [⟨"words", wa, wordsD number (i + 1)⟩]) (fun _ s' => ∃ h' tk', s' = { s₁ with heap := h', toks := tk', gens := gs₁₂ })
      ?_ rfl ⟨_, _, rfl⟩ ?_ ?_ ?_ ?_ ?_ (by intro _ _; rfl)
    · intro y d hy
      unfold upd
      split at hy
      · rename_i e; rw [if_pos e]; cases hy; rfl
      · rename_i e
        rw [if_neg e]
        split at hy
        · rename_i e; subst e; cases hy; exact hsh
        · split at hy
          · rename_i e; subst e; cases hy; exact htu
          · exact hlm y d hy
    · rintro j s' h tk ⟨h', tk', rfl⟩; exact ⟨h, tk, rfl⟩
    · intro j p hp; exact hwn _ _ (by decide) p hp
    · intro j p hp
      rw [List.mem_singleton.mp hp]
      exact (X.muts _ List.mem_cons_self).2.1
    · intro j d hd Z' h₁' s₂ hz X' hJ E''
      have hj : j < (upto 0 16).length := by have := (List.getElem?_eq_some_iff.mp hd).1; simpa [intsD] using this
      obtain rfl : d = .int (upto 0 16)[j] := by simpa [intsD, hj] using hd.symm
      obtain ⟨p1, p2⟩ := hin _ (List.getElem_mem hj)
      have e1 : (upto 0 16).take (j + 1) = (upto 0 16).take j ++ [(upto 0 16)[j]] := List.take_succ_eq_append_getElem hj
      refine st_assign f X' (d := .int (carriedF (cutShown due) ((upto 0 16).take (j + 1)))) ?_ (.inl rfl) (hwn _ _ (by decide)) ?_ rfl
      · rw [e1]
        unfold carriedF
        rw [List.foldl_append]
        refine Ev.add (Ev.mul (Ev.name rfl) Ev.int (IntMulOk.of_right (by decide))) (Ev.ifexp (b := (cutShown due).any (· == chrS (upto 0 16)[j])) (d := .int (if ((cutShown due).any (· == chrS (upto 0 16)[j])) = true then 0 else 1)) (EvT.cmp (Ev.chr (Ev.add Ev.int (Ev.name rfl)) (by omega) (by omega) rfl) (Ev.name rfl) fun A Z s v₁ v₂ _ r₁ r₂ => opInL r₁ r₂) (fun hb => by rw [if_pos hb]; exact Ev.int) (fun hb => by rw [if_neg (by rw [hb]; decide)]; exact Ev.int))
      · intro h₁₆ tk₁₆ X₁₆
        refine wpAny_execs_nil ⟨rfl, ?_, X₁₆.lessM ?_⟩
        · obtain ⟨h', tk', rfl⟩ := hJ; exact ⟨_, _, rfl⟩
        · intro y d hy
          split at hy
          · rename_i e; subst e; cases hy; rfl
          · split at hy
            · rename_i e; subst e; cases hy; rfl
            · split at hy
              · rename_i e; subst e; cases hy; rfl
              · unfold lawM at hy
                split at hy
                · rename_i e; subst e; cases hy; rfl
                · split at hy
                  · rename_i e; subst e; cases hy; rfl
                  · split at hy
                    · rename_i e; subst e; cases hy; rfl
                    · cases hy
    · rintro s' ⟨h', tk', rfl⟩ X'
      have e4 : (upto 0 16).take (intsD (upto 0 16)).length = upto 0 16 := by simp [intsD]
      rw [e4, hcar] at X'
      obtain ⟨w1, w2, w3⟩ := H.word (i + 1) (by omega)
      refine st_append f X' (d := .bytes (wordF (rowAt number (i + 1)))) ?_ (by rw [hlast, List.length_append, List.length_singleton]; omega) ?_
      · have en : (if (((i : Int) + 1) % 2 == 1) = true then -(numOf (rowAt number (i + 1))) else numOf (rowAt number (i + 1))).natAbs = (numOf (rowAt number (i + 1))).natAbs := by split <;> omega
        rw [← w3, ← en]
        refine Ev.callF (ds := [.int (if (((i : Int) + 1) % 2 == 1) = true then -(numOf (rowAt number (i + 1))) else numOf (rowAt number (i + 1)))]) (EvAll.cons (Ev.ifexp (b := ((i : Int) + 1) % 2 == 1) (EvT.cmp (Ev.mod (Ev.name rfl) Ev.int (by decide)) Ev.int fun A Z s v₁ v₂ _ r₁ r₂ => opEq r₁ r₂) (fun hb => by rw [if_pos hb]; exact Ev.neg (Ev.name rfl)) (fun hb => by rw [if_neg (by rw [hb]; decide)]; exact Ev.name rfl)) EvAll.nil) rfl Fap fun A Z s vs f' zok G rs =>
          ap_call Fap (by rw [en]; omega) (f'.le (by omega)) zok G rs
      · intro h₁₇ tk₁₇ X₁₇
        refine wpAny_execs_nil ⟨rfl, ⟨_, _, _, rfl, fun hb => hg₁₂ (hg₅ hb)⟩, ?_⟩
        rw [show i + 2 = (i + 1) + 1 from rfl, wordsD_succ (show i + 1 < 5 by omega)]
        refine X₁₇.lessM ?_
        intro y d hy
        unfold lawM at hy
        split at hy
        · rename_i e; subst e; cases hy; rfl
        · split at hy
          · rename_i e; subst e; cases hy; rfl
          · split at hy
            · rename_i e; subst e; cases hy; rfl
            · cases hy
  have hlm : ∀ (m' : PySem.Str → Option D), m' "tails" = some (tailsD tails) → m' "end" = some (.lst (strsD ends)) → m' "rows" = some (rowsD (rowsF number)) → ∀ y d, lawM number tails ends y = some d → m' y = some d := by
    intro m' a1 a2 a3 y d hy
    unfold lawM at hy
    split at hy
    · rename_i e; subst e; cases hy; exact a1
    · split at hy
      · rename_i e; subst e; cases hy; exact a2
      · split at hy
        · rename_i e; subst e; cases hy; exact a3
        · cases hy
  refine st_if f X₁₅ (b := due.any (· == quoteS)) (EvT.cmp Ev.str (Ev.name rfl) fun A Z s v₁ v₂ _ r₁ r₂ => opInL r₁ r₂) ?_ ?_
  · intro hb g₁ k₁ Y₁
    obtain ⟨c1, c2⟩ := cut_at hb
    refine st_assign f Y₁ (d := .lst (strsD (cutShown due))) ?_ (.inl rfl) (hwn _ _ (by decide)) ?_ rfl
    · have e2 : strsD (cutShown due) = pickL (strsD due) none (some (((cutShown due).length : Nat) : Int)) none := by
        have hle : (cutShown due).length ≤ due.length := List.Sublist.length_le (List.takeWhile_sublist _)
        rw [pickL_upto _ _ (by rw [strsD, List.length_map]; exact hle), strsD, strsD, ← List.map_take, takeWhile_take]
      rw [e2]
      exact Ev.sliceLst (Ev.name rfl) trivial (Ev.index rfl Ev.str c1 (by omega) c2) trivial (fun h => nomatch h) (by rw [strsD, List.length_map]; omega)
    · intro g₂ k₂ Y₂
      refine wpAny_execs_nil ?_
      exact fin _ _ _ _ rfl rfl rfl (hlm _ rfl rfl rfl) ⟨_, _, rfl⟩ Y₂
  · intro hb g₁ k₁ Y₁
    refine wpAny_execs_nil ?_
    refine fin _ _ _ _ rfl ?_ rfl (hlm _ rfl rfl rfl) ⟨_, _, rfl⟩ Y₁
    rw [cut_none hb]; rfl
end
end Mine

namespace Mine
theorem pickL_len {α : Type} (xs : List α) (lo hi st : Option Int) : ∀ x ∈ pickL xs lo hi st, x ∈ xs := by
  intro x hx
  unfold pickL at hx
  obtain ⟨i, _, hi⟩ := List.mem_filterMap.mp hx
  exact List.mem_of_getElem? hi
theorem pickL_cap {α : Type} (xs : List α) : (pickL xs none (some 60) none).length ≤ 60 := by
  unfold pickL
  refine Nat.le_trans (List.length_filterMap_le _ _) (sliceRange_length_le _ _ _ 60 (fun _ => ?_) fun h => ?_)
  · unfold sliceBounds; simp; omega
  · exact absurd (show (1 : Int) > 0 by decide) h
theorem pickL_two {α : Type} (xs : List α) (a : Int) : (pickL xs (some a) none (some 2)).length ≤ xs.length := by
  unfold pickL
  refine Nat.le_trans (List.length_filterMap_le _ _) (sliceRange_length_le _ _ _ xs.length (fun _ => ?_) fun h => ?_)
  · unfold sliceBounds; simp; omega
  · exact absurd (show (2 : Int) > 0 by decide) h
theorem sum_mods (m : Int) (hm : 0 < m) : ∀ l : List Int, (∀ n ∈ l.map (· % m), 0 ≤ n) ∧ (l.map (· % m)).sum ≤ m * l.length
  | [] => by simp
  | a :: l => by
    obtain ⟨h1, h2⟩ := sum_mods m hm l
    have h3 := Int.emod_nonneg a (Int.ne_of_gt hm)
    have h4 := Int.emod_lt_of_pos a hm
    refine ⟨fun n hn => ?_, ?_⟩
    · rw [List.map_cons] at hn
      rcases List.mem_cons.mp hn with rfl | hn
      · exact h3
      · exact h1 n hn
    · rw [List.map_cons, List.sum_cons, List.length_cons]
      push_cast
      rw [Int.mul_add]
      omega
def valOf : Stmt → Expr
  | .Assign _ v _ => v
  | _ => .Constant .none 0 ⟨0, 0, 0, 0⟩
def menuE : Expr := valOf ((bodyOf (stAt 10)).getD 3 (.Pass ⟨0, 0, 0, 0⟩))
def menuD : List D := [.tup [], .tup [.str "\\\""], .tup [.str "\\\\"], .tup [.str "\"", .str "\""], .tup [.str "\\("], .tup [.str "\\\\", .str "\\\""], .tup [.str "'", .str ")"], .tup []]
theorem menu_ev {U : Uni} {k : Nat} {σ : Scope} {m : PySem.Str → Option D} : Ev U k σ m menuE (.tup menuD) := by
  have z : ∀ {k σ m kk p}, Ev U k σ m (.Tuple [] kk p) (.tup []) := Ev.tuple EvAll.nil (Nat.zero_le _)
  have o : ∀ {k σ m kk p c1 p1} (a : PySem.Str), Ev U k σ m (.Tuple [.Constant (.str a) c1 p1] kk p) (.tup [.str a]) := fun a => Ev.tuple (EvAll.cons Ev.str EvAll.nil) (show (1 : Nat) ≤ 16777216 by omega)
  have w : ∀ {k σ m kk p c1 p1 c2 p2} (a b : PySem.Str), Ev U k σ m (.Tuple [.Constant (.str a) c1 p1, .Constant (.str b) c2 p2] kk p) (.tup [.str a, .str b]) := fun a b => Ev.tuple (EvAll.cons Ev.str (EvAll.cons Ev.str EvAll.nil)) (show (2 : Nat) ≤ 16777216 by omega)
  unfold menuD
  refine Ev.tuple ?_ ?_
  · refine EvAll.cons z ?_
    refine EvAll.cons (o _) ?_
    refine EvAll.cons (o _) ?_
    refine EvAll.cons (w _ _) ?_
    refine EvAll.cons (o _) ?_
    refine EvAll.cons (w _ _) ?_
    refine EvAll.cons (w _ _) ?_
    refine EvAll.cons z ?_
    exact EvAll.nil
  · simp only [List.length_cons, List.length_nil]; decide
theorem menuD_eq : menuD = menuL.map fun t => D.tup (strsD t) := rfl
def unInt : D → Int
  | .int n => n
  | _ => 0
def outRow : D → D
  | .lst ds => .bytes (wordF (ds.map unInt))
  | d => d
theorem unInt_ints (ns : List Int) : (intsD ns).map unInt = ns := by unfold intsD; rw [List.map_map]; exact (List.map_congr_left fun n _ => rfl).trans (List.map_id _)
theorem menu_at : ∀ j : Int, 0 ≤ j → j < 8 → menuD[j.toNat]? = some (.tup (strsD (menuL.getD j.toNat []))) := by
  intro j h1 h2
  have : j.toNat < menuL.length := by show j.toNat < 8; omega
  rw [menuD_eq, List.getElem?_map, getD_some (d := []) this]; rfl

section
variable {U : Uni} {A : Around} {Z : Addr → Prop} {s : Shared}
theorem st_menu {m : PySem.Str → Option D} {k : Nat} (f : Fit k A) {env : Env} {h₀ : Heap} (X : FEnv U (scopeOf (stAt 10)) m [] Z h₀ env s.heap) {Q : Flow → Shared → Prop} {E : Value → Shared → Prop}
    (h : ∀ h' tk, FEnv U (scopeOf (stAt 10)) (upd m "menu" (.tup menuD)) [] Z h₀ env h' → wpAny (model U.prog U.w) A (execs ((bodyOf (stAt 10)).drop 4) env) Q E { s with heap := h', toks := tk }) :
    wpAny (model U.prog U.w) A (execs ((bodyOf (stAt 10)).drop 3) env) Q E s := by
  have hev := @menu_ev U k (scopeOf (stAt 10)) m
  obtain ⟨px, pos, e, hsw⟩ : ∃ px pos, (bodyOf (stAt 10)).drop 3 = .Assign [.Name "menu" px] menuE pos :: (bodyOf (stAt 10)).drop 4 ∧ swapsWith menuE (some (.Name "menu" px)) pos.line env = pure false := ⟨_, _, rfl, rfl⟩
  rw [e]
  generalize menuE = me at hev hsw
  generalize (bodyOf (stAt 10)).drop 4 = rr at h
  exact st_assign f X (d := .tup menuD) hev (.inr rfl) (by simp) h hsw
set_option maxHeartbeats 4000000 in
theorem law_body (FF : Fns U) (facts : ∀ n d o, 0 ≤ n → n < 65536 → Facts n (tailsF d) (endsF o)) {xs : List Int} (hxs : xs.length ≤ 63) (f : Fit 100 A) {env : Env} {h₀ : Heap}
    (X : FEnv U (scopeOf (stAt 10)) (fun y => if y = "script" then some (.lst (intsD xs)) else none) [] Z h₀ env s.heap) {Q : Flow → Shared → Prop} {E : Value → Shared → Prop}
    (hQ : ∀ h' tk gs, Kept h₀ h' → (AllBare s.gens → AllBare gs) → Q (.ret (.bool true)) { s with heap := h', toks := tk, gens := gs }) :
    wpAny (model U.prog U.w) A (execs (bodyOf (stAt 10)) env) Q E s := by
  obtain ⟨aap, pap, cap, dap, Fap⟩ := FF.ap
  obtain ⟨awo, pwo, cwo, dwo, Fwo⟩ := FF.wo
  obtain ⟨aro, pro, cro, dro, Fro⟩ := FF.ro
  have hsz : sizeLine = 16777216 := rfl
  have hin : ∀ p ∈ upto 0 16, 0 ≤ p ∧ p < 16 := fun p hp => upto_mem.mp hp
  -- taken
  refine st_assign f X (d := .lst (intsD (pickL xs none (some 60) none))) ?_ (.inl rfl) (by simp) ?_ rfl
  · rw [show intsD (pickL xs none (some 60) none) = pickL (intsD xs) none (some 60) none from (pickL_map _ _ _ _ _).symm]
    exact Ev.sliceLst (Ev.name rfl) trivial Ev.int trivial (fun h => nomatch h) (by rw [intsD, List.length_map]; omega)
  intro h₁ tk₁ X₁
  obtain ⟨taken, htk⟩ : ∃ taken, pickL xs none (some 60) none = taken := ⟨_, rfl⟩
  rw [htk] at X₁
  have htl : taken.length ≤ 60 := by rw [← htk]; exact pickL_cap xs
  have hpl : ∀ a : Int, (pickL taken (some a) none (some 2)).length ≤ 60 := fun a => Nat.le_trans (pickL_two taken a) htl
  have half : ∀ (a : Int) (m : Int), 0 < m → m ≤ 281474976710656 → (∀ n ∈ (pickL taken (some a) none (some 2)).map (· % m), 0 ≤ n) ∧ ((pickL taken (some a) none (some 2)).map (· % m)).sum < 2 ^ 63 := fun a m h0 h1 => by
    obtain ⟨s1, s2⟩ := sum_mods m h0 (pickL taken (some a) none (some 2))
    have s3 := hpl a
    have s4 : m * ((pickL taken (some a) none (some 2)).length : Int) ≤ 281474976710656 * 60 := Int.mul_le_mul h1 (by omega) (by omega) (by decide)
    exact ⟨s1, by omega⟩
  -- number
  refine st_assign f X₁ (d := .int ((40508 + ((pickL taken (some 0) none (some 2)).map (· % 65536)).sum) % 65536)) ?_ (.inl rfl) (by simp) ?_ rfl
  · have hh := half 0 65536 (by decide) (by decide)
    refine Ev.mod (Ev.add Ev.int (Ev.sum ?_ hh.1 hh.2 rfl)) Ev.int (by decide)
    rw [← int_list]
    refine Ev.compM (EvIter.lst ?_) (by have := hpl 0; omega) (by decide +kernel) trivial (tgt_local rfl) ?_
    · rw [show intsD (pickL taken (some 0) none (some 2)) = pickL (intsD taken) (some 0) none (some 2) from (pickL_map _ _ _ _ _).symm]
      exact Ev.sliceLst (Ev.name rfl) Ev.int trivial Ev.int (fun h => nomatch h) (by rw [intsD, List.length_map]; omega)
    · intro n hn; exact Ev.mod (Ev.name rfl) Ev.int (by decide)
  intro h₂ tk₂ X₂
  obtain ⟨number, hnum⟩ : ∃ number, (40508 + ((pickL taken (some 0) none (some 2)).map (· % 65536)).sum) % 65536 = number := ⟨_, rfl⟩
  rw [hnum] at X₂
  have hn0 : 0 ≤ number := by rw [← hnum]; exact Int.emod_nonneg _ (by decide)
  have hn1 : number < 65536 := by rw [← hnum]; exact Int.emod_lt_of_pos _ (by decide)
  -- dress
  refine st_assign f X₂ (d := .int ((116621022708744 + ((pickL taken (some 1) none (some 2)).map (· % 281474976710656)).sum) % 281474976710656)) ?_ (.inr rfl) (by simp) ?_ rfl
  · have hh := half 1 281474976710656 (by decide) (by decide)
    refine Ev.mod (Ev.add Ev.int (Ev.sum ?_ hh.1 hh.2 rfl)) Ev.int (by decide)
    rw [← int_list]
    refine Ev.compM (EvIter.lst ?_) (by have := hpl 1; omega) (by decide +kernel) trivial (tgt_local rfl) ?_
    · rw [show intsD (pickL taken (some 1) none (some 2)) = pickL (intsD taken) (some 1) none (some 2) from (pickL_map _ _ _ _ _).symm]
      exact Ev.sliceLst (Ev.name rfl) Ev.int trivial Ev.int (fun h => nomatch h) (by rw [intsD, List.length_map]; omega)
    · intro n hn; exact Ev.mod (Ev.name rfl) Ev.int (by decide)
  intro h₃ tk₃ X₃
  obtain ⟨dress, hdr⟩ : ∃ dress, (116621022708744 + ((pickL taken (some 1) none (some 2)).map (· % 281474976710656)).sum) % 281474976710656 = dress := ⟨_, rfl⟩
  rw [hdr] at X₃
  -- menu
  show wpAny (model U.prog U.w) A (execs ((bodyOf (stAt 10)).drop 3) env) Q E _
  have hh := @st_menu U A Z { s with heap := h₃, toks := tk₃ } _ 100 f env h₀ X₃ Q E
  generalize hr4 : (bodyOf (stAt 10)).drop 4 = r4 at hh
  generalize hr3 : (bodyOf (stAt 10)).drop 3 = r3 at hh ⊢
  refine hh ?_
  intro h₄ tk₄ X₄
  rw [← hr4]
  clear hh hr3 hr4
  -- tails
  refine st_assign f X₄ (d := tailsD (tailsF dress)) ?_ (.inr rfl) (by simp) ?_ (swaps_cell X₄.toAt.scope rfl)
  · rw [show tailsD (tailsF dress) = .lst ((upto 0 16).map fun p => D.tup (strsD (menuL.getD (dress / 8 ^ p.toNat % 8).toNat []))) from by unfold tailsD tailsF; rw [List.map_map]; rfl]
    refine Ev.compM (EvIter.upto (Ev.range1 Ev.int rfl) (by decide) (by decide) (by decide) (by decide)) (by decide) (by decide +kernel) ⟨⟨_, rfl⟩, ⟨_, rfl⟩, trivial⟩ (tgt_local rfl) ?_
    intro n hn
    obtain ⟨h1, h2⟩ := hin n hn
    have e : n = ((n.toNat : Nat) : Int) := by omega
    have hpw : (0 : Int) < 8 ^ n.toNat := Int.pow_pos (by decide)
    have hle : (8 : Int) ^ n.toNat ≤ 8 ^ 15 := by
      have : n.toNat ≤ 15 := by omega
      exact_mod_cast Nat.pow_le_pow_right (by decide : 0 < 8) this
    have h8 := Int.emod_lt_of_pos (dress / 8 ^ n.toNat) (show (0 : Int) < 8 by decide)
    have h80 := Int.emod_nonneg (dress / 8 ^ n.toNat) (show (8 : Int) ≠ 0 by decide)
    refine Ev.itemT (Ev.name rfl) (Ev.mod (Ev.div (Ev.name rfl) (Ev.pow Ev.int (e ▸ Ev.name rfl) ?_) hpw ?_) Ev.int (by decide)) h80 (menu_at _ h80 h8) (by omega)
    · have : (Builtin.Int.intBits 8 : Int) = 4 := by decide
      rw [this]; omega
    · have h3 : ((8 : Int) ^ n.toNat).natAbs ≤ 8 ^ 15 := by omega
      have h4 : ((8 : Int) ^ n.toNat).natAbs ≠ 0 := by omega
      have := (Nat.log2_lt (k := 46) h4).mpr (by omega)
      omega
  intro h₅ tk₅ X₅
  -- end
  refine st_assign f X₅ (d := .lst (strsD (endsF (((taken.length : Nat) : Int) % 2 == 1)))) ?_ (.inl rfl) (by simp) ?_ rfl
  · refine Ev.ifexp (b := ((taken.length : Nat) : Int) % 2 == 1) (EvT.cmp (Ev.mod ?_ Ev.int (by decide)) Ev.int fun A Z s v₁ v₂ _ r₁ r₂ => opEq r₁ r₂) (fun hb => ?_) (fun hb => ?_)
    · show Ev U 100 _ _ _ (.int ((taken.length : Nat) : Int))
      rw [show taken.length = (intsD taken).length from by simp [intsD]]
      exact Ev.lenLst (Ev.name rfl) (by rw [intsD, List.length_map]; omega) rfl
    · rw [hb]; exact Ev.list (EvAll.cons Ev.str EvAll.nil) (show (1 : Nat) ≤ 16777216 by omega)
    · rw [hb]; exact Ev.list EvAll.nil (Nat.zero_le _)
  intro h₆ tk₆ X₆
  have H := facts number dress (((taken.length : Nat) : Int) % 2 == 1) hn0 hn1
  generalize endsF (((taken.length : Nat) : Int) % 2 == 1) = ends at H X₆
  generalize tailsF dress = tails at H X₆
  -- rows
  refine st_assign f X₆ (d := rowsD (rowsF number)) ?_ (.inl rfl) (by simp) ?_ rfl
  · exact Ev.callF (EvAll.cons (Ev.name rfl) EvAll.nil) rfl Fro fun A Z s vs f' zok G rs => rows_call Fro hn0 (f'.le (by omega)) zok G rs
  intro h₇ tk₇ X₇
  -- words
  refine st_newlist f X₇ (ds := wordsD number 1) (EvAll.cons ?_ EvAll.nil) (show (1 : Nat) ≤ 16777216 by omega) (.inl rfl) (by simp) ?_
  · show Ev U 100 _ _ _ (.bytes (wordF (rowAt number 0)))
    rw [← H.first]
    exact Ev.callF (EvAll.cons (Ev.name rfl) EvAll.nil) rfl Fap fun A Z s vs f' zok G rs => ap_call Fap (by omega) (f'.le (by omega)) zok G rs
  intro wa h₈ tk₈ X₈
  refine st_for (items := intsD (upto 1 5)) f X₈ (EvIter.upto (Ev.range2 Ev.int Ev.int rfl) (by decide) (by decide) (by decide) (by decide)) (.inl rfl)
    (fun _ => lawM number tails ends) (fun i => [⟨"words", wa, wordsD number (i + 1)⟩]) (fun _ s' => ∃ h' tk' gs, s' = { s with heap := h', toks := tk', gens := gs } ∧ (AllBare s.gens → AllBare gs))
    ?_ rfl ⟨_, _, _, rfl, fun h => h⟩ ?_ (by intro i p hp; obtain rfl := List.mem_singleton.mp hp; show ("words" : PySem.Str) ≠ "turn"; decide) (by intro i p hp; obtain rfl := List.mem_singleton.mp hp; exact .inr rfl) ?_ ?_ (by intro _ _; rfl)
  · intro y d hy
    unfold lawM at hy
    split at hy
    · rename_i e; subst e; cases hy; rfl
    · split at hy
      · rename_i e; subst e; cases hy; rfl
      · split at hy
        · rename_i e; subst e; cases hy; rfl
        · cases hy
  · rintro i s₁ h tk ⟨h', tk', gs, rfl, hb⟩; exact ⟨h, tk, gs, rfl, hb⟩
  · intro i d hd Z' h₁' s₁ hz X' hJ E''
    have hi : i < 4 := by have := (List.getElem?_eq_some_iff.mp hd).1; simpa [intsD, upto_len] using this
    obtain rfl : d = .int ((i : Int) + 1) := by
      have : (intsD (upto 1 5))[i]? = some (.int (1 + (i : Int))) := by
        unfold intsD upto
        rw [List.getElem?_map, List.getElem?_map, List.getElem?_range (by simpa using hi)]; rfl
      rw [this] at hd; cases hd
      rw [Int.add_comm]
    refine wpAny_mono (law_turn FF H hi f X') (fun fl s₂ h₂ => ?_) fun _ _ e => e
    obtain ⟨rfl, ⟨h, tk, gs, rfl, hb⟩, X''⟩ := h₂
    obtain ⟨h', tk', gs', rfl, hb'⟩ := hJ
    exact ⟨rfl, ⟨h, tk, gs, rfl, fun q => hb (hb' q)⟩, X''⟩
  · rintro s' ⟨h', tk', gs, rfl, hb⟩ X'
    have e5 : wordsD number ((intsD (upto 1 5)).length + 1) = (rowsF number).map fun r => .bytes (wordF r) := by
      have : (intsD (upto 1 5)).length + 1 = 5 := by simp [intsD, upto_len]
      rw [this]; unfold wordsD
      rw [List.take_of_length_le (by rw [rowsF_len]; omega)]
    rw [e5] at X'
    refine st_returnA f X' (by intro p hp; obtain rfl := List.mem_singleton.mp hp; show (("words" : PySem.Str) == "__debug__") = false; decide) (d := .bool true) ?_ fun v h'' tk'' hk X'' r => ?_
    · refine Ev.cmp (d₁ := .lst (((rowsF number).map wordF).map .bytes)) (d₂ := .lst (((rowsF number).map wordF).map .bytes)) ?_ ?_ fun A Z s v₁ v₂ f' r₁ r₂ => opEqBytes (f'.le (by omega)) r₁ r₂
      · rw [List.map_map]; exact Ev.name rfl
      · have e : ((rowsF number).map wordF).map D.bytes = ((((rowsF number).map fun r => D.lst (intsD r)).filter fun _ => true).map outRow) := by
          rw [List.filter_eq_self.mpr (fun _ _ => rfl), List.map_map, List.map_map]
          refine List.map_congr_left fun r _ => ?_
          show D.bytes (wordF r) = D.bytes (wordF ((intsD r).map unInt))
          rw [unInt_ints]
        rw [e]
        refine Ev.comp (bindD := bind1 "row") (ok := fun _ => True) (EvIter.lst (Ev.name rfl)) (by rw [List.length_map, rowsF_len]; omega) (by decide +kernel) (frees_ok trivial) (tgt_local rfl) (fun _ _ => trivial) (fun _ _ => rfl) (fun d hd _ => ?_) (by intro _ _; rfl)
        obtain ⟨r, hr, rfl⟩ := List.mem_map.mp hd
        obtain ⟨j, hj, hjr⟩ := List.getElem_of_mem hr
        have hj5 : j < 5 := by rw [rowsF_len] at hj; exact hj
        have hrow : rowAt number j = r := by unfold rowAt; rw [List.getD_eq_getElem?_getD, List.getElem?_eq_getElem hj, hjr]; rfl
        show Ev U 100 _ _ _ (.bytes (wordF ((intsD r).map unInt)))
        rw [unInt_ints]
        exact Ev.callF (EvAll.cons (Ev.name rfl) EvAll.nil) rfl Fwo fun A Z s vs f' zok G rs => word_call Fwo (hrow ▸ H.len j hj5) (hrow ▸ H.bit j hj5) (f'.le (by omega)) zok G rs
    · obtain rfl := r.bool_inv
      exact hQ h'' tk'' gs X''.old hb
end
end Mine

namespace Mine

theorem str_ext {a b : PySem.Str} (h : a.cps.toList = b.cps.toList) : a = b := by
  cases a; cases b; simpa using h
theorem app_cps (a b : PySem.Str) : (a ++ b).cps.toList = a.cps.toList ++ b.cps.toList := by
  show (a.cps ++ b.cps).toList = _
  simp
def flat (us : List PySem.Str) : List Nat := us.flatMap (·.cps.toList)
theorem flat_nil : flat [] = [] := rfl
theorem flat_cons (u : PySem.Str) (us : List PySem.Str) : flat (u :: us) = u.cps.toList ++ flat us := rfl
theorem flat_app (us vs : List PySem.Str) : flat (us ++ vs) = flat us ++ flat vs := by simp [flat]
theorem join_flat : ∀ us : List PySem.Str, (Txt.join "" us).cps.toList = flat us := by
  have h : ∀ us : List PySem.Str, (Str.join "" us).cps.toList = flat us := by
    intro us
    induction us with
    | nil => rfl
    | cons u us ih =>
      cases us with
      | nil => simp [Str.join, flat]
      | cons v us =>
        show (u ++ "" ++ Str.join "" (v :: us)).cps.toList = _
        rw [app_cps, app_cps, ih, flat_cons]
        show u.cps.toList ++ [] ++ _ = _
        rw [List.append_nil]; rfl
  intro us
  have : Txt.join "" us = Str.join "" us := StrLaws.glued_eq_join _ _
  rw [this, h]
theorem len_cps (u : PySem.Str) : u.length = u.cps.toList.length := by simp [Str.length]

/-- a unit: a sign that is no backslash, or a backslash and a sign -/
inductive Unit1 : PySem.Str → Prop
  | one (c : Nat) (h : c ≠ 92) : Unit1 (one c)
  | two (c : Nat) : Unit1 (bsl ++ one c)
theorem bsl_cps : bsl.cps.toList = [92] := rfl
theorem one_cps (c : Nat) : (one c).cps.toList = [c] := rfl
theorem one_bsl (c : Nat) : (one c == bsl) = decide (c = 92) := by
  rw [Bool.eq_iff_iff, beq_iff_eq, decide_eq_true_iff]
  constructor
  · intro h
    have := congrArg (fun s => s.cps.toList) h
    rw [bsl_cps] at this
    simpa [one] using this
  · rintro rfl; rfl

theorem escU_bsl (i c : Nat) (cs : List Nat) : escU i false (92 :: c :: cs) = (((i + 1 : Nat) : Int), bsl ++ one c) :: escU (i + 2) false cs := by
  show (if (one 92 == bsl) = true then escU (i + 1) true (c :: cs) else _) = _
  rw [one_bsl, if_pos (by decide)]; rfl
theorem escU_one (i c : Nat) (cs : List Nat) (h : c ≠ 92) : escU i false (c :: cs) = ((i : Int), one c) :: escU (i + 1) false cs := by
  show (if (one c == bsl) = true then _ else ((i : Int), one c) :: escU (i + 1) false cs) = _
  rw [one_bsl, if_neg (by simpa using h)]
theorem escU_lone (i : Nat) : escU i false [92] = [((i : Int), bsl)] := by
  show (if (one 92 == bsl) = true then escU (i + 1) true [] else _) = _
  rw [one_bsl, if_pos (by decide)]; rfl

/-- the ends: nothing or a lone backslash -/
def EndOk (ends : List PySem.Str) : Prop := ends = [] ∨ ends = [bsl]
theorem esc_units {ends : List PySem.Str} (he : EndOk ends) : ∀ (us : List PySem.Str) (i : Nat), (∀ u ∈ us, Unit1 u) → escU i false (flat (us ++ ends)) = spotsF ((i : Int) - 1) (us ++ ends)
  | [], i, _ => by
    rcases he with rfl | rfl
    · rfl
    · show escU i false [92] = [((i : Int) - 1 + ((1 : Nat) : Int), bsl)]
      rw [escU_lone]
      congr 2; omega
  | u :: us, i, h => by
    have hu := h u (by simp)
    have hs := fun x hx => h x (List.mem_cons_of_mem _ hx)
    cases hu with
    | one c hc =>
      have ih := esc_units he us (i + 1) hs
      show escU i false (c :: flat (us ++ ends)) = ((i : Int) - 1 + ((1 : Nat) : Int), one c) :: spotsF ((i : Int) - 1 + ((1 : Nat) : Int)) (us ++ ends)
      rw [escU_one _ _ _ hc, ih]
      have e : (i : Int) - 1 + ((1 : Nat) : Int) = i := by omega
      have e2 : ((i + 1 : Nat) : Int) - 1 = i := by omega
      rw [e, e2]
    | two c =>
      have ih := esc_units he us (i + 2) hs
      show escU i false (92 :: c :: flat (us ++ ends)) = ((i : Int) - 1 + ((2 : Nat) : Int), bsl ++ one c) :: spotsF ((i : Int) - 1 + ((2 : Nat) : Int)) (us ++ ends)
      rw [escU_bsl, ih]
      have e : (i : Int) - 1 + ((2 : Nat) : Int) = ((i + 1 : Nat) : Int) := by omega
      have e2 : ((i + 2 : Nat) : Int) - 1 = ((i + 1 : Nat) : Int) := by omega
      rw [e, e2]

/-- the shears on units -/
def fin : List PySem.Str → Option (List PySem.Str) → List PySem.Str → List PySem.Str
  | P, none, [] => P
  | P, some h, [] => P ++ h
  | P, none, u :: us => if (u == quoteS) = true then fin P (some [quoteS]) us else fin (P ++ [u]) none us
  | P, some h, u :: us => if (u == quoteS) = true then fin P none us else fin P (some (h ++ [u])) us

theorem fin_q0 (P us : List PySem.Str) : fin P none (quoteS :: us) = fin P (some [quoteS]) us := by
  show (if (quoteS == quoteS) = true then _ else _) = _
  rw [if_pos (by decide)]
theorem fin_q1 (P h us : List PySem.Str) : fin P (some h) (quoteS :: us) = fin P none us := by
  show (if (quoteS == quoteS) = true then _ else _) = _
  rw [if_pos (by decide)]
theorem fin_0 {u : PySem.Str} (hu : u ≠ quoteS) (P us : List PySem.Str) : fin P none (u :: us) = fin (P ++ [u]) none us := by
  show (if (u == quoteS) = true then _ else _) = _
  rw [if_neg (by simpa using hu)]
theorem fin_1 {u : PySem.Str} (hu : u ≠ quoteS) (P h us : List PySem.Str) : fin P (some h) (u :: us) = fin P (some (h ++ [u])) us := by
  show (if (u == quoteS) = true then _ else _) = _
  rw [if_neg (by simpa using hu)]
theorem fin_0s : ∀ (ts : List PySem.Str) (P us : List PySem.Str), (∀ u ∈ ts, u ≠ quoteS) → fin P none (ts ++ us) = fin (P ++ ts) none us
  | [], P, us, _ => by simp
  | t :: ts, P, us, h => by
    rw [List.cons_append, fin_0 (h t (by simp)), fin_0s ts _ us fun u hu => h u (by simp [hu])]
    simp
theorem fin_1s : ∀ (ts : List PySem.Str) (P h us : List PySem.Str), (∀ u ∈ ts, u ≠ quoteS) → fin P (some h) (ts ++ us) = fin P (some (h ++ ts)) us
  | [], P, h, us, _ => by simp
  | t :: ts, P, h, us, hh => by
    rw [List.cons_append, fin_1 (hh t (by simp)), fin_1s ts _ _ us fun u hu => hh u (by simp [hu])]
    simp

/-- between start and the place that is opened, or the place at hand -/
def opAt : Option (List PySem.Str) → Nat → Option Nat
  | none, _ => none
  | some h, now => some (now - (flat h).length)
def hidL : Option (List PySem.Str) → List PySem.Str
  | none => []
  | some h => h

theorem cut_cps (x : PySem.Str) (a b : Nat) : (cut x a b).cps.toList = (x.cps.toList.drop a).take (b - a) := by simp [cut]

/-- what the shears leave, joined -/
def endS (x : PySem.Str) (r : Nat × List PySem.Str) : List Nat := flat (if ((r.1 : Int) < (x.length : Int)) then r.2 ++ [cut x r.1 x.length] else r.2)
theorem endS_eq {x : PySem.Str} {start : Nat} {res : List PySem.Str} (h : start ≤ x.length) : endS x (start, res) = flat res ++ x.cps.toList.drop start := by
  unfold endS
  dsimp only
  have hl := len_cps x
  split
  · rw [flat_app, flat_cons, flat_nil, List.append_nil, cut_cps, List.take_of_length_le (by rw [List.length_drop]; omega)]
  · rw [List.drop_eq_nil_of_le (by omega), List.append_nil]

/-- done: the units read; sh: shown ones of those behind the last start; P: all shown -/
theorem strip_units (x : PySem.Str) : ∀ (us done : List PySem.Str) (P sh : List PySem.Str) (H : Option (List PySem.Str)) (start : Nat) (res : List PySem.Str),
    x.cps.toList = flat done ++ flat us → flat P = flat res ++ flat sh → start ≤ (flat done).length → (flat done).drop start = flat sh ++ flat (hidL H) → (∀ u ∈ us, 1 ≤ u.length) →
    endS x (stripF x start (opAt H (flat done).length) res (spotsF (((flat done).length : Int) - 1) us)) = flat (fin P H us)
  | [], done, P, sh, H, start, res, hx, hP, hs, hd, _ => by
    show endS x (start, res) = _
    rw [flat_nil, List.append_nil] at hx
    rw [endS_eq (by rw [len_cps, hx]; exact hs), hx, hd]
    cases H with
    | none => show _ = flat P; rw [hP]; simp [hidL, flat]
    | some h => show _ = flat (P ++ h); rw [flat_app, hP, List.append_assoc]; rfl
  | u :: us, done, P, sh, H, start, res, hx, hP, hs, hd, hl => by
    have hu1 := hl u (by simp)
    have hl' : ∀ v ∈ us, 1 ≤ v.length := fun v hv => hl v (by simp [hv])
    have hx' : x.cps.toList = flat (done ++ [u]) ++ flat us := by rw [hx, flat_app, flat_cons, flat_cons, flat_nil]; simp
    have hn : (flat (done ++ [u])).length = (flat done).length + u.length := by rw [flat_app, List.length_append, flat_cons, flat_nil, List.append_nil, len_cps]
    have hnow : ((flat (done ++ [u])).length : Int) - 1 = ((flat done).length : Int) - 1 + (u.length : Int) := by rw [hn]; omega
    have hd1 : (flat (done ++ [u])).drop start = flat sh ++ flat (hidL H) ++ u.cps.toList := by
      rw [flat_app, List.drop_append_of_le_length hs, hd, flat_cons, flat_nil, List.append_nil]
    have hs1 : start ≤ (flat (done ++ [u])).length := by rw [hn]; omega
    show endS x (stripF x start (opAt H (flat done).length) res ((((flat done).length : Int) - 1 + (u.length : Int), u) :: spotsF (((flat done).length : Int) - 1 + (u.length : Int)) us)) = _
    rw [← hnow]
    by_cases hq : u = quoteS
    · subst hq
      have hq1 : quoteS.length = 1 := rfl
      have hpos : (((flat (done ++ [quoteS])).length : Int) - 1).toNat = (flat done).length := by rw [hn, hq1]; omega
      cases H with
      | none =>
        rw [fin_q0]
        show endS x (if (quoteS == quoteS) = true then stripF x start (some (((flat (done ++ [quoteS])).length : Int) - 1).toNat) res (spotsF (((flat (done ++ [quoteS])).length : Int) - 1) us) else _) = _
        rw [if_pos (by decide), hpos]
        have := strip_units x us (done ++ [quoteS]) P sh (some [quoteS]) start res hx' hP hs1 (by rw [hd1]; simp [hidL, flat]) hl'
        have e : opAt (some [quoteS]) (flat (done ++ [quoteS])).length = some (flat done).length := by
          show some ((flat (done ++ [quoteS])).length - 1) = _
          rw [hn, hq1]; rfl
        rw [e] at this
        exact this
      | some h =>
        rw [fin_q1]
        show endS x (if (quoteS == quoteS) = true then stripF x ((((flat (done ++ [quoteS])).length : Int) - 1).toNat + 1) none (if ((start : Int) != (((flat done).length - (flat h).length : Nat) : Int)) = true then res ++ [cut x start ((flat done).length - (flat h).length)] else res) (spotsF (((flat (done ++ [quoteS])).length : Int) - 1) us) else _) = _
        rw [if_pos (by decide), hpos]
        have hlen := congrArg List.length hd
        rw [List.length_drop, List.length_append] at hlen
        change (flat done).length - start = (flat sh).length + (flat h).length at hlen
        have hres : flat P = flat (if ((start : Int) != (((flat done).length - (flat h).length : Nat) : Int)) = true then res ++ [cut x start ((flat done).length - (flat h).length)] else res) ++ flat [] := by
          rw [flat_nil, List.append_nil, hP]
          split
          · rw [flat_app, flat_cons, flat_nil, List.append_nil, cut_cps, hx, List.drop_append_of_le_length hs, hd]
            have e : (flat done).length - (flat h).length - start = (flat sh).length := by omega
            rw [e, List.append_assoc, List.take_left']
            rfl
          · rename_i hne
            have : start = (flat done).length - (flat h).length := by
              have h0 : (start : Int) = (((flat done).length - (flat h).length : Nat) : Int) := by simpa using hne
              omega
            have : (flat sh).length = 0 := by omega
            rw [List.eq_nil_of_length_eq_zero this, List.append_nil]
        have hst : (flat (done ++ [quoteS])).length = (flat done).length + 1 := by rw [hn, hq1]
        have := strip_units x us (done ++ [quoteS]) P [] none ((flat done).length + 1) _ hx' hres (by rw [hst]; exact Nat.le_refl _) (by rw [List.drop_eq_nil_of_le (by rw [hst]; exact Nat.le_refl _)]; rfl) hl'
        exact this
    · cases H with
      | none =>
        rw [fin_0 hq]
        show endS x (if (u == quoteS) = true then _ else stripF x start none res (spotsF (((flat (done ++ [u])).length : Int) - 1) us)) = _
        rw [if_neg (by simpa using hq)]
        exact strip_units x us (done ++ [u]) (P ++ [u]) (sh ++ [u]) none start res hx' (by rw [flat_app, flat_app, hP, List.append_assoc]) hs1 (by rw [hd1]; simp [hidL, flat]) hl'
      | some h =>
        rw [fin_1 hq]
        show endS x (if (u == quoteS) = true then _ else stripF x start (some ((flat done).length - (flat h).length)) res (spotsF (((flat (done ++ [u])).length : Int) - 1) us)) = _
        rw [if_neg (by simpa using hq)]
        have := strip_units x us (done ++ [u]) P sh (some (h ++ [u])) start res hx' hP hs1 (by rw [hd1]; simp [hidL, flat]) hl'
        have e : opAt (some (h ++ [u])) (flat (done ++ [u])).length = some ((flat done).length - (flat h).length) := by
          show some ((flat (done ++ [u])).length - (flat (h ++ [u])).length) = _
          rw [hn, flat_app, List.length_append, flat_cons, flat_nil, List.append_nil, ← len_cps]
          congr 1; omega
        rw [e] at this
        exact this

theorem Unit1.len {u : PySem.Str} (h : Unit1 u) : 1 ≤ u.length ∧ u.length ≤ 2 := by
  cases h with
  | one c _ => exact ⟨Nat.le_refl _, by show 1 ≤ 2; omega⟩
  | two c => exact ⟨by show 1 ≤ 2; omega, Nat.le_refl _⟩
theorem fin_plain : ∀ us : List PySem.Str, (∀ u ∈ us, u ≠ quoteS) → fin [] none us = us := fun us h => by
  have := fin_0s us [] [] h
  rw [List.append_nil] at this
  rw [this]; rfl
/-- _strip_quoted_realnames on units -/
theorem strip_eq {us ends : List PySem.Str} (he : EndOk ends) (hu : ∀ u ∈ us, Unit1 u) : stripS (Txt.join "" (us ++ ends)) = Txt.join "" (fin [] none (us ++ ends)) := by
  apply str_ext
  rw [join_flat]
  unfold stripS
  have h1 : ∀ u ∈ us ++ ends, 1 ≤ u.length := fun u hm => by
    rcases List.mem_append.mp hm with hm | hm
    · exact (hu u hm).len.1
    · rcases he with rfl | rfl
      · simp at hm
      · rw [List.mem_singleton.mp hm]; exact Nat.le_refl _
  split
  · have := strip_units (Txt.join "" (us ++ ends)) (us ++ ends) [] [] [] none 0 [] (by rw [join_flat]; rfl) rfl (Nat.le_refl _) rfl h1
    rw [← this]
    show (Txt.join "" _).cps.toList = _
    rw [join_flat]
    have e := esc_units he us 0 hu
    rw [join_flat, e]
    rfl
  · rename_i hno
    rw [join_flat] at hno
    rw [join_flat, fin_plain]
    rintro u hm rfl
    apply hno
    unfold flat
    exact List.mem_flatMap.mpr ⟨quoteS, hm, by decide⟩
end Mine

namespace Mine

theorem upto_snoc {a n : Int} (h : a ≤ n) : upto a (n + 1) = upto a n ++ [n] := by
  unfold upto
  have e : (n + 1 - a).toNat = (n - a).toNat + 1 := by omega
  have e2 : a + ((n - a).toNat : Int) = n := by omega
  rw [e, List.range_succ, List.map_append, List.map_singleton, e2]
theorem upto_nil {a n : Int} (h : n ≤ a) : upto a n = [] := by
  unfold upto
  have e : (n - a).toNat = 0 := by omega
  rw [e]; rfl
theorem maxI_eq {a m : Int} {l : List Int} (h1 : a ≤ m) (h2 : ∀ n ∈ l, n ≤ m) (h3 : a = m ∨ m ∈ l) : maxI a l = m := by
  obtain ⟨g1, g2⟩ := maxI_ge l a
  have hle : maxI a l ≤ m := by
    rcases maxI_mem l a with h | h
    · rw [h]; exact h1
    · exact h2 _ h
  rcases h3 with rfl | h3
  · omega
  · have := g2 _ h3; omega

/-- the tails of the menu -/
def Menu (tails : List (List PySem.Str)) : Prop := ∀ p : Int, 0 ≤ p → p < 16 → tails.getD p.toNat [] ∈ menuL
theorem menu_two : ∀ t ∈ menuL, t = [quoteS, quoteS] ∨ ∀ u ∈ t, u ≠ quoteS := by decide
theorem chr_ne {p : Int} (h0 : 0 ≤ p) : chrS p ≠ quoteS := by
  intro h
  have := congrArg (fun s => s.cps.toList) h
  have h2 : [(97 + p).toNat] = [34] := this
  have h3 : (97 + p).toNat = 34 := List.head_eq_of_cons_eq h2
  omega

def placeU (bits : List Int) (tails : List (List PySem.Str)) (p : Int) : List PySem.Str := (if (bits.getD p.toNat 0 == 1) = true then [quoteS] else []) ++ (chrS p :: tails.getD p.toNat [])
def shownN (c : List Int) (n : Int) : List Int := (upto 0 n).filter fun p => c.getD p.toNat 0 == 0
def openedN (c : List Int) (n : Int) : Int := 1 + maxI (-1) (shownN c n)
def behindN (c : List Int) (tails : List (List PySem.Str)) (n : Int) : Int := maxI (openedN c n) (((upto (openedN c n) n).filter fun p => (tails.getD p.toNat []).any (· == quoteS)).map (· + 1))
def pendN (c : List Int) (tails : List (List PySem.Str)) (n : Int) : Option (List PySem.Str) := if n = 0 ∨ c.getD (n - 1).toNat 0 = 0 then none else some (quoteS :: unitsF tails (upto (behindN c tails n) n))

theorem unitsF_app (tails : List (List PySem.Str)) (a b : List Int) : unitsF tails (a ++ b) = unitsF tails a ++ unitsF tails b := by simp [unitsF]
theorem unitsF_one (tails : List (List PySem.Str)) (p : Int) : unitsF tails [p] = chrS p :: ((tails.getD p.toNat []).filter (· != quoteS)) := by simp [unitsF]
theorem filt_one {α : Type} (p : α → Bool) (x : α) : [x].filter p = if p x = true then [x] else [] := by rw [List.filter_cons, List.filter_nil]
theorem shownN_succ {c : List Int} {n : Int} (h : 0 ≤ n) : shownN c (n + 1) = if c.getD n.toNat 0 = 0 then shownN c n ++ [n] else shownN c n := by
  unfold shownN
  rw [upto_snoc h, List.filter_append, filt_one]
  by_cases e : c.getD n.toNat 0 = 0
  · rw [if_pos e, if_pos (by rw [e]; rfl)]
  · rw [if_neg e, if_neg (by simpa using e), List.append_nil]
theorem shownN_mem {c : List Int} {n p : Int} : p ∈ shownN c n ↔ 0 ≤ p ∧ p < n ∧ c.getD p.toNat 0 = 0 := by
  unfold shownN
  rw [List.mem_filter, upto_mem]
  simp [and_assoc]
theorem openedN_le {c : List Int} {n : Int} (h : 0 ≤ n) : 0 ≤ openedN c n ∧ openedN c n ≤ n := by
  unfold openedN
  have := (maxI_ge (shownN c n) (-1)).1
  rcases maxI_mem (shownN c n) (-1) with e | e
  · omega
  · have := (shownN_mem.mp e).2.1; omega
theorem openedN_end {c : List Int} {n : Int} (h : 0 ≤ n) (hz : n = 0 ∨ c.getD (n - 1).toNat 0 = 0) : openedN c n = n := by
  unfold openedN
  rcases hz with rfl | hz
  · rfl
  · by_cases h0 : n = 0
    · subst h0; rfl
    · rw [maxI_eq (m := n - 1) (by omega) (fun p hp => by have := (shownN_mem.mp hp).2.1; omega) (.inr (shownN_mem.mpr ⟨by omega, by omega, hz⟩))]
      omega
theorem behindN_le {c : List Int} {tails : List (List PySem.Str)} {n : Int} (h : 0 ≤ n) : 0 ≤ behindN c tails n ∧ behindN c tails n ≤ n := by
  unfold behindN
  have h1 := openedN_le (c := c) h
  have h2 := (maxI_ge (((upto (openedN c n) n).filter fun p => (tails.getD p.toNat []).any (· == quoteS)).map (· + 1)) (openedN c n)).1
  refine ⟨by omega, ?_⟩
  rcases maxI_mem (((upto (openedN c n) n).filter fun p => (tails.getD p.toNat []).any (· == quoteS)).map (· + 1)) (openedN c n) with e | e
  · omega
  · obtain ⟨p, hp, e2⟩ := List.mem_map.mp e
    have := (upto_mem.mp (List.mem_filter.mp hp).1).2
    omega
theorem behindN_end {c : List Int} {tails : List (List PySem.Str)} {n : Int} (h : 0 ≤ n) (hz : n = 0 ∨ c.getD (n - 1).toNat 0 = 0) : behindN c tails n = n := by
  unfold behindN
  rw [openedN_end h hz, upto_nil (Int.le_refl _)]; rfl

/-- one place: the mark ahead -/
theorem step_mark {b c : List Int} {tails : List (List PySem.Str)} {n : Int} (h0 : 0 ≤ n) (hc : c.getD n.toNat 0 = 0 ∨ c.getD n.toNat 0 = 1) (hb : b.getD n.toNat 0 = 0 ∨ b.getD n.toNat 0 = 1)
    (hr : if n = 0 then c.getD n.toNat 0 = b.getD n.toNat 0 else c.getD n.toNat 0 = (c.getD (n - 1).toNat 0 + b.getD n.toNat 0) % 2) (hp : n = 0 ∨ c.getD (n - 1).toNat 0 = 0 ∨ c.getD (n - 1).toNat 0 = 1) (P us : List PySem.Str) :
    fin P (pendN c tails n) ((if (b.getD n.toNat 0 == 1) = true then [quoteS] else []) ++ us) = fin P (if c.getD n.toNat 0 = 0 then none else some (quoteS :: unitsF tails (upto (behindN c tails n) n))) us := by
  unfold pendN
  by_cases hz : n = 0 ∨ c.getD (n - 1).toNat 0 = 0
  · rw [if_pos hz]
    have e : c.getD n.toNat 0 = b.getD n.toNat 0 := by
      split at hr
      · exact hr
      · rename_i hn
        rcases hz with hz | hz
        · exact absurd hz hn
        · rw [hz] at hr; omega
    rw [behindN_end h0 hz, upto_nil (Int.le_refl _), e]
    rcases hb with hb | hb
    · rw [hb, if_neg (by decide), if_pos rfl]; rfl
    · rw [hb, if_pos (by decide), if_neg (by decide), List.singleton_append, fin_q0]; rfl
  · rw [if_neg hz]
    have hn : n ≠ 0 := fun h => hz (.inl h)
    have h1 : c.getD (n - 1).toNat 0 = 1 := by
      rcases hp with h | h | h
      · exact absurd h hn
      · exact absurd (.inr h) hz
      · exact h
    rw [if_neg hn, h1] at hr
    rcases hb with hb | hb
    · rw [hb] at hr
      have hr' : c.getD n.toNat 0 = 1 := hr
      rw [hb, hr', if_neg (by decide), if_neg (by decide)]; rfl
    · rw [hb] at hr
      have hr' : c.getD n.toNat 0 = 0 := hr
      rw [hb, hr', if_pos (by decide), if_pos rfl, List.singleton_append, fin_q1]
theorem filt_plain {t : List PySem.Str} (h : ∀ u ∈ t, u ≠ quoteS) : t.filter (· != quoteS) = t := by
  refine List.filter_eq_self.mpr fun u hu => ?_
  simpa using h u hu
theorem any_plain {t : List PySem.Str} (h : ∀ u ∈ t, u ≠ quoteS) : t.any (· == quoteS) = false := by
  rw [List.any_eq_false]
  intro u hu
  simpa using h u hu
/-- one place shown -/
theorem step_shown {t : List PySem.Str} (ht : t ∈ menuL) {p : Int} (h0 : 0 ≤ p) (P us : List PySem.Str) : fin P none ((chrS p :: t) ++ us) = fin (P ++ (chrS p :: t.filter (· != quoteS))) none us := by
  rw [List.cons_append, fin_0 (chr_ne h0)]
  rcases menu_two t ht with rfl | h
  · show fin _ none (quoteS :: quoteS :: us) = _
    rw [fin_q0, fin_q1]; rfl
  · rw [fin_0s t _ _ h, filt_plain h, List.append_assoc]; rfl
/-- one place hidden -/
theorem step_hidden {t : List PySem.Str} (ht : t ∈ menuL) {p : Int} (h0 : 0 ≤ p) (P h us : List PySem.Str) : fin P (some h) ((chrS p :: t) ++ us) = fin P (some (if t.any (· == quoteS) = true then [quoteS] else h ++ (chrS p :: t.filter (· != quoteS)))) us := by
  rw [List.cons_append, fin_1 (chr_ne h0)]
  rcases menu_two t ht with rfl | hh
  · show fin _ _ (quoteS :: quoteS :: us) = _
    rw [fin_q1, fin_q0, if_pos (by decide)]
  · rw [fin_1s t _ _ _ hh, filt_plain hh, any_plain hh, if_neg (by decide), List.append_assoc]; rfl
theorem step_place {b c : List Int} {tails : List (List PySem.Str)} (hm : Menu tails) {n : Int} (h0 : 0 ≤ n) (h16 : n < 16) (hc : c.getD n.toNat 0 = 0 ∨ c.getD n.toNat 0 = 1) (hb : b.getD n.toNat 0 = 0 ∨ b.getD n.toNat 0 = 1)
    (hr : if n = 0 then c.getD n.toNat 0 = b.getD n.toNat 0 else c.getD n.toNat 0 = (c.getD (n - 1).toNat 0 + b.getD n.toNat 0) % 2) (hp : n = 0 ∨ c.getD (n - 1).toNat 0 = 0 ∨ c.getD (n - 1).toNat 0 = 1) (us : List PySem.Str) :
    fin (unitsF tails (shownN c n)) (pendN c tails n) (placeU b tails n ++ us) = fin (unitsF tails (shownN c (n + 1))) (pendN c tails (n + 1)) us := by
  unfold placeU
  have ht := hm n h0 h16
  have e1 : n + 1 - 1 = n := by omega
  have e2 : n + 1 ≠ 0 := by omega
  rw [List.append_assoc, step_mark h0 hc hb hr hp, shownN_succ h0]
  rcases hc with hc | hc
  · rw [hc, if_pos rfl, if_pos rfl, step_shown ht h0, unitsF_app, unitsF_one]
    unfold pendN
    rw [e1, if_pos (.inr hc)]
  · rw [hc, if_neg (by decide), if_neg (by decide), step_hidden ht h0]
    have hs : shownN c (n + 1) = shownN c n := by rw [shownN_succ h0, hc, if_neg (by decide)]
    have ho : openedN c (n + 1) = openedN c n := by unfold openedN; rw [hs]
    have hol := openedN_le (c := c) h0
    have hpend : pendN c tails (n + 1) = some (quoteS :: unitsF tails (upto (behindN c tails (n + 1)) (n + 1))) := by
      unfold pendN
      rw [e1, if_neg (by rintro (h | h); exact e2 h; rw [hc] at h; cases h)]
    rw [hpend]
    by_cases hq : (tails.getD n.toNat []).any (· == quoteS) = true
    · rw [if_pos hq]
      have : behindN c tails (n + 1) = n + 1 := by
        unfold behindN
        refine maxI_eq (by omega) (fun p hp => ?_) (.inr ?_)
        · obtain ⟨q, hq, e⟩ := List.mem_map.mp hp
          have := (upto_mem.mp (List.mem_filter.mp hq).1).2
          omega
        · exact List.mem_map.mpr ⟨n, List.mem_filter.mpr ⟨upto_mem.mpr ⟨by omega, by omega⟩, hq⟩, rfl⟩
      rw [this, upto_nil (Int.le_refl _)]; rfl
    · rw [if_neg hq]
      have : behindN c tails (n + 1) = behindN c tails n := by
        unfold behindN
        rw [ho, upto_snoc hol.2, List.filter_append, filt_one, if_neg hq, List.append_nil]
      rw [this, upto_snoc (behindN_le h0).2, unitsF_app, unitsF_one]; rfl

/-- the next row is the parity up to the place -/
structure NextRow (b c : List Int) : Prop where
  b01 : ∀ n : Int, b.getD n.toNat 0 = 0 ∨ b.getD n.toNat 0 = 1
  c01 : ∀ n : Int, c.getD n.toNat 0 = 0 ∨ c.getD n.toNat 0 = 1
  rel : ∀ n : Int, 0 ≤ n → n < 16 → if n = 0 then c.getD n.toNat 0 = b.getD n.toNat 0 else c.getD n.toNat 0 = (c.getD (n - 1).toNat 0 + b.getD n.toNat 0) % 2
theorem fin_places {b c : List Int} {tails : List (List PySem.Str)} (hm : Menu tails) (R : NextRow b c) : ∀ (k : Nat), k ≤ 16 → ∀ us, fin [] none ((upto 0 k).flatMap (placeU b tails) ++ us) = fin (unitsF tails (shownN c k)) (pendN c tails k) us
  | 0, _, us => rfl
  | k + 1, hk, us => by
    have e : ((k + 1 : Nat) : Int) = (k : Int) + 1 := by omega
    rw [e, upto_snoc (by omega), List.flatMap_append, List.append_assoc, fin_places hm R k (by omega), List.flatMap_singleton]
    exact step_place hm (by omega) (by omega) (R.c01 _) (R.b01 _) (R.rel _ (by omega) (by omega)) (.inr (R.c01 _)) us
theorem ends_plain {ends : List PySem.Str} (he : EndOk ends) : ∀ u ∈ ends, u ≠ quoteS := by
  rcases he with rfl | rfl
  · simp
  · intro u hu; rw [List.mem_singleton.mp hu]; decide
theorem fin_line {b c : List Int} {tails ends : List _} (hm : Menu tails) (he : EndOk ends) (R : NextRow b c) : fin [] none ((upto 0 16).flatMap (placeU b tails) ++ ends) = leftF c tails ends := by
  have := fin_places hm R 16 (by omega) ends
  rw [show ((16 : Nat) : Int) = 16 from rfl] at this
  rw [this]
  unfold pendN leftF
  have e15 : ((16 : Int) - 1).toNat = 15 := rfl
  rw [e15]
  have h15 := R.c01 15
  change c.getD 15 0 = 0 ∨ c.getD 15 0 = 1 at h15
  rcases h15 with h | h
  · rw [if_pos (.inr h), h, if_neg (by decide)]
    have := fin_0s ends (unitsF tails (shownN c 16)) [] (ends_plain he)
    rw [List.append_nil] at this
    rw [this]; rfl
  · rw [if_neg (by rintro (h' | h'); cases h'; rw [h] at h'; cases h'), h, if_pos (by decide)]
    have := fin_1s ends (unitsF tails (shownN c 16)) (quoteS :: unitsF tails (upto (behindN c tails 16) 16)) [] (ends_plain he)
    rw [List.append_nil] at this
    rw [this]
    show _ ++ ((quoteS :: unitsF tails (upto (behindN c tails 16) 16)) ++ ends) = unitsF tails (shownN c 16) ++ [quoteS] ++ unitsF tails (upto (behindN c tails 16) 16) ++ ends
    simp
theorem flat_flatMap (f : Int → List PySem.Str) (ps : List Int) : flat (ps.flatMap f) = ps.flatMap fun p => flat (f p) := by unfold flat; rw [List.flatMap_assoc]
theorem piece_flat (b : List Int) (tails : List (List PySem.Str)) (p : Int) : (pieceF b tails p).cps.toList = flat (placeU b tails p) := by
  unfold pieceF placeU
  rw [app_cps, app_cps, join_flat, flat_app, flat_cons]
  split
  · simp [flat]
  · rw [flat_nil]; rfl
theorem line_eq (b : List Int) (tails : List (List PySem.Str)) (ends : List PySem.Str) : lineF b tails ends = Txt.join "" ((upto 0 16).flatMap (placeU b tails) ++ ends) := by
  apply str_ext
  unfold lineF
  rw [join_flat, join_flat, flat_app, flat_app, flat_flatMap]
  congr 1
  unfold flat
  rw [List.flatMap_map]
  congr 1
  funext p
  exact piece_flat b tails p
theorem menu_unit : ∀ t ∈ menuL, ∀ u ∈ t, Unit1 u := by
  intro t ht u hu
  have : (u.cps.size = 1 ∧ u.cps.getD 0 0 ≠ 92) ∨ (u.cps.size = 2 ∧ u.cps.getD 0 0 = 92) := by
    revert t u; decide
  rcases this with ⟨h1, h2⟩ | ⟨h1, h2⟩
  · have e : u = one (u.cps.getD 0 0) := by
      apply str_ext
      obtain ⟨⟨l⟩⟩ := u
      match l, h1 with
      | [a], _ => rfl
    rw [e]; exact .one _ h2
  · have e : u = bsl ++ one (u.cps.getD 1 0) := by
      apply str_ext
      obtain ⟨⟨l⟩⟩ := u
      match l, h1 with
      | [a, b], _ => 
        have : a = 92 := h2
        subst this; rfl
    rw [e]; exact .two _
theorem chr_unit {p : Int} (h0 : 0 ≤ p) : Unit1 (chrS p) := .one (97 + p).toNat (by omega)
theorem quote_unit : Unit1 quoteS := .one 34 (by decide)
theorem place_unit {b : List Int} {tails : List (List PySem.Str)} (hm : Menu tails) {p : Int} (h0 : 0 ≤ p) (h16 : p < 16) : ∀ u ∈ placeU b tails p, Unit1 u := by
  intro u hu
  unfold placeU at hu
  rcases List.mem_append.mp hu with hu | hu
  · split at hu
    · rw [List.mem_singleton.mp hu]; exact quote_unit
    · simp at hu
  · rcases List.mem_cons.mp hu with rfl | hu
    · exact chr_unit h0
    · exact menu_unit _ (hm p h0 h16) u hu
theorem strip_line {b c : List Int} {tails ends : List _} (hm : Menu tails) (he : EndOk ends) (R : NextRow b c) : stripS (lineF b tails ends) = Txt.join "" (leftF c tails ends) := by
  rw [line_eq, strip_eq he, fin_line hm he R]
  intro u hu
  obtain ⟨p, hp, hu⟩ := List.mem_flatMap.mp hu
  have := upto_mem.mp hp
  exact place_unit hm this.1 this.2 u hu
end Mine

namespace Mine

/-- what is read ahead of a bare mark -/
theorem takeWhile_all {α : Type} (p : α → Bool) : ∀ l : List α, (∀ u ∈ l, p u = true) → l.takeWhile p = l
  | [], _ => rfl
  | u :: l, h => by rw [List.takeWhile_cons, if_pos (h u (by simp)), takeWhile_all p l fun v hv => h v (by simp [hv])]
theorem takeWhile_stop {α : Type} (p : α → Bool) (q : α) (hq : p q = false) (r : List α) : ∀ l : List α, (∀ u ∈ l, p u = true) → (l ++ q :: r).takeWhile p = l
  | [], _ => by rw [List.nil_append, List.takeWhile_cons, if_neg (by rw [hq]; decide)]
  | u :: l, h => by rw [List.cons_append, List.takeWhile_cons, if_pos (h u (by simp)), takeWhile_stop p q hq r l fun v hv => h v (by simp [hv])]
theorem units_plain {tails : List (List PySem.Str)} {ps : List Int} (h : ∀ p ∈ ps, 0 ≤ p) : ∀ u ∈ unitsF tails ps, u ≠ quoteS := by
  intro u hu
  obtain ⟨p, hp, hu⟩ := List.mem_flatMap.mp hu
  rcases List.mem_cons.mp hu with rfl | hu
  · exact chr_ne (h p hp)
  · simpa using (List.mem_filter.mp hu).2
theorem cut_left {c : List Int} {tails ends : List _} (he : EndOk ends) (h15 : c.getD 15 0 = 0 ∨ c.getD 15 0 = 1) : cutShown (leftF c tails ends) = unitsF tails (shownF c) ++ (if c.getD 15 0 = 1 then [] else ends) := by
  have h1 : ∀ u ∈ unitsF tails (shownF c), (u != quoteS) = true := fun u hu => by
    have := units_plain (tails := tails) (ps := shownF c) (fun p hp => (upto_mem.mp (List.mem_filter.mp hp).1).1) u hu
    simpa using this
  unfold cutShown leftF
  rcases h15 with h | h
  · rw [h, if_neg (by decide), if_neg (by decide)]
    refine takeWhile_all _ _ fun u hu => ?_
    rcases List.mem_append.mp hu with hu | hu
    · exact h1 u hu
    · simpa using ends_plain he u hu
  · rw [h, if_pos (by decide), if_pos rfl, List.append_nil, List.append_assoc, List.append_assoc, List.singleton_append]
    exact takeWhile_stop _ _ (by decide) _ _ h1
theorem menu_letter : ∀ t ∈ menuL, ∀ u ∈ t, ∀ p ∈ upto 0 16, u ≠ chrS p := by decide
theorem end_letter {ends : List PySem.Str} (he : EndOk ends) : ∀ u ∈ ends, ∀ p ∈ upto 0 16, u ≠ chrS p := by
  rcases he with rfl | rfl
  · simp
  · intro u hu; rw [List.mem_singleton.mp hu]; revert u; decide
theorem chr_inj {p q : Int} (hp : 0 ≤ p) (hq : 0 ≤ q) (h : chrS p = chrS q) : p = q := by
  have := congrArg (fun s => s.cps.toList) h
  have h2 : [(97 + p).toNat] = [(97 + q).toNat] := this
  have h3 : (97 + p).toNat = (97 + q).toNat := List.head_eq_of_cons_eq h2
  omega
theorem shown_any {c : List Int} {tails ends : List _} (hm : Menu tails) (he : EndOk ends) (h15 : c.getD 15 0 = 0 ∨ c.getD 15 0 = 1) {p : Int} (hp : p ∈ upto 0 16) :
    ((cutShown (leftF c tails ends)).any (· == chrS p)) = (c.getD p.toNat 0 == 0) := by
  have hb := upto_mem.mp hp
  rw [cut_left he h15, Bool.eq_iff_iff, List.any_eq_true, beq_iff_eq]
  constructor
  · rintro ⟨u, hu, e⟩
    have e : u = chrS p := by simpa using e
    rcases List.mem_append.mp hu with hu | hu
    · obtain ⟨q, hq, hu⟩ := List.mem_flatMap.mp hu
      have hq1 := List.mem_filter.mp hq
      have hq2 := upto_mem.mp hq1.1
      rcases List.mem_cons.mp hu with rfl | hu
      · have := chr_inj hq2.1 hb.1 e
        subst this
        simpa using hq1.2
      · exact absurd e (menu_letter _ (hm q hq2.1 hq2.2) u (List.mem_filter.mp hu).1 p hp)
    · split at hu
      · simp at hu
      · exact absurd e (end_letter he u hu p hp)
  · intro h
    refine ⟨chrS p, List.mem_append_left _ (List.mem_flatMap.mpr ⟨p, List.mem_filter.mpr ⟨hp, by rw [h]; rfl⟩, by simp⟩), by simp⟩
theorem carried_fold {c : List Int} (sh : List PySem.Str) : ∀ (ps : List Int) (a : Int), (∀ p ∈ ps, (sh.any (· == chrS p)) = (c.getD p.toNat 0 == 0) ∧ (c.getD p.toNat 0 = 0 ∨ c.getD p.toNat 0 = 1)) →
    ps.foldl (fun c p => c * 2 + (if (sh.any (· == chrS p)) = true then 0 else 1)) a = (ps.map fun p => c.getD p.toNat 0).foldl (fun c b => c * 2 + b) a
  | [], _, _ => rfl
  | p :: ps, a, h => by
    obtain ⟨h1, h2⟩ := h p (by simp)
    rw [List.map_cons, List.foldl_cons, List.foldl_cons, h1]
    have : (if (c.getD p.toNat 0 == 0) = true then (0 : Int) else 1) = c.getD p.toNat 0 := by
      rcases h2 with h2 | h2 <;> rw [h2] <;> rfl
    rw [this]
    exact carried_fold sh ps _ fun q hq => h q (by simp [hq])
theorem row_list {c : List Int} (h : c.length = 16) : (upto 0 16).map (fun p => c.getD p.toNat 0) = c := by
  match c, h with
  | [a0, a1, a2, a3, a4, a5, a6, a7, a8, a9, a10, a11, a12, a13, a14, a15], _ => rfl
theorem carried_left {c : List Int} {tails ends : List _} (hm : Menu tails) (he : EndOk ends) (hl : c.length = 16) (h01 : ∀ n : Int, c.getD n.toNat 0 = 0 ∨ c.getD n.toNat 0 = 1) :
    carriedF (cutShown (leftF c tails ends)) (upto 0 16) = numOf c := by
  unfold carriedF numOf
  rw [carried_fold (c := c) _ _ _ fun p hp => ⟨shown_any hm he (h01 15) hp, h01 p⟩, row_list hl]

/-- letters and words -/
theorem byte_ints (b : Array UInt8) : KBw.bInts b = b.toList.map fun u => (u.toNat : Int) := rfl
theorem len16 {row : List Int} (h : row.length = 16) : ∃ a0 a1 a2 a3 a4 a5 a6 a7 a8 a9 a10 a11 a12 a13 a14 a15, row = [a0, a1, a2, a3, a4, a5, a6, a7, a8, a9, a10, a11, a12, a13, a14, a15] := by
  match row, h with
  | [a0, a1, a2, a3, a4, a5, a6, a7, a8, a9, a10, a11, a12, a13, a14, a15], _ => exact ⟨a0, a1, a2, a3, a4, a5, a6, a7, a8, a9, a10, a11, a12, a13, a14, a15, rfl⟩
/-- a row's letters -/
structure Letters (row : List Int) (l0 l1 l2 l3 : Nat) : Prop where
  le : lettersF row = [(l0 : Int), (l1 : Int), (l2 : Int), (l3 : Int)]
  b0 : l0 < 16
  b1 : l1 < 16
  b2 : l2 < 16
  b3 : l3 < 16
  num : numOf row = 4096 * l0 + 256 * l1 + 16 * l2 + l3
theorem letters_of {row : List Int} (h : row.length = 16) (h01 : ∀ x ∈ row, x = 0 ∨ x = 1) : ∃ l0 l1 l2 l3, Letters row l0 l1 l2 l3 := by
  obtain ⟨a0, a1, a2, a3, a4, a5, a6, a7, a8, a9, a10, a11, a12, a13, a14, a15, rfl⟩ := len16 h
  have hh : ∀ x ∈ [a0, a1, a2, a3, a4, a5, a6, a7, a8, a9, a10, a11, a12, a13, a14, a15], 0 ≤ x ∧ x ≤ 1 := fun x hx => by
    rcases h01 x hx with h | h <;> omega
  simp only [List.forall_mem_cons] at hh
  obtain ⟨h0, h1, h2, h3, h4, h5, h6, h7, h8, h9, h10, h11, h12, h13, h14, h15, _⟩ := hh
  refine ⟨(8 * a0 + 4 * a1 + 2 * a2 + a3).toNat, (8 * a4 + 4 * a5 + 2 * a6 + a7).toNat, (8 * a8 + 4 * a9 + 2 * a10 + a11).toNat, (8 * a12 + 4 * a13 + 2 * a14 + a15).toNat, ?_, by omega, by omega, by omega, by omega, ?_⟩
  · rw [Int.toNat_of_nonneg (by omega), Int.toNat_of_nonneg (by omega), Int.toNat_of_nonneg (by omega), Int.toNat_of_nonneg (by omega)]; rfl
  · rw [Int.toNat_of_nonneg (by omega), Int.toNat_of_nonneg (by omega), Int.toNat_of_nonneg (by omega), Int.toNat_of_nonneg (by omega)]
    show (((((((((((((((((0 : Int) * 2 + a0) * 2 + a1) * 2 + a2) * 2 + a3) * 2 + a4) * 2 + a5) * 2 + a6) * 2 + a7) * 2 + a8) * 2 + a9) * 2 + a10) * 2 + a11) * 2 + a12) * 2 + a13) * 2 + a14) * 2 + a15) = _
    omega
def letB (l : Nat) : UInt8 := UInt8.ofNat (65 + l)
def wordB (l0 l1 l2 l3 : Nat) : List UInt8 := if 0 < l0 then [letB l0, letB l1, letB l2, letB l3] else if 0 < l1 then [letB l1, letB l2, letB l3] else if 0 < l2 then [letB l2, letB l3] else if 0 < l3 then [letB l3] else []
theorem byte_one (l : Nat) : (65 + (l : Int)).toNat.toUInt8 = letB l := by
  have : (65 + (l : Int)).toNat = 65 + l := by omega
  rw [this]; rfl
theorem word_B {row : List Int} {l0 l1 l2 l3 : Nat} (L : Letters row l0 l1 l2 l3) : wordF row = (wordB l0 l1 l2 l3).toArray := by
  unfold wordF
  rw [L.le]
  have e : ∀ p : Int → Bool, (upto 0 4).filter p = ([0, 1, 2, 3] : List Int).filter p := fun _ => rfl
  rw [e]
  have d0 : decide (maxL (List.take ((0 : Int) + 1).toNat [(l0 : Int), (l1 : Int), (l2 : Int), (l3 : Int)]) > 0) = decide ((l0 : Int) > 0) := rfl
  have d1 : decide (maxL (List.take ((1 : Int) + 1).toNat [(l0 : Int), (l1 : Int), (l2 : Int), (l3 : Int)]) > 0) = decide (max (l0 : Int) l1 > 0) := rfl
  have d2 : decide (maxL (List.take ((2 : Int) + 1).toNat [(l0 : Int), (l1 : Int), (l2 : Int), (l3 : Int)]) > 0) = decide (max (max (l0 : Int) l1) l2 > 0) := rfl
  have d3 : decide (maxL (List.take ((3 : Int) + 1).toNat [(l0 : Int), (l1 : Int), (l2 : Int), (l3 : Int)]) > 0) = decide (max (max (max (l0 : Int) l1) l2) l3 > 0) := rfl
  simp only [List.filter_cons, List.filter_nil, d0, d1, d2, d3, decide_eq_true_eq]
  unfold wordB byteArr
  have k0 : (fun n : Int => n.toNat.toUInt8) (65 + [(l0 : Int), (l1 : Int), (l2 : Int), (l3 : Int)].getD (0 : Int).toNat 0) = letB l0 := byte_one l0
  have k1 : (fun n : Int => n.toNat.toUInt8) (65 + [(l0 : Int), (l1 : Int), (l2 : Int), (l3 : Int)].getD (1 : Int).toNat 0) = letB l1 := byte_one l1
  have k2 : (fun n : Int => n.toNat.toUInt8) (65 + [(l0 : Int), (l1 : Int), (l2 : Int), (l3 : Int)].getD (2 : Int).toNat 0) = letB l2 := byte_one l2
  have k3 : (fun n : Int => n.toNat.toUInt8) (65 + [(l0 : Int), (l1 : Int), (l2 : Int), (l3 : Int)].getD (3 : Int).toNat 0) = letB l3 := byte_one l3
  by_cases g0 : 0 < l0
  · rw [if_pos (by omega), if_pos (by omega), if_pos (by omega), if_pos (by omega), if_pos g0]
    simp only [List.map_cons, List.map_nil] at *
    rw [k0, k1, k2, k3]
  · rw [if_neg (by omega), if_neg g0]
    by_cases g1 : 0 < l1
    · rw [if_pos (by omega), if_pos (by omega), if_pos (by omega), if_pos g1]
      simp only [List.map_cons, List.map_nil] at *
      rw [k1, k2, k3]
    · rw [if_neg (by omega), if_neg g1]
      by_cases g2 : 0 < l2
      · rw [if_pos (by omega), if_pos (by omega), if_pos g2]
        simp only [List.map_cons, List.map_nil] at *
        rw [k2, k3]
      · rw [if_neg (by omega), if_neg g2]
        by_cases g3 : 0 < l3
        · rw [if_pos (by omega), if_pos g3]
          simp only [List.map_cons, List.map_nil] at *
          rw [k3]
        · rw [if_neg (by omega), if_neg g3]; rfl
theorem apF_step {m d : Nat} (hd : d < 16) (h : 0 < 16 * m + d) : apF (16 * m + d) = apF m ++ [letB d] := by
  rw [apF_pos (by omega)]
  have e1 : (16 * m + d) / 16 = m := by omega
  have e2 : (16 * m + d) % 16 = d := by omega
  rw [e1, e2]; rfl
theorem ap_B {l0 l1 l2 l3 : Nat} (b0 : l0 < 16) (b1 : l1 < 16) (b2 : l2 < 16) (b3 : l3 < 16) : apF (4096 * l0 + 256 * l1 + 16 * l2 + l3) = wordB l0 l1 l2 l3 := by
  have e3 : 4096 * l0 + 256 * l1 + 16 * l2 + l3 = 16 * (16 * (16 * (16 * 0 + l0) + l1) + l2) + l3 := by omega
  rw [e3]
  unfold wordB
  by_cases g0 : 0 < l0
  · rw [if_pos g0, apF_step b3 (by omega), apF_step b2 (by omega), apF_step b1 (by omega), apF_step b0 (by omega), apF_zero]; rfl
  · obtain rfl : l0 = 0 := by omega
    rw [if_neg g0]
    by_cases g1 : 0 < l1
    · rw [if_pos g1, apF_step b3 (by omega), apF_step b2 (by omega), apF_step b1 (by omega)]
      show apF 0 ++ _ ++ _ ++ _ = _
      rw [apF_zero]; rfl
    · obtain rfl : l1 = 0 := by omega
      rw [if_neg g1]
      by_cases g2 : 0 < l2
      · rw [if_pos g2, apF_step b3 (by omega), apF_step b2 (by omega)]
        show apF 0 ++ _ ++ _ = _
        rw [apF_zero]; rfl
      · obtain rfl : l2 = 0 := by omega
        rw [if_neg g2]
        by_cases g3 : 0 < l3
        · rw [if_pos g3, apF_step b3 (by omega)]
          show apF 0 ++ _ = _
          rw [apF_zero]; rfl
        · obtain rfl : l3 = 0 := by omega
          rw [if_neg g3]
          show apF 0 = _
          rw [apF_zero]
theorem word_num {row : List Int} {l0 l1 l2 l3 : Nat} (L : Letters row l0 l1 l2 l3) : 0 ≤ numOf row ∧ numOf row < 65536 ∧ (apF (numOf row).natAbs).toArray = wordF row := by
  have := L.b0; have := L.b1; have := L.b2; have := L.b3
  rw [L.num, word_B L]
  refine ⟨by omega, by omega, ?_⟩
  have e : (4096 * (l0 : Int) + 256 * l1 + 16 * l2 + l3).natAbs = 4096 * l0 + 256 * l1 + 16 * l2 + l3 := by omega
  rw [e, ap_B L.b0 L.b1 L.b2 L.b3]
theorem wordB_len (l0 l1 l2 l3 : Nat) : (wordB l0 l1 l2 l3).length ≤ 4 := by
  unfold wordB
  split
  · exact Nat.le_refl _
  · split
    · show 3 ≤ 4; omega
    · split
      · show 2 ≤ 4; omega
      · split
        · show 1 ≤ 4; omega
        · show 0 ≤ 4; omega
theorem let_back {l : Nat} (h : l < 16) : ((letB l).toNat : Int) - 65 = l := by
  have : (letB l).toNat = 65 + l := by
    unfold letB
    rw [UInt8.toNat_ofNat']
    omega
  rw [this]; omega
theorem wlet_B {row : List Int} {l0 l1 l2 l3 : Nat} (L : Letters row l0 l1 l2 l3) : wlet (wordF row) = lettersF row := by
  have z : ∀ {a : Nat}, ¬ 0 < a → a = 0 := fun h => by omega
  unfold wlet
  rw [word_B L, L.le, byte_ints]
  have k0 := let_back L.b0
  have k1 := let_back L.b1
  have k2 := let_back L.b2
  have k3 := let_back L.b3
  have hs : ∀ l : List UInt8, l.toArray.size = l.length := fun _ => rfl
  have ht : ∀ l : List UInt8, l.toArray.toList = l := fun _ => rfl
  rw [hs, ht]
  unfold wordB
  by_cases g0 : 0 < l0
  · rw [if_pos g0]
    show [((letB l0).toNat : Int) - 65, ((letB l1).toNat : Int) - 65, ((letB l2).toNat : Int) - 65, ((letB l3).toNat : Int) - 65] = _
    rw [k0, k1, k2, k3]
  · rw [if_neg g0]
    by_cases g1 : 0 < l1
    · rw [if_pos g1, z g0]
      show [0, ((letB l1).toNat : Int) - 65, ((letB l2).toNat : Int) - 65, ((letB l3).toNat : Int) - 65] = _
      rw [k1, k2, k3]; rfl
    · rw [if_neg g1]
      by_cases g2 : 0 < l2
      · rw [if_pos g2, z g0, z g1]
        show [0, 0, ((letB l2).toNat : Int) - 65, ((letB l3).toNat : Int) - 65] = _
        rw [k2, k3]; rfl
      · rw [if_neg g2]
        by_cases g3 : 0 < l3
        · rw [if_pos g3, z g0, z g1, z g2]
          show [0, 0, 0, ((letB l3).toNat : Int) - 65] = _
          rw [k3]; rfl
        · rw [if_neg g3, z g0, z g1, z g2, z g3]; rfl
theorem bits_B {row : List Int} (h : row.length = 16) (h01 : ∀ x ∈ row, x = 0 ∨ x = 1) : bitsOf (lettersF row) = row := by
  obtain ⟨a0, a1, a2, a3, a4, a5, a6, a7, a8, a9, a10, a11, a12, a13, a14, a15, rfl⟩ := len16 h
  have hh : ∀ x ∈ [a0, a1, a2, a3, a4, a5, a6, a7, a8, a9, a10, a11, a12, a13, a14, a15], 0 ≤ x ∧ x ≤ 1 := fun x hx => by
    rcases h01 x hx with h | h <;> omega
  simp only [List.forall_mem_cons] at hh
  obtain ⟨h0, h1, h2, h3, h4, h5, h6, h7, h8, h9, h10, h11, h12, h13, h14, h15, _⟩ := hh
  have four : ∀ {a b c d : Int}, 0 ≤ a ∧ a ≤ 1 → 0 ≤ b ∧ b ≤ 1 → 0 ≤ c ∧ c ≤ 1 → 0 ≤ d ∧ d ≤ 1 → (8 * a + 4 * b + 2 * c + d) / 8 % 2 = a ∧ (8 * a + 4 * b + 2 * c + d) / 4 % 2 = b ∧ (8 * a + 4 * b + 2 * c + d) / 2 % 2 = c ∧ (8 * a + 4 * b + 2 * c + d) / 1 % 2 = d := by
    intro a b c d ha hb hc hd
    refine ⟨by omega, by omega, by omega, by omega⟩
  obtain ⟨e0, e1, e2, e3⟩ := four h0 h1 h2 h3
  obtain ⟨e4, e5, e6, e7⟩ := four h4 h5 h6 h7
  obtain ⟨e8, e9, e10, e11⟩ := four h8 h9 h10 h11
  obtain ⟨e12, e13, e14, e15⟩ := four h12 h13 h14 h15
  show [(8 * a0 + 4 * a1 + 2 * a2 + a3) / 8 % 2, (8 * a0 + 4 * a1 + 2 * a2 + a3) / 4 % 2, (8 * a0 + 4 * a1 + 2 * a2 + a3) / 2 % 2, (8 * a0 + 4 * a1 + 2 * a2 + a3) / 1 % 2,
    (8 * a4 + 4 * a5 + 2 * a6 + a7) / 8 % 2, (8 * a4 + 4 * a5 + 2 * a6 + a7) / 4 % 2, (8 * a4 + 4 * a5 + 2 * a6 + a7) / 2 % 2, (8 * a4 + 4 * a5 + 2 * a6 + a7) / 1 % 2,
    (8 * a8 + 4 * a9 + 2 * a10 + a11) / 8 % 2, (8 * a8 + 4 * a9 + 2 * a10 + a11) / 4 % 2, (8 * a8 + 4 * a9 + 2 * a10 + a11) / 2 % 2, (8 * a8 + 4 * a9 + 2 * a10 + a11) / 1 % 2,
    (8 * a12 + 4 * a13 + 2 * a14 + a15) / 8 % 2, (8 * a12 + 4 * a13 + 2 * a14 + a15) / 4 % 2, (8 * a12 + 4 * a13 + 2 * a14 + a15) / 2 % 2, (8 * a12 + 4 * a13 + 2 * a14 + a15) / 1 % 2] = _
  rw [e0, e1, e2, e3, e4, e5, e6, e7, e8, e9, e10, e11, e12, e13, e14, e15]
/-- the first row tells the number -/
theorem num_first {n : Int} (h0 : 0 ≤ n) (h1 : n < 65536) : numOf (firstF n) = n := by
  have key : ∀ k : Nat, k ≤ 16 → ((upto 0 k).map fun p => n / 2 ^ (15 - p).toNat % 2).foldl (fun c b => c * 2 + b) 0 = n / 2 ^ (16 - k) := by
    intro k
    induction k with
    | zero =>
      intro _
      show (0 : Int) = n / 65536
      rw [Int.ediv_eq_zero_of_lt h0 h1]
    | succ k ih =>
      intro hk
      have e : ((k + 1 : Nat) : Int) = (k : Int) + 1 := by omega
      rw [e, upto_snoc (by omega), List.map_append, List.foldl_append, ih (by omega)]
      have e2 : ((15 : Int) - k).toNat = 15 - k := by omega
      have e3 : 16 - k = (15 - k) + 1 := by omega
      have e4 : 16 - (k + 1) = 15 - k := by omega
      show n / 2 ^ (16 - k) * 2 + n / 2 ^ ((15 : Int) - k).toNat % 2 = _
      rw [e2, e4, e3, Int.pow_succ, ← Int.ediv_ediv_of_nonneg (Int.le_of_lt (Int.pow_pos (by decide)))]
      omega
  have := key 16 (by omega)
  unfold numOf firstF
  rw [show ((16 : Nat) : Int) = 16 from rfl] at this
  rw [this]
  show n / 1 = n
  omega
end Mine

namespace Mine

def sums1 (a0 a1 a2 a3 a4 a5 a6 a7 a8 a9 a10 a11 a12 a13 a14 a15 : Int) : List Int := [((a0 + 0) % 2), ((a1 + (a0 + 0)) % 2), ((a2 + (a1 + (a0 + 0))) % 2), ((a3 + (a2 + (a1 + (a0 + 0)))) % 2), ((a4 + (a3 + (a2 + (a1 + (a0 + 0))))) % 2), ((a5 + (a4 + (a3 + (a2 + (a1 + (a0 + 0)))))) % 2), ((a6 + (a5 + (a4 + (a3 + (a2 + (a1 + (a0 + 0))))))) % 2), ((a7 + (a6 + (a5 + (a4 + (a3 + (a2 + (a1 + (a0 + 0)))))))) % 2), ((a8 + (a7 + (a6 + (a5 + (a4 + (a3 + (a2 + (a1 + (a0 + 0))))))))) % 2), ((a9 + (a8 + (a7 + (a6 + (a5 + (a4 + (a3 + (a2 + (a1 + (a0 + 0)))))))))) % 2), ((a10 + (a9 + (a8 + (a7 + (a6 + (a5 + (a4 + (a3 + (a2 + (a1 + (a0 + 0))))))))))) % 2), ((a11 + (a10 + (a9 + (a8 + (a7 + (a6 + (a5 + (a4 + (a3 + (a2 + (a1 + (a0 + 0)))))))))))) % 2), ((a12 + (a11 + (a10 + (a9 + (a8 + (a7 + (a6 + (a5 + (a4 + (a3 + (a2 + (a1 + (a0 + 0))))))))))))) % 2), ((a13 + (a12 + (a11 + (a10 + (a9 + (a8 + (a7 + (a6 + (a5 + (a4 + (a3 + (a2 + (a1 + (a0 + 0)))))))))))))) % 2), ((a14 + (a13 + (a12 + (a11 + (a10 + (a9 + (a8 + (a7 + (a6 + (a5 + (a4 + (a3 + (a2 + (a1 + (a0 + 0))))))))))))))) % 2), ((a15 + (a14 + (a13 + (a12 + (a11 + (a10 + (a9 + (a8 + (a7 + (a6 + (a5 + (a4 + (a3 + (a2 + (a1 + (a0 + 0)))))))))))))))) % 2)]
theorem sums1_eq (a0 a1 a2 a3 a4 a5 a6 a7 a8 a9 a10 a11 a12 a13 a14 a15 : Int) : rowF [a0, a1, a2, a3, a4, a5, a6, a7, a8, a9, a10, a11, a12, a13, a14, a15] 1 = sums1 a0 a1 a2 a3 a4 a5 a6 a7 a8 a9 a10 a11 a12 a13 a14 a15 := rfl
def sums2 (a0 a1 a2 a3 a4 a5 a6 a7 a8 a9 a10 a11 a12 a13 a14 a15 : Int) : List Int := [((a0 + 0) % 2), ((a1 + 0) % 2), ((a2 + (a0 + 0)) % 2), ((a3 + (a1 + 0)) % 2), ((a4 + (a2 + (a0 + 0))) % 2), ((a5 + (a3 + (a1 + 0))) % 2), ((a6 + (a4 + (a2 + (a0 + 0)))) % 2), ((a7 + (a5 + (a3 + (a1 + 0)))) % 2), ((a8 + (a6 + (a4 + (a2 + (a0 + 0))))) % 2), ((a9 + (a7 + (a5 + (a3 + (a1 + 0))))) % 2), ((a10 + (a8 + (a6 + (a4 + (a2 + (a0 + 0)))))) % 2), ((a11 + (a9 + (a7 + (a5 + (a3 + (a1 + 0)))))) % 2), ((a12 + (a10 + (a8 + (a6 + (a4 + (a2 + (a0 + 0))))))) % 2), ((a13 + (a11 + (a9 + (a7 + (a5 + (a3 + (a1 + 0))))))) % 2), ((a14 + (a12 + (a10 + (a8 + (a6 + (a4 + (a2 + (a0 + 0)))))))) % 2), ((a15 + (a13 + (a11 + (a9 + (a7 + (a5 + (a3 + (a1 + 0)))))))) % 2)]
theorem sums2_eq (a0 a1 a2 a3 a4 a5 a6 a7 a8 a9 a10 a11 a12 a13 a14 a15 : Int) : rowF [a0, a1, a2, a3, a4, a5, a6, a7, a8, a9, a10, a11, a12, a13, a14, a15] 2 = sums2 a0 a1 a2 a3 a4 a5 a6 a7 a8 a9 a10 a11 a12 a13 a14 a15 := rfl
def sums3 (a0 a1 a2 a3 a4 a5 a6 a7 a8 a9 a10 a11 a12 a13 a14 a15 : Int) : List Int := [((a0 + 0) % 2), ((a1 + (a0 + 0)) % 2), ((a2 + (a1 + 0)) % 2), ((a3 + (a2 + 0)) % 2), ((a4 + (a3 + (a0 + 0))) % 2), ((a5 + (a4 + (a1 + (a0 + 0)))) % 2), ((a6 + (a5 + (a2 + (a1 + 0)))) % 2), ((a7 + (a6 + (a3 + (a2 + 0)))) % 2), ((a8 + (a7 + (a4 + (a3 + (a0 + 0))))) % 2), ((a9 + (a8 + (a5 + (a4 + (a1 + (a0 + 0)))))) % 2), ((a10 + (a9 + (a6 + (a5 + (a2 + (a1 + 0)))))) % 2), ((a11 + (a10 + (a7 + (a6 + (a3 + (a2 + 0)))))) % 2), ((a12 + (a11 + (a8 + (a7 + (a4 + (a3 + (a0 + 0))))))) % 2), ((a13 + (a12 + (a9 + (a8 + (a5 + (a4 + (a1 + (a0 + 0)))))))) % 2), ((a14 + (a13 + (a10 + (a9 + (a6 + (a5 + (a2 + (a1 + 0)))))))) % 2), ((a15 + (a14 + (a11 + (a10 + (a7 + (a6 + (a3 + (a2 + 0)))))))) % 2)]
theorem sums3_eq (a0 a1 a2 a3 a4 a5 a6 a7 a8 a9 a10 a11 a12 a13 a14 a15 : Int) : rowF [a0, a1, a2, a3, a4, a5, a6, a7, a8, a9, a10, a11, a12, a13, a14, a15] 3 = sums3 a0 a1 a2 a3 a4 a5 a6 a7 a8 a9 a10 a11 a12 a13 a14 a15 := rfl
def sums4 (a0 a1 a2 a3 a4 a5 a6 a7 a8 a9 a10 a11 a12 a13 a14 a15 : Int) : List Int := [((a0 + 0) % 2), ((a1 + 0) % 2), ((a2 + 0) % 2), ((a3 + 0) % 2), ((a4 + (a0 + 0)) % 2), ((a5 + (a1 + 0)) % 2), ((a6 + (a2 + 0)) % 2), ((a7 + (a3 + 0)) % 2), ((a8 + (a4 + (a0 + 0))) % 2), ((a9 + (a5 + (a1 + 0))) % 2), ((a10 + (a6 + (a2 + 0))) % 2), ((a11 + (a7 + (a3 + 0))) % 2), ((a12 + (a8 + (a4 + (a0 + 0)))) % 2), ((a13 + (a9 + (a5 + (a1 + 0)))) % 2), ((a14 + (a10 + (a6 + (a2 + 0)))) % 2), ((a15 + (a11 + (a7 + (a3 + 0)))) % 2)]
theorem sums4_eq (a0 a1 a2 a3 a4 a5 a6 a7 a8 a9 a10 a11 a12 a13 a14 a15 : Int) : row4F [a0, a1, a2, a3, a4, a5, a6, a7, a8, a9, a10, a11, a12, a13, a14, a15] = sums4 a0 a1 a2 a3 a4 a5 a6 a7 a8 a9 a10 a11 a12 a13 a14 a15 := rfl

theorem next_of {b c : List Int} (hb : ∀ x ∈ b, x = 0 ∨ x = 1) (hc : ∀ x ∈ c, x = 0 ∨ x = 1) (h0 : c.getD 0 0 = b.getD 0 0) (hs : ∀ k : Nat, k < 15 → c.getD (k + 1) 0 = (c.getD k 0 + b.getD (k + 1) 0) % 2) : NextRow b c := by
  have g : ∀ l : List Int, (∀ x ∈ l, x = 0 ∨ x = 1) → ∀ n : Int, l.getD n.toNat 0 = 0 ∨ l.getD n.toNat 0 = 1 := by
    intro l hl n
    rw [List.getD_eq_getElem?_getD]
    cases e : l[n.toNat]? with
    | none => exact .inl rfl
    | some x => exact hl x (List.mem_of_getElem? e)
  refine ⟨g b hb, g c hc, fun n h h16 => ?_⟩
  split
  · rename_i e; subst e; exact h0
  · have e : n.toNat = (n.toNat - 1) + 1 := by omega
    have e2 : (n - 1).toNat = n.toNat - 1 := by omega
    rw [e, e2]
    exact hs _ (by omega)

theorem all15 {P : Nat → Prop} (h : P 0 ∧ P 1 ∧ P 2 ∧ P 3 ∧ P 4 ∧ P 5 ∧ P 6 ∧ P 7 ∧ P 8 ∧ P 9 ∧ P 10 ∧ P 11 ∧ P 12 ∧ P 13 ∧ P 14) : ∀ k, k < 15 → P k := by
  obtain ⟨h0, h1, h2, h3, h4, h5, h6, h7, h8, h9, h10, h11, h12, h13, h14⟩ := h
  intro k hk
  match k, hk with
  | 0, _ => exact h0
  | 1, _ => exact h1
  | 2, _ => exact h2
  | 3, _ => exact h3
  | 4, _ => exact h4
  | 5, _ => exact h5
  | 6, _ => exact h6
  | 7, _ => exact h7
  | 8, _ => exact h8
  | 9, _ => exact h9
  | 10, _ => exact h10
  | 11, _ => exact h11
  | 12, _ => exact h12
  | 13, _ => exact h13
  | 14, _ => exact h14

theorem step0 (a0 a1 a2 a3 a4 a5 a6 a7 a8 a9 a10 a11 a12 a13 a14 a15 : Int) (h : a0 = 0 ∨ a0 = 1) : (sums1 a0 a1 a2 a3 a4 a5 a6 a7 a8 a9 a10 a11 a12 a13 a14 a15).getD 0 0 = ([a0, a1, a2, a3, a4, a5, a6, a7, a8, a9, a10, a11, a12, a13, a14, a15] : List Int).getD 0 0 ∧ ∀ k : Nat, k < 15 → (sums1 a0 a1 a2 a3 a4 a5 a6 a7 a8 a9 a10 a11 a12 a13 a14 a15).getD (k + 1) 0 = ((sums1 a0 a1 a2 a3 a4 a5 a6 a7 a8 a9 a10 a11 a12 a13 a14 a15).getD k 0 + ([a0, a1, a2, a3, a4, a5, a6, a7, a8, a9, a10, a11, a12, a13, a14, a15] : List Int).getD (k + 1) 0) % 2 := by
  constructor
  · show ((a0 + 0) % 2) = a0
    omega
  · refine all15 ⟨?_, ?_, ?_, ?_, ?_, ?_, ?_, ?_, ?_, ?_, ?_, ?_, ?_, ?_, ?_⟩
    · show ((a1 + (a0 + 0)) % 2) = (((a0 + 0) % 2) + a1) % 2
      omega
    · show ((a2 + (a1 + (a0 + 0))) % 2) = (((a1 + (a0 + 0)) % 2) + a2) % 2
      omega
    · show ((a3 + (a2 + (a1 + (a0 + 0)))) % 2) = (((a2 + (a1 + (a0 + 0))) % 2) + a3) % 2
      omega
    · show ((a4 + (a3 + (a2 + (a1 + (a0 + 0))))) % 2) = (((a3 + (a2 + (a1 + (a0 + 0)))) % 2) + a4) % 2
      omega
    · show ((a5 + (a4 + (a3 + (a2 + (a1 + (a0 + 0)))))) % 2) = (((a4 + (a3 + (a2 + (a1 + (a0 + 0))))) % 2) + a5) % 2
      omega
    · show ((a6 + (a5 + (a4 + (a3 + (a2 + (a1 + (a0 + 0))))))) % 2) = (((a5 + (a4 + (a3 + (a2 + (a1 + (a0 + 0)))))) % 2) + a6) % 2
      omega
    · show ((a7 + (a6 + (a5 + (a4 + (a3 + (a2 + (a1 + (a0 + 0)))))))) % 2) = (((a6 + (a5 + (a4 + (a3 + (a2 + (a1 + (a0 + 0))))))) % 2) + a7) % 2
      omega
    · show ((a8 + (a7 + (a6 + (a5 + (a4 + (a3 + (a2 + (a1 + (a0 + 0))))))))) % 2) = (((a7 + (a6 + (a5 + (a4 + (a3 + (a2 + (a1 + (a0 + 0)))))))) % 2) + a8) % 2
      omega
    · show ((a9 + (a8 + (a7 + (a6 + (a5 + (a4 + (a3 + (a2 + (a1 + (a0 + 0)))))))))) % 2) = (((a8 + (a7 + (a6 + (a5 + (a4 + (a3 + (a2 + (a1 + (a0 + 0))))))))) % 2) + a9) % 2
      omega
    · show ((a10 + (a9 + (a8 + (a7 + (a6 + (a5 + (a4 + (a3 + (a2 + (a1 + (a0 + 0))))))))))) % 2) = (((a9 + (a8 + (a7 + (a6 + (a5 + (a4 + (a3 + (a2 + (a1 + (a0 + 0)))))))))) % 2) + a10) % 2
      omega
    · show ((a11 + (a10 + (a9 + (a8 + (a7 + (a6 + (a5 + (a4 + (a3 + (a2 + (a1 + (a0 + 0)))))))))))) % 2) = (((a10 + (a9 + (a8 + (a7 + (a6 + (a5 + (a4 + (a3 + (a2 + (a1 + (a0 + 0))))))))))) % 2) + a11) % 2
      omega
    · show ((a12 + (a11 + (a10 + (a9 + (a8 + (a7 + (a6 + (a5 + (a4 + (a3 + (a2 + (a1 + (a0 + 0))))))))))))) % 2) = (((a11 + (a10 + (a9 + (a8 + (a7 + (a6 + (a5 + (a4 + (a3 + (a2 + (a1 + (a0 + 0)))))))))))) % 2) + a12) % 2
      omega
    · show ((a13 + (a12 + (a11 + (a10 + (a9 + (a8 + (a7 + (a6 + (a5 + (a4 + (a3 + (a2 + (a1 + (a0 + 0)))))))))))))) % 2) = (((a12 + (a11 + (a10 + (a9 + (a8 + (a7 + (a6 + (a5 + (a4 + (a3 + (a2 + (a1 + (a0 + 0))))))))))))) % 2) + a13) % 2
      omega
    · show ((a14 + (a13 + (a12 + (a11 + (a10 + (a9 + (a8 + (a7 + (a6 + (a5 + (a4 + (a3 + (a2 + (a1 + (a0 + 0))))))))))))))) % 2) = (((a13 + (a12 + (a11 + (a10 + (a9 + (a8 + (a7 + (a6 + (a5 + (a4 + (a3 + (a2 + (a1 + (a0 + 0)))))))))))))) % 2) + a14) % 2
      omega
    · show ((a15 + (a14 + (a13 + (a12 + (a11 + (a10 + (a9 + (a8 + (a7 + (a6 + (a5 + (a4 + (a3 + (a2 + (a1 + (a0 + 0)))))))))))))))) % 2) = (((a14 + (a13 + (a12 + (a11 + (a10 + (a9 + (a8 + (a7 + (a6 + (a5 + (a4 + (a3 + (a2 + (a1 + (a0 + 0))))))))))))))) % 2) + a15) % 2
      omega
theorem step1 (a0 a1 a2 a3 a4 a5 a6 a7 a8 a9 a10 a11 a12 a13 a14 a15 : Int) : (sums2 a0 a1 a2 a3 a4 a5 a6 a7 a8 a9 a10 a11 a12 a13 a14 a15).getD 0 0 = ((sums1 a0 a1 a2 a3 a4 a5 a6 a7 a8 a9 a10 a11 a12 a13 a14 a15) : List Int).getD 0 0 ∧ ∀ k : Nat, k < 15 → (sums2 a0 a1 a2 a3 a4 a5 a6 a7 a8 a9 a10 a11 a12 a13 a14 a15).getD (k + 1) 0 = ((sums2 a0 a1 a2 a3 a4 a5 a6 a7 a8 a9 a10 a11 a12 a13 a14 a15).getD k 0 + ((sums1 a0 a1 a2 a3 a4 a5 a6 a7 a8 a9 a10 a11 a12 a13 a14 a15) : List Int).getD (k + 1) 0) % 2 := by
  constructor
  · show ((a0 + 0) % 2) = ((a0 + 0) % 2)
    omega
  · refine all15 ⟨?_, ?_, ?_, ?_, ?_, ?_, ?_, ?_, ?_, ?_, ?_, ?_, ?_, ?_, ?_⟩
    · show ((a1 + 0) % 2) = (((a0 + 0) % 2) + ((a1 + (a0 + 0)) % 2)) % 2
      omega
    · show ((a2 + (a0 + 0)) % 2) = (((a1 + 0) % 2) + ((a2 + (a1 + (a0 + 0))) % 2)) % 2
      omega
    · show ((a3 + (a1 + 0)) % 2) = (((a2 + (a0 + 0)) % 2) + ((a3 + (a2 + (a1 + (a0 + 0)))) % 2)) % 2
      omega
    · show ((a4 + (a2 + (a0 + 0))) % 2) = (((a3 + (a1 + 0)) % 2) + ((a4 + (a3 + (a2 + (a1 + (a0 + 0))))) % 2)) % 2
      omega
    · show ((a5 + (a3 + (a1 + 0))) % 2) = (((a4 + (a2 + (a0 + 0))) % 2) + ((a5 + (a4 + (a3 + (a2 + (a1 + (a0 + 0)))))) % 2)) % 2
      omega
    · show ((a6 + (a4 + (a2 + (a0 + 0)))) % 2) = (((a5 + (a3 + (a1 + 0))) % 2) + ((a6 + (a5 + (a4 + (a3 + (a2 + (a1 + (a0 + 0))))))) % 2)) % 2
      omega
    · show ((a7 + (a5 + (a3 + (a1 + 0)))) % 2) = (((a6 + (a4 + (a2 + (a0 + 0)))) % 2) + ((a7 + (a6 + (a5 + (a4 + (a3 + (a2 + (a1 + (a0 + 0)))))))) % 2)) % 2
      omega
    · show ((a8 + (a6 + (a4 + (a2 + (a0 + 0))))) % 2) = (((a7 + (a5 + (a3 + (a1 + 0)))) % 2) + ((a8 + (a7 + (a6 + (a5 + (a4 + (a3 + (a2 + (a1 + (a0 + 0))))))))) % 2)) % 2
      omega
    · show ((a9 + (a7 + (a5 + (a3 + (a1 + 0))))) % 2) = (((a8 + (a6 + (a4 + (a2 + (a0 + 0))))) % 2) + ((a9 + (a8 + (a7 + (a6 + (a5 + (a4 + (a3 + (a2 + (a1 + (a0 + 0)))))))))) % 2)) % 2
      omega
    · show ((a10 + (a8 + (a6 + (a4 + (a2 + (a0 + 0)))))) % 2) = (((a9 + (a7 + (a5 + (a3 + (a1 + 0))))) % 2) + ((a10 + (a9 + (a8 + (a7 + (a6 + (a5 + (a4 + (a3 + (a2 + (a1 + (a0 + 0))))))))))) % 2)) % 2
      omega
    · show ((a11 + (a9 + (a7 + (a5 + (a3 + (a1 + 0)))))) % 2) = (((a10 + (a8 + (a6 + (a4 + (a2 + (a0 + 0)))))) % 2) + ((a11 + (a10 + (a9 + (a8 + (a7 + (a6 + (a5 + (a4 + (a3 + (a2 + (a1 + (a0 + 0)))))))))))) % 2)) % 2
      omega
    · show ((a12 + (a10 + (a8 + (a6 + (a4 + (a2 + (a0 + 0))))))) % 2) = (((a11 + (a9 + (a7 + (a5 + (a3 + (a1 + 0)))))) % 2) + ((a12 + (a11 + (a10 + (a9 + (a8 + (a7 + (a6 + (a5 + (a4 + (a3 + (a2 + (a1 + (a0 + 0))))))))))))) % 2)) % 2
      omega
    · show ((a13 + (a11 + (a9 + (a7 + (a5 + (a3 + (a1 + 0))))))) % 2) = (((a12 + (a10 + (a8 + (a6 + (a4 + (a2 + (a0 + 0))))))) % 2) + ((a13 + (a12 + (a11 + (a10 + (a9 + (a8 + (a7 + (a6 + (a5 + (a4 + (a3 + (a2 + (a1 + (a0 + 0)))))))))))))) % 2)) % 2
      omega
    · show ((a14 + (a12 + (a10 + (a8 + (a6 + (a4 + (a2 + (a0 + 0)))))))) % 2) = (((a13 + (a11 + (a9 + (a7 + (a5 + (a3 + (a1 + 0))))))) % 2) + ((a14 + (a13 + (a12 + (a11 + (a10 + (a9 + (a8 + (a7 + (a6 + (a5 + (a4 + (a3 + (a2 + (a1 + (a0 + 0))))))))))))))) % 2)) % 2
      omega
    · show ((a15 + (a13 + (a11 + (a9 + (a7 + (a5 + (a3 + (a1 + 0)))))))) % 2) = (((a14 + (a12 + (a10 + (a8 + (a6 + (a4 + (a2 + (a0 + 0)))))))) % 2) + ((a15 + (a14 + (a13 + (a12 + (a11 + (a10 + (a9 + (a8 + (a7 + (a6 + (a5 + (a4 + (a3 + (a2 + (a1 + (a0 + 0)))))))))))))))) % 2)) % 2
      omega
theorem step2 (a0 a1 a2 a3 a4 a5 a6 a7 a8 a9 a10 a11 a12 a13 a14 a15 : Int) : (sums3 a0 a1 a2 a3 a4 a5 a6 a7 a8 a9 a10 a11 a12 a13 a14 a15).getD 0 0 = ((sums2 a0 a1 a2 a3 a4 a5 a6 a7 a8 a9 a10 a11 a12 a13 a14 a15) : List Int).getD 0 0 ∧ ∀ k : Nat, k < 15 → (sums3 a0 a1 a2 a3 a4 a5 a6 a7 a8 a9 a10 a11 a12 a13 a14 a15).getD (k + 1) 0 = ((sums3 a0 a1 a2 a3 a4 a5 a6 a7 a8 a9 a10 a11 a12 a13 a14 a15).getD k 0 + ((sums2 a0 a1 a2 a3 a4 a5 a6 a7 a8 a9 a10 a11 a12 a13 a14 a15) : List Int).getD (k + 1) 0) % 2 := by
  constructor
  · show ((a0 + 0) % 2) = ((a0 + 0) % 2)
    omega
  · refine all15 ⟨?_, ?_, ?_, ?_, ?_, ?_, ?_, ?_, ?_, ?_, ?_, ?_, ?_, ?_, ?_⟩
    · show ((a1 + (a0 + 0)) % 2) = (((a0 + 0) % 2) + ((a1 + 0) % 2)) % 2
      omega
    · show ((a2 + (a1 + 0)) % 2) = (((a1 + (a0 + 0)) % 2) + ((a2 + (a0 + 0)) % 2)) % 2
      omega
    · show ((a3 + (a2 + 0)) % 2) = (((a2 + (a1 + 0)) % 2) + ((a3 + (a1 + 0)) % 2)) % 2
      omega
    · show ((a4 + (a3 + (a0 + 0))) % 2) = (((a3 + (a2 + 0)) % 2) + ((a4 + (a2 + (a0 + 0))) % 2)) % 2
      omega
    · show ((a5 + (a4 + (a1 + (a0 + 0)))) % 2) = (((a4 + (a3 + (a0 + 0))) % 2) + ((a5 + (a3 + (a1 + 0))) % 2)) % 2
      omega
    · show ((a6 + (a5 + (a2 + (a1 + 0)))) % 2) = (((a5 + (a4 + (a1 + (a0 + 0)))) % 2) + ((a6 + (a4 + (a2 + (a0 + 0)))) % 2)) % 2
      omega
    · show ((a7 + (a6 + (a3 + (a2 + 0)))) % 2) = (((a6 + (a5 + (a2 + (a1 + 0)))) % 2) + ((a7 + (a5 + (a3 + (a1 + 0)))) % 2)) % 2
      omega
    · show ((a8 + (a7 + (a4 + (a3 + (a0 + 0))))) % 2) = (((a7 + (a6 + (a3 + (a2 + 0)))) % 2) + ((a8 + (a6 + (a4 + (a2 + (a0 + 0))))) % 2)) % 2
      omega
    · show ((a9 + (a8 + (a5 + (a4 + (a1 + (a0 + 0)))))) % 2) = (((a8 + (a7 + (a4 + (a3 + (a0 + 0))))) % 2) + ((a9 + (a7 + (a5 + (a3 + (a1 + 0))))) % 2)) % 2
      omega
    · show ((a10 + (a9 + (a6 + (a5 + (a2 + (a1 + 0)))))) % 2) = (((a9 + (a8 + (a5 + (a4 + (a1 + (a0 + 0)))))) % 2) + ((a10 + (a8 + (a6 + (a4 + (a2 + (a0 + 0)))))) % 2)) % 2
      omega
    · show ((a11 + (a10 + (a7 + (a6 + (a3 + (a2 + 0)))))) % 2) = (((a10 + (a9 + (a6 + (a5 + (a2 + (a1 + 0)))))) % 2) + ((a11 + (a9 + (a7 + (a5 + (a3 + (a1 + 0)))))) % 2)) % 2
      omega
    · show ((a12 + (a11 + (a8 + (a7 + (a4 + (a3 + (a0 + 0))))))) % 2) = (((a11 + (a10 + (a7 + (a6 + (a3 + (a2 + 0)))))) % 2) + ((a12 + (a10 + (a8 + (a6 + (a4 + (a2 + (a0 + 0))))))) % 2)) % 2
      omega
    · show ((a13 + (a12 + (a9 + (a8 + (a5 + (a4 + (a1 + (a0 + 0)))))))) % 2) = (((a12 + (a11 + (a8 + (a7 + (a4 + (a3 + (a0 + 0))))))) % 2) + ((a13 + (a11 + (a9 + (a7 + (a5 + (a3 + (a1 + 0))))))) % 2)) % 2
      omega
    · show ((a14 + (a13 + (a10 + (a9 + (a6 + (a5 + (a2 + (a1 + 0)))))))) % 2) = (((a13 + (a12 + (a9 + (a8 + (a5 + (a4 + (a1 + (a0 + 0)))))))) % 2) + ((a14 + (a12 + (a10 + (a8 + (a6 + (a4 + (a2 + (a0 + 0)))))))) % 2)) % 2
      omega
    · show ((a15 + (a14 + (a11 + (a10 + (a7 + (a6 + (a3 + (a2 + 0)))))))) % 2) = (((a14 + (a13 + (a10 + (a9 + (a6 + (a5 + (a2 + (a1 + 0)))))))) % 2) + ((a15 + (a13 + (a11 + (a9 + (a7 + (a5 + (a3 + (a1 + 0)))))))) % 2)) % 2
      omega
theorem step3 (a0 a1 a2 a3 a4 a5 a6 a7 a8 a9 a10 a11 a12 a13 a14 a15 : Int) : (sums4 a0 a1 a2 a3 a4 a5 a6 a7 a8 a9 a10 a11 a12 a13 a14 a15).getD 0 0 = ((sums3 a0 a1 a2 a3 a4 a5 a6 a7 a8 a9 a10 a11 a12 a13 a14 a15) : List Int).getD 0 0 ∧ ∀ k : Nat, k < 15 → (sums4 a0 a1 a2 a3 a4 a5 a6 a7 a8 a9 a10 a11 a12 a13 a14 a15).getD (k + 1) 0 = ((sums4 a0 a1 a2 a3 a4 a5 a6 a7 a8 a9 a10 a11 a12 a13 a14 a15).getD k 0 + ((sums3 a0 a1 a2 a3 a4 a5 a6 a7 a8 a9 a10 a11 a12 a13 a14 a15) : List Int).getD (k + 1) 0) % 2 := by
  constructor
  · show ((a0 + 0) % 2) = ((a0 + 0) % 2)
    omega
  · refine all15 ⟨?_, ?_, ?_, ?_, ?_, ?_, ?_, ?_, ?_, ?_, ?_, ?_, ?_, ?_, ?_⟩
    · show ((a1 + 0) % 2) = (((a0 + 0) % 2) + ((a1 + (a0 + 0)) % 2)) % 2
      omega
    · show ((a2 + 0) % 2) = (((a1 + 0) % 2) + ((a2 + (a1 + 0)) % 2)) % 2
      omega
    · show ((a3 + 0) % 2) = (((a2 + 0) % 2) + ((a3 + (a2 + 0)) % 2)) % 2
      omega
    · show ((a4 + (a0 + 0)) % 2) = (((a3 + 0) % 2) + ((a4 + (a3 + (a0 + 0))) % 2)) % 2
      omega
    · show ((a5 + (a1 + 0)) % 2) = (((a4 + (a0 + 0)) % 2) + ((a5 + (a4 + (a1 + (a0 + 0)))) % 2)) % 2
      omega
    · show ((a6 + (a2 + 0)) % 2) = (((a5 + (a1 + 0)) % 2) + ((a6 + (a5 + (a2 + (a1 + 0)))) % 2)) % 2
      omega
    · show ((a7 + (a3 + 0)) % 2) = (((a6 + (a2 + 0)) % 2) + ((a7 + (a6 + (a3 + (a2 + 0)))) % 2)) % 2
      omega
    · show ((a8 + (a4 + (a0 + 0))) % 2) = (((a7 + (a3 + 0)) % 2) + ((a8 + (a7 + (a4 + (a3 + (a0 + 0))))) % 2)) % 2
      omega
    · show ((a9 + (a5 + (a1 + 0))) % 2) = (((a8 + (a4 + (a0 + 0))) % 2) + ((a9 + (a8 + (a5 + (a4 + (a1 + (a0 + 0)))))) % 2)) % 2
      omega
    · show ((a10 + (a6 + (a2 + 0))) % 2) = (((a9 + (a5 + (a1 + 0))) % 2) + ((a10 + (a9 + (a6 + (a5 + (a2 + (a1 + 0)))))) % 2)) % 2
      omega
    · show ((a11 + (a7 + (a3 + 0))) % 2) = (((a10 + (a6 + (a2 + 0))) % 2) + ((a11 + (a10 + (a7 + (a6 + (a3 + (a2 + 0)))))) % 2)) % 2
      omega
    · show ((a12 + (a8 + (a4 + (a0 + 0)))) % 2) = (((a11 + (a7 + (a3 + 0))) % 2) + ((a12 + (a11 + (a8 + (a7 + (a4 + (a3 + (a0 + 0))))))) % 2)) % 2
      omega
    · show ((a13 + (a9 + (a5 + (a1 + 0)))) % 2) = (((a12 + (a8 + (a4 + (a0 + 0)))) % 2) + ((a13 + (a12 + (a9 + (a8 + (a5 + (a4 + (a1 + (a0 + 0)))))))) % 2)) % 2
      omega
    · show ((a14 + (a10 + (a6 + (a2 + 0)))) % 2) = (((a13 + (a9 + (a5 + (a1 + 0)))) % 2) + ((a14 + (a13 + (a10 + (a9 + (a6 + (a5 + (a2 + (a1 + 0)))))))) % 2)) % 2
      omega
    · show ((a15 + (a11 + (a7 + (a3 + 0)))) % 2) = (((a14 + (a10 + (a6 + (a2 + 0)))) % 2) + ((a15 + (a14 + (a11 + (a10 + (a7 + (a6 + (a3 + (a2 + 0)))))))) % 2)) % 2
      omega
end Mine

namespace Mine

theorem tailsF_at (d : Int) {p : Int} (h0 : 0 ≤ p) (h16 : p < 16) : (tailsF d).getD p.toNat [] = menuL.getD (d / 8 ^ p.toNat % 8).toNat [] := by
  obtain ⟨k, rfl⟩ : ∃ k : Nat, p = k := ⟨p.toNat, by omega⟩
  have hk : k < 16 := by omega
  have e : (upto 0 16)[k]? = some (k : Int) := by
    unfold upto
    rw [List.getElem?_map, List.getElem?_range (by simpa using hk)]
    show some (0 + (k : Int)) = _
    rw [Int.zero_add]
  show (tailsF d).getD k [] = _
  unfold tailsF
  rw [List.getD_eq_getElem?_getD, List.getElem?_map, e]; rfl
theorem menu_getD (j : Nat) (hj : j < 8) : menuL.getD j [] ∈ menuL := by
  revert j; decide
theorem menu_F (d : Int) : Menu (tailsF d) := fun p h0 h16 => by
  rw [tailsF_at d h0 h16]
  have h8 := Int.emod_lt_of_pos (d / 8 ^ p.toNat) (show (0 : Int) < 8 by decide)
  have h80 := Int.emod_nonneg (d / 8 ^ p.toNat) (show (8 : Int) ≠ 0 by decide)
  exact menu_getD _ (by omega)
theorem tails_all (d : Int) : ∀ t ∈ tailsF d, t ∈ menuL := by
  intro t ht
  obtain ⟨p, hp, rfl⟩ := List.mem_map.mp ht
  have h8 := Int.emod_lt_of_pos (d / 8 ^ p.toNat) (show (0 : Int) < 8 by decide)
  have h80 := Int.emod_nonneg (d / 8 ^ p.toNat) (show (8 : Int) ≠ 0 by decide)
  exact menu_getD _ (by omega)
theorem ends_F (o : Bool) : EndOk (endsF o) := by
  cases o
  · exact .inl rfl
  · exact .inr rfl
theorem menu_len : ∀ t ∈ menuL, t.length ≤ 2 := by decide
theorem menu_sum : ∀ t ∈ menuL, (t.map (·.length)).sum ≤ 4 := by decide
theorem len_flat (us : List PySem.Str) : (flat us).length = (us.map (·.length)).sum := by
  induction us with
  | nil => rfl
  | cons u us ih => rw [flat_cons, List.length_append, ih, List.map_cons, List.sum_cons, len_cps]
theorem piece_len {b : List Int} {tails : List (List PySem.Str)} (hm : Menu tails) {p : Int} (h0 : 0 ≤ p) (h16 : p < 16) : (pieceF b tails p).length ≤ 6 := by
  rw [len_cps, piece_flat, len_flat]
  have := menu_sum _ (hm p h0 h16)
  unfold placeU
  rw [List.map_append, List.sum_append, List.map_cons, List.sum_cons]
  have e : (chrS p).length = 1 := rfl
  have e2 : ((if (b.getD p.toNat 0 == 1) = true then [quoteS] else []).map (·.length)).sum ≤ 1 := by
    split
    · exact Nat.le_refl _
    · exact Nat.zero_le _
  omega
theorem sum_small {xs : List PySem.Str} {n : Nat} (h : ∀ r ∈ xs, r.length ≤ n) : (xs.map (·.length)).sum ≤ n * xs.length := by
  induction xs with
  | nil => exact Nat.le_refl _
  | cons x xs ih =>
    have h1 := h x (by simp)
    have h2 := ih fun r hr => h r (by simp [hr])
    simp only [List.map_cons, List.sum_cons, List.length_cons]
    rw [Nat.mul_add]
    omega
theorem end_len {ends : List PySem.Str} (he : EndOk ends) : ends.length ≤ 1 ∧ ∀ e ∈ ends, e.length ≤ 1 := by
  rcases he with rfl | rfl
  · exact ⟨Nat.zero_le _, by simp⟩
  · exact ⟨Nat.le_refl _, by intro e h; rw [List.mem_singleton.mp h]; exact Nat.le_refl _⟩
theorem line_len {b : List Int} {tails ends : List _} (hm : Menu tails) (he : EndOk ends) : (lineF b tails ends).length ≤ 198 := by
  unfold lineF
  rw [len_cps, join_flat, len_flat]
  have h := sum_small (xs := (upto 0 16).map (pieceF b tails) ++ ends) (n := 6) fun r hr => by
    rcases List.mem_append.mp hr with hr | hr
    · obtain ⟨p, hp, rfl⟩ := List.mem_map.mp hr
      have := upto_mem.mp hp
      exact piece_len hm this.1 this.2
    · have := (end_len he).2 r hr; omega
  rw [List.length_append, List.length_map, upto_len] at h
  have := (end_len he).1
  omega
theorem units_unit {tails : List (List PySem.Str)} (hm : Menu tails) {ps : List Int} (h : ∀ p ∈ ps, 0 ≤ p ∧ p < 16) : ∀ u ∈ unitsF tails ps, Unit1 u := by
  intro u hu
  obtain ⟨p, hp, hu⟩ := List.mem_flatMap.mp hu
  have := h p hp
  rcases List.mem_cons.mp hu with rfl | hu
  · exact chr_unit this.1
  · exact menu_unit _ (hm p this.1 this.2) u (List.mem_filter.mp hu).1
theorem units_len {tails : List (List PySem.Str)} (hm : Menu tails) : ∀ {ps : List Int}, (∀ p ∈ ps, 0 ≤ p ∧ p < 16) → (unitsF tails ps).length ≤ 3 * ps.length
  | [], _ => Nat.le_refl _
  | p :: ps, h => by
    have h1 := h p (by simp)
    have h2 := units_len hm (ps := ps) fun q hq => h q (by simp [hq])
    have h3 := menu_len _ (hm p h1.1 h1.2)
    have h4 := List.length_filter_le (· != quoteS) (tails.getD p.toNat [])
    have e : unitsF tails (p :: ps) = (chrS p :: ((tails.getD p.toNat []).filter (· != quoteS))) ++ unitsF tails ps := by simp [unitsF]
    rw [e, List.length_append, List.length_cons, List.length_cons]
    omega
/-- the units that are left, but for the end -/
def bodyL (c : List Int) (tails : List (List PySem.Str)) : List PySem.Str := if c.getD 15 0 == 1 then unitsF tails (shownF c) ++ [quoteS] ++ unitsF tails (upto (behindF c tails) 16) else unitsF tails (shownF c)
theorem left_body (c : List Int) (tails : List (List PySem.Str)) (ends : List PySem.Str) : leftF c tails ends = bodyL c tails ++ ends := rfl
theorem body_unit {c : List Int} {tails : List (List PySem.Str)} (hm : Menu tails) : (∀ u ∈ bodyL c tails, Unit1 u) ∧ (bodyL c tails).length ≤ 97 := by
  have h1 : ∀ p ∈ shownF c, 0 ≤ p ∧ p < 16 := fun p hp => upto_mem.mp (List.mem_filter.mp hp).1
  have hb := behindN_le (c := c) (tails := tails) (n := 16) (by omega)
  have h2 : ∀ p ∈ upto (behindF c tails) 16, 0 ≤ p ∧ p < 16 := fun p hp => by
    have := upto_mem.mp hp
    have : 0 ≤ behindF c tails := hb.1
    omega
  have l1 := units_len hm h1
  have l2 := units_len hm h2
  have l3 : (shownF c).length ≤ 16 := by
    have := List.length_filter_le (fun p : Int => c.getD p.toNat 0 == 0) (upto 0 16)
    rw [upto_len] at this
    exact this
  have l4 : (upto (behindF c tails) 16).length ≤ 16 := by
    rw [upto_len]
    have : 0 ≤ behindF c tails := hb.1
    omega
  unfold bodyL
  split
  · refine ⟨fun u hu => ?_, ?_⟩
    · rcases List.mem_append.mp hu with hu | hu
      · rcases List.mem_append.mp hu with hu | hu
        · exact units_unit hm h1 u hu
        · rw [List.mem_singleton.mp hu]; exact quote_unit
      · exact units_unit hm h2 u hu
    · rw [List.length_append, List.length_append, List.length_singleton]; omega
  · exact ⟨units_unit hm h1, by omega⟩
theorem esc_left {c : List Int} {tails ends : List _} (hm : Menu tails) (he : EndOk ends) : escU 0 false (Txt.join "" (leftF c tails ends)).cps.toList = spotsF (-1) (leftF c tails ends) := by
  rw [left_body, join_flat]
  exact esc_units he _ 0 (body_unit hm).1
theorem left_len {c : List Int} {tails ends : List _} (hm : Menu tails) (he : EndOk ends) : (leftF c tails ends).length ≤ 200 ∧ ∀ u ∈ leftF c tails ends, u.length ≤ 2 := by
  obtain ⟨h1, h2⟩ := body_unit (c := c) hm
  obtain ⟨h3, h4⟩ := end_len he
  rw [left_body]
  refine ⟨by rw [List.length_append]; omega, fun u hu => ?_⟩
  rcases List.mem_append.mp hu with hu | hu
  · exact (h1 u hu).len.2
  · have := h4 u hu; omega

theorem bit_of {x : Int} : x % 2 = 0 ∨ x % 2 = 1 := by omega
theorem row_bits (F : List Int) (t : Int) : ∀ x ∈ rowF F t, x = 0 ∨ x = 1 := by
  intro x hx
  obtain ⟨p, _, rfl⟩ := List.mem_map.mp hx
  exact bit_of
theorem row4_bits (F : List Int) : ∀ x ∈ row4F F, x = 0 ∨ x = 1 := by
  intro x hx
  obtain ⟨p, _, rfl⟩ := List.mem_map.mp hx
  exact bit_of
theorem first_bits (n : Int) : ∀ x ∈ firstF n, x = 0 ∨ x = 1 := by
  intro x hx
  obtain ⟨p, _, rfl⟩ := List.mem_map.mp hx
  exact bit_of
theorem rowAt0 (n : Int) : rowAt n 0 = firstF n := rfl
theorem rowAt1 (n : Int) : rowAt n 1 = rowF (firstF n) 1 := rfl
theorem rowAt2 (n : Int) : rowAt n 2 = rowF (firstF n) 2 := rfl
theorem rowAt3 (n : Int) : rowAt n 3 = rowF (firstF n) 3 := rfl
theorem rowAt4 (n : Int) : rowAt n 4 = row4F (firstF n) := rfl
theorem five {P : Nat → Prop} (h0 : P 0) (h1 : P 1) (h2 : P 2) (h3 : P 3) (h4 : P 4) : ∀ i, i < 5 → P i := by
  intro i hi
  match i, hi with
  | 0, _ => exact h0
  | 1, _ => exact h1
  | 2, _ => exact h2
  | 3, _ => exact h3
  | 4, _ => exact h4
theorem four {P : Nat → Prop} (h0 : P 0) (h1 : P 1) (h2 : P 2) (h3 : P 3) : ∀ i, i < 4 → P i := by
  intro i hi
  match i, hi with
  | 0, _ => exact h0
  | 1, _ => exact h1
  | 2, _ => exact h2
  | 3, _ => exact h3
theorem row_ok (n : Int) : ∀ i, i < 5 → (rowAt n i).length = 16 ∧ ∀ x ∈ rowAt n i, x = 0 ∨ x = 1 := by
  have l : ∀ t, (rowF (firstF n) t).length = 16 := fun t => by unfold rowF; rw [List.length_map, upto_len]; rfl
  refine five ?_ ?_ ?_ ?_ ?_
  · rw [rowAt0]; exact ⟨by unfold firstF; rw [List.length_map, upto_len]; rfl, first_bits n⟩
  · rw [rowAt1]; exact ⟨l _, row_bits _ _⟩
  · rw [rowAt2]; exact ⟨l _, row_bits _ _⟩
  · rw [rowAt3]; exact ⟨l _, row_bits _ _⟩
  · rw [rowAt4]; exact ⟨by unfold row4F; rw [List.length_map, upto_len]; rfl, row4_bits _⟩
theorem row_next (n : Int) : ∀ i, i < 4 → NextRow (rowAt n i) (rowAt n (i + 1)) := by
  intro i hi
  refine next_of (row_ok n i (by omega)).2 (row_ok n (i + 1) (by omega)).2 ?_ ?_
  all_goals
    revert i
  · have hb := first_bits n
    have hl : (firstF n).length = 16 := (row_ok n 0 (by omega)).1
    refine four ?_ ?_ ?_ ?_
    · rw [rowAt0, rowAt1]
      generalize firstF n = F at hb hl
      obtain ⟨a0, a1, a2, a3, a4, a5, a6, a7, a8, a9, a10, a11, a12, a13, a14, a15, rfl⟩ := len16 hl
      rw [sums1_eq]
      exact (step0 a0 a1 a2 a3 a4 a5 a6 a7 a8 a9 a10 a11 a12 a13 a14 a15 (hb a0 (by simp))).1
    · rw [rowAt1, rowAt2]
      generalize firstF n = F at hb hl
      obtain ⟨a0, a1, a2, a3, a4, a5, a6, a7, a8, a9, a10, a11, a12, a13, a14, a15, rfl⟩ := len16 hl
      rw [sums1_eq, sums2_eq]
      exact (step1 a0 a1 a2 a3 a4 a5 a6 a7 a8 a9 a10 a11 a12 a13 a14 a15).1
    · rw [rowAt2, rowAt3]
      generalize firstF n = F at hb hl
      obtain ⟨a0, a1, a2, a3, a4, a5, a6, a7, a8, a9, a10, a11, a12, a13, a14, a15, rfl⟩ := len16 hl
      rw [sums2_eq, sums3_eq]
      exact (step2 a0 a1 a2 a3 a4 a5 a6 a7 a8 a9 a10 a11 a12 a13 a14 a15).1
    · rw [rowAt3, rowAt4]
      generalize firstF n = F at hb hl
      obtain ⟨a0, a1, a2, a3, a4, a5, a6, a7, a8, a9, a10, a11, a12, a13, a14, a15, rfl⟩ := len16 hl
      rw [sums3_eq, sums4_eq]
      exact (step3 a0 a1 a2 a3 a4 a5 a6 a7 a8 a9 a10 a11 a12 a13 a14 a15).1
  · have hb := first_bits n
    have hl : (firstF n).length = 16 := (row_ok n 0 (by omega)).1
    refine four ?_ ?_ ?_ ?_
    · rw [rowAt0, rowAt1]
      generalize firstF n = F at hb hl
      obtain ⟨a0, a1, a2, a3, a4, a5, a6, a7, a8, a9, a10, a11, a12, a13, a14, a15, rfl⟩ := len16 hl
      rw [sums1_eq]
      exact (step0 a0 a1 a2 a3 a4 a5 a6 a7 a8 a9 a10 a11 a12 a13 a14 a15 (hb a0 (by simp))).2
    · rw [rowAt1, rowAt2]
      generalize firstF n = F at hb hl
      obtain ⟨a0, a1, a2, a3, a4, a5, a6, a7, a8, a9, a10, a11, a12, a13, a14, a15, rfl⟩ := len16 hl
      rw [sums1_eq, sums2_eq]
      exact (step1 a0 a1 a2 a3 a4 a5 a6 a7 a8 a9 a10 a11 a12 a13 a14 a15).2
    · rw [rowAt2, rowAt3]
      generalize firstF n = F at hb hl
      obtain ⟨a0, a1, a2, a3, a4, a5, a6, a7, a8, a9, a10, a11, a12, a13, a14, a15, rfl⟩ := len16 hl
      rw [sums2_eq, sums3_eq]
      exact (step2 a0 a1 a2 a3 a4 a5 a6 a7 a8 a9 a10 a11 a12 a13 a14 a15).2
    · rw [rowAt3, rowAt4]
      generalize firstF n = F at hb hl
      obtain ⟨a0, a1, a2, a3, a4, a5, a6, a7, a8, a9, a10, a11, a12, a13, a14, a15, rfl⟩ := len16 hl
      rw [sums3_eq, sums4_eq]
      exact (step3 a0 a1 a2 a3 a4 a5 a6 a7 a8 a9 a10 a11 a12 a13 a14 a15).2
theorem facts (n d : Int) (o : Bool) (h0 : 0 ≤ n) (h1 : n < 65536) : Facts n (tailsF d) (endsF o) := by
  have hm := menu_F d
  have he := ends_F o
  have hin : ∀ p ∈ upto 0 16, 0 ≤ p ∧ p < 16 := fun p hp => upto_mem.mp hp
  have hw : ∀ i, i < 5 → ∃ l0 l1 l2 l3, Letters (rowAt n i) l0 l1 l2 l3 := fun i hi => letters_of (row_ok n i hi).1 (row_ok n i hi).2
  refine ⟨h0, h1, ?_, ?_, (end_len he).1, fun i hi => (row_ok n i hi).1, fun i hi x hx => ?_, ?_, fun i hi => ?_, fun i hi => ?_, fun i hi => ?_, fun i hi p hp => ?_, fun p hp => ?_, (end_len he).2, fun i hi => line_len hm he, fun i hi => strip_line hm he (row_next n i hi), fun i hi => left_len hm he, fun i hi => esc_left hm he, fun i hi => ?_, fun i hi => ?_⟩
  · unfold tailsF; rw [List.length_map, upto_len]; rfl
  · intro t ht; exact menu_len t (tails_all d t ht)
  · rcases (row_ok n i hi).2 x hx with h | h <;> omega
  · obtain ⟨l0, l1, l2, l3, L⟩ := hw 0 (by omega)
    have := (word_num L).2.2
    rw [rowAt0, num_first h0 h1] at this
    exact this
  · obtain ⟨l0, l1, l2, l3, L⟩ := hw i hi
    rw [word_B L]
    exact wordB_len _ _ _ _
  · obtain ⟨l0, l1, l2, l3, L⟩ := hw i hi
    exact wlet_B L
  · exact bits_B (row_ok n i hi).1 (row_ok n i hi).2
  · have := piece_len (b := rowAt n i) hm (hin p hp).1 (hin p hp).2; omega
  · have := menu_sum _ (hm p (hin p hp).1 (hin p hp).2); omega
  · exact carried_left hm he (row_ok n (i + 1) (by omega)).1 (row_next n i hi).c01
  · obtain ⟨l0, l1, l2, l3, L⟩ := hw i hi
    exact word_num L
end Mine

namespace Mine

/-- the script: a list of ints -/
theorem ints_of_items {R : WRecords} : ∀ {ds : List WData}, WShape.hasItems R ds .int = true → ∃ xs : List Int, ds = xs.map .int
  | [], _ => ⟨[], rfl⟩
  | d :: ds, h => by
    simp only [WShape.hasItems, Bool.and_eq_true] at h
    obtain ⟨xs, rfl⟩ := ints_of_items h.2
    cases d <;> first | (simp [WShape.has, WShape.arms] at h; done) | exact ⟨_ :: xs, rfl⟩
theorem rep_ints {P : Params} {h : Heap} : ∀ {vs : List Value} {xs : List Int}, WellAll P h vs (xs.map .int) → RepAll (fun _ => False) h vs (intsD xs)
  | [], [], _ => RepAll.nil
  | v :: vs, x :: xs, w => by
    have w' : WellAll P h (v :: vs) (WData.int x :: xs.map .int) := w
    obtain ⟨w1, w2⟩ := wellAll_head w'
    cases w1
    exact RepAll.cons (.int _ _) (rep_ints w2)
  | [], _ :: _, w => by cases w
  | _ :: _, [], w => by cases w
theorem rep_script {P : Params} {h : Heap} {v : Value} {xs : List Int} (w : Well P h v (.list (xs.map .int))) : Rep (fun _ => False) h v (.lst (intsD xs)) := by
  cases w with
  | list ho ws =>
    have r := rep_ints ws
    exact .lst (n := 0) (fun hz => hz) ho r.1 r.2
theorem most_of {R : WRecords} {xs : List Int} (h : ((Challenge.rw_pk0025_01).pre).holds R { args := [.list (xs.map .int)] } = true) : xs.length ≤ 63 := by
  have h2 := (holds_andW h).1
  have h3 : WTm.holds R (.not (.lt (.lit (.int 63)) (.len (.arg 0)))) { args := [.list (xs.map .int)] } = true := h2
  unfold WTm.holds at h3
  simp only [WTm.value] at h3
  by_cases hc : (63 : Int) < (xs.length : Int)
  · exfalso
    have e : less? (.int 63) (.int ((xs.map WData.int).length : Int)) = some true := by
      rw [List.length_map]
      show some (decide ((63 : Int) < (xs.length : Int))) = some true
      rw [decide_eq_true hc]
    have e0 : [WData.list (List.map WData.int xs)][0]? = some (WData.list (List.map WData.int xs)) := rfl
    rw [e0] at h3
    dsimp only at h3
    rw [e] at h3
    cases h3
  · omega

/-- the text's defs, by their places -/
def defPlaces : List (Nat × PySem.Str) := [(1, "_iter_escaped_chars"), (2, "_strip_quoted_realnames"), (4, "Int2AP"), (6, "_law_word"), (7, "_law_rows"), (8, "_law_units"), (9, "_law_left")]
theorem join {q : Program} {loose : List PySem.Str} {XP : (PySem.Str → Option Value) → Heap → Prop} {YP : World → Heap → Prop} {d : DefRec} {kwd : List (PySem.Str × Expr)}
    (hn : d.name = "law") (hp : d.params = paramsOf (stAt 10)) (hb : d.body = bodyOf (stAt 10)) (hs : d.scope = scopeOf (stAt 10)) (hkw : kwd = [])
    (hrec : ∀ x ∈ defPlaces, ∃ pos, (⟨x.2, paramsOf (stAt x.1), bodyOf (stAt x.1), scopeOf (stAt x.1), pos⟩ : DefRec) ∈ recsOf q)
    (hfree : ∀ x ∈ usedNames, x ∉ startupNames ∧ x ∉ looseW q loose ∧ x ∉ (recsOf q).map (·.name) ∧ x ∉ (litsOf q).map (·.1) ∧ x ∉ (clssOf q (looseW q loose)).map (·.name)) :
    WalkO q loose XP YP Challenge.rw_pk0025_01.row.toRowW d kwd fun f vs => PySem.call f vs := by
  intro w s₀ s₁ mg mb G Y fa o pm cd doc dV kV ho hd hcd hD hmg hg args vals as hpre hlay hrd hwl hlo
  obtain ⟨hsh, hcond⟩ := pre_splitW hpre
  -- the script
  have hsh' : WShape.hasAll [] args [.list .int] = true := hsh
  obtain ⟨dd, rest, rfl, h1, h2⟩ := hasAllW_cons hsh'
  obtain rfl := hasAllW_nil h2
  obtain ⟨items, rfl, h3⟩ := hasW_list h1
  obtain ⟨xs, rfl⟩ := ints_of_items h3
  have hxs : xs.length ≤ 63 := most_of hcond
  obtain ⟨v, rfl, hwv⟩ : ∃ v, vals = [v] ∧ Well w.params s₁.heap v (.list (xs.map .int)) := by
    cases hwl with
    | cons a b => cases b; exact ⟨_, rfl, a⟩
  have rs : RepAll (fun _ => False) s₁.heap [v] [.lst (intsD xs)] := RepAll.cons (rep_script hwv) RepAll.nil
  -- the run's fixed parts
  let U : Uni := ⟨Challenge.pw_pk0025_01, w, mg, mb, s₁.heap, []⟩
  have T0 : Top0 U := ⟨G.T.g, G.T.b, G.T.nolimit, G.T.builtins, fun x hx => by obtain ⟨a, b, c, e, f⟩ := hfree x hx; exact G.T.free x a b c e f, fun d hd => by cases hd⟩
  have Gl0 : Gl U s₁.heap := ⟨T0, Kept.refl _⟩
  have fn : ∀ x ∈ defPlaces, ∃ a pm cd doc, FnAt U x.2 a (fdAt x.1 x.2 pm cd doc) := fun x hx => by
    obtain ⟨pos, hm⟩ := hrec x hx
    obtain ⟨a, o, pm, cd, doc, e1, e2, e3, e4⟩ := G.T.fn _ hm
    exact ⟨a, pm, cd, doc, e1, ⟨o, e2, e3⟩, e4⟩
  have FF : Fns U := ⟨fn (1, _) (by decide), fn (2, _) (by decide), fn (4, _) (by decide), fn (6, _) (by decide), fn (7, _) (by decide), fn (8, _) (by decide), fn (9, _) (by decide)⟩
  subst hkw
  obtain ⟨name, params, body, scope, pos⟩ := d
  dsimp only at hn hp hb hs ho hd hcd hD hmg
  subst hn hp hb hs
  have hdV : dV = .none := by
    rcases hD.pos with ⟨_, h⟩ | ⟨h, _⟩
    · exact h
    · exact absurd rfl h
  have hkV : kV = .none := hD.noKw
  subst hdV hkV
  have F : FnAt U "law" fa (fdAt 10 "law" pm cd doc) := ⟨hmg, ⟨o, ho, hd⟩, hcd⟩
  have f : Fit 103 callerA := ⟨rfl, by decide, by decide⟩
  show wpAny (model U.prog U.w) callerA (call (.ref fa) [v]) _ _ s₁
  refine call_def (ps := ["script"]) (ds := [.lst (intsD xs)]) F f Gl0 (fun b hb => hb.elim) rs rfl rfl rfl rfl rfl rfl (by rfl) (by decide) rfl rfl rfl ?_
  intro env h₁ tk X E'
  have em : (fun y : PySem.Str => (List.zip (["script"] : List PySem.Str) [D.lst (intsD xs)]).lookup y) = fun y : PySem.Str => if y = "script" then some (D.lst (intsD xs)) else none := funext fun y => by
    show (match y == ("script" : PySem.Str) with | true => some (D.lst (intsD xs)) | false => none) = if y = "script" then some (D.lst (intsD xs)) else none
    by_cases h : y = "script"
    · rw [if_pos h, h]; rfl
    · rw [if_neg h, beq_eq_false_iff_ne.mpr h]
  rw [em] at X
  change FEnv U (scopeOf (stAt 10)) _ _ _ _ _ _ at X
  refine law_body (s := { s₁ with heap := h₁, toks := tk }) FF facts hxs (f.deeper env) X fun h' tk' gs hk hgs => ⟨_, rfl, ?_⟩
  refine ⟨.inl ⟨.bool true, .bool true, [], rfl, fun _ => rfl, .bool true, ?_, fun _ => ⟨List.nodup_nil, fun a ha => by cases ha⟩⟩, .of_keep hk, rfl, hgs ?_⟩
  · wrow_post
  · show AllBare s₁.gens
    rw [hg]
    exact .of_eq rfl
end Mine

namespace Mine
def posOf : Stmt → Pos
  | .FunctionDef _ _ _ _ _ _ _ _ _ pos => pos
  | _ => ⟨0, 0, 0, 0⟩
def recAt (x : Nat × PySem.Str) : DefRec := ⟨x.2, paramsOf (stAt x.1), bodyOf (stAt x.1), scopeOf (stAt x.1), posOf (stAt x.1)⟩
theorem rec_of {q : Program} (h : recsOf q = (defPlaces ++ [((10, "law") : Nat × PySem.Str)]).map recAt) : ∀ x ∈ defPlaces, ∃ pos, (⟨x.2, paramsOf (stAt x.1), bodyOf (stAt x.1), scopeOf (stAt x.1), pos⟩ : DefRec) ∈ recsOf q := fun x hx =>
  ⟨posOf (stAt x.1), by rw [h]; exact List.mem_map.mpr ⟨x, List.mem_append_left _ hx, rfl⟩⟩
def freeIn (q : Program) (loose : List PySem.Str) : Bool := usedNames.all fun x => !(startupNames.contains x || (looseW q loose).contains x || ((recsOf q).map (·.name)).contains x || ((litsOf q).map (·.1)).contains x || ((clssOf q (looseW q loose)).map (·.name)).contains x)
theorem free_of {q : Program} {loose : List PySem.Str} (h : freeIn q loose = true) : ∀ x ∈ usedNames, x ∉ startupNames ∧ x ∉ looseW q loose ∧ x ∉ (recsOf q).map (·.name) ∧ x ∉ (litsOf q).map (·.1) ∧ x ∉ (clssOf q (looseW q loose)).map (·.name) := fun x hx => by
  have := List.all_eq_true.mp h x hx
  simp only [Bool.not_eq_true', Bool.or_eq_false_iff, List.contains_eq_mem, decide_eq_false_iff_not] at this
  obtain ⟨⟨⟨⟨a, b⟩, c⟩, d⟩, e⟩ := this
  exact ⟨a, b, c, d, e⟩
end Mine
set_option maxRecDepth 100000 in
set_option maxHeartbeats 8000000 in
theorem PySem.Challenge.cw_pk0025_01_holds : PySem.Challenge.rw_pk0025_01.Holds := by
  (w_on; o_law; k_head; (case hw => w_witness2))
  exact Mine.join rfl rfl rfl rfl rfl (Mine.rec_of (by kernel_rfl)) (Mine.free_of (by decide +kernel))
