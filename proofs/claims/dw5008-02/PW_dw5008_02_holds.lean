import PyProof.Rows.All
import Wide.All
import OpenK.AllK
import Wide.FinOn
import PyProof.MeetsSeq3
import KE.KDictList
import KE.KSuperObj
import KE.IntBitsLaws
import Lean
import PySem.Challenge.RW_dw5008_02

/- part Lay1 -/
open PySem PySem.W PyProof.Rows
set_option Elab.async false
namespace Lay

/- the functions of a program -/
def stmtAt (p : Program) (i : Nat) : Stmt := (p.main.body[i]?).getD default
def fBody : Stmt → List Stmt
  | .FunctionDef _ _ b _ _ _ _ _ _ _ => b
  | _ => []
def fScope : Stmt → Scope
  | .FunctionDef _ _ _ _ _ _ s _ _ _ => s
  | _ => default
def fArgs : Stmt → Arguments
  | .FunctionDef _ a _ _ _ _ _ _ _ _ => a
  | _ => default
def fName : Stmt → Str
  | .FunctionDef n _ _ _ _ _ _ _ _ _ => n
  | _ => default
def fdOf (st : Stmt) (pm cd doc dV kV ct : Value) (an : Option Addr) : FuncData :=
  { name := fName st, qualname := fName st, params := fArgs st, body := .stmts (fBody st), scope := fScope st, globals := mainGlobals, closure := [], defaults := dV, kwdefaults := kV, doc, pyModule := pm, annotations := an, code := cd, closureTuple := ct, builtins := builtinsNs }
def cBody : List Stmt → List Stmt
  | .ClassDef _ _ _ b _ _ _ _ _ _ _ :: _ => b
  | _ => []
/-- a method of the class that the module's second statement makes -/
def stMeth (p : Program) (i : Nat) : Stmt := ((cBody (fBody (stmtAt p 1)))[i]?).getD default
def methFd (p : Program) (i : Nat) (q : Str) (cl : List (Str × Addr)) (pm cd ct : Value) : FuncData :=
  { name := fName (stMeth p i), qualname := q, params := fArgs (stMeth p i), body := .stmts (fBody (stMeth p i)), scope := fScope (stMeth p i), globals := mainGlobals, closure := cl, defaults := .none, kwdefaults := .none, doc := .none, pyModule := pm, code := cd, closureTuple := ct, builtins := builtinsNs }
/-- what a class K of cmp_to_key is made of -/
structure KRec where
  ns : Addr
  fI : Addr
  fL : Addr
  fE : Addr
  cI : Addr
  cL : Addr
  cE : Addr
  ce : Addr
  de : Addr
  bs : Addr
  tok : Nat → Tok
  val : Nat → Value
  pm : Value
  rest : Nat → List Value
def kCls (ns cK : Addr) : ClassData := { name := "K", bases := [.type "object"], mro := [.ref cK, .type "object"], ns := ns, qualname := "cmp_to_key.<locals>.K", hasDict := false, slotNames := ["obj"] }
structure KFacts (F : Addr → Option Obj) (p : Program) (P : Params) (cK : Addr) (f : Value) (r : KRec) : Prop where
  cls : F cK = some { cls := .type "type", dict := none, data := .cls (kCls r.ns cK), slots := #[some (.ref r.bs), none, some (.str "K" (r.tok 0)), some (.str "cmp_to_key.<locals>.K" (r.tok 1)), some (.builtin "object.__new__"), some (.bool false)] }
  ns : F r.ns = some { cls := .type "dict", dict := none, data := .dict #[
      { hash := PyData.keyHash P "__module__", key := .str "__module__" (r.tok 2), val := r.val 2 },
      { hash := PyData.keyHash P "__firstlineno__", key := .str "__firstlineno__" (r.tok 3), val := r.val 3 },
      { hash := PyData.keyHash P "__slots__", key := .str "__slots__" (r.tok 4), val := r.val 4 },
      { hash := PyData.keyHash P "__init__", key := .str "__init__" (r.tok 5), val := .ref r.fI },
      { hash := PyData.keyHash P "__lt__", key := .str "__lt__" (r.tok 6), val := .ref r.fL },
      { hash := PyData.keyHash P "__gt__", key := .str "__gt__" (r.tok 7), val := r.val 7 },
      { hash := PyData.keyHash P "__eq__", key := .str "__eq__" (r.tok 8), val := .ref r.fE },
      { hash := PyData.keyHash P "__le__", key := .str "__le__" (r.tok 9), val := r.val 9 },
      { hash := PyData.keyHash P "__ge__", key := .str "__ge__" (r.tok 10), val := r.val 10 },
      { hash := PyData.keyHash P "__hash__", key := .str "__hash__" (r.tok 11), val := .none },
      { hash := PyData.keyHash P "__static_attributes__", key := .str "__static_attributes__" (r.tok 12), val := r.val 12 },
      { hash := PyData.keyHash P "obj", key := .str "obj" (r.tok 13), val := .ref r.de },
      { hash := PyData.keyHash P "__doc__", key := .str "__doc__" (r.tok 14), val := .none }] 3, slots := #[] }
  init : F r.fI = some { cls := .type "function", dict := none, data := .func (methFd p 2 "cmp_to_key.<locals>.K.__init__" [] r.pm (.ref r.cI) .none), slots := #[] }
  initC : F r.cI = some { cls := .type "code", dict := none, data := .fields (Array.mk (r.val 15 :: .str "cmp_to_key.<locals>.K.__init__" (r.tok 15) :: r.rest 15)), slots := #[] }
  lt : F r.fL = some { cls := .type "function", dict := none, data := .func (methFd p 3 "cmp_to_key.<locals>.K.__lt__" [("mycmp", r.ce)] r.pm (.ref r.cL) (r.val 16)), slots := #[] }
  ltC : F r.cL = some { cls := .type "code", dict := none, data := .fields (Array.mk (r.val 17 :: .str "cmp_to_key.<locals>.K.__lt__" (r.tok 17) :: r.rest 17)), slots := #[] }
  eq : F r.fE = some { cls := .type "function", dict := none, data := .func (methFd p 5 "cmp_to_key.<locals>.K.__eq__" [("mycmp", r.ce)] r.pm (.ref r.cE) (r.val 18)), slots := #[] }
  eqC : F r.cE = some { cls := .type "code", dict := none, data := .fields (Array.mk (r.val 19 :: .str "cmp_to_key.<locals>.K.__eq__" (r.tok 19) :: r.rest 19)), slots := #[] }
  cell : ∃ o, F r.ce = some o ∧ o.data = .cell (some f)
  desc : F r.de = some { cls := .type "member_descriptor", dict := none, data := .fields #[.str "obj" (r.tok 20), .ref cK, .builtin "proto.slot", .builtin "proto.slot#set", .int 0 0], slots := #[] }
theorem KFacts.mono {F F' : Addr → Option Obj} {p : Program} {P : Params} {cK : Addr} {f : Value} {r : KRec} (h : KFacts F p P cK f r) (le : ∀ a o, F a = some o → F' a = some o) : KFacts F' p P cK f r :=
  ⟨le _ _ h.cls, le _ _ h.ns, le _ _ h.init, le _ _ h.initC, le _ _ h.lt, le _ _ h.ltC, le _ _ h.eq, le _ _ h.eqC, (let ⟨o, e, c⟩ := h.cell; ⟨o, le _ _ e, c⟩), le _ _ h.desc⟩
def KCl (F : Addr → Option Obj) (p : Program) (P : Params) (cK : Addr) (f : Value) : Prop := ∃ r, KFacts F p P cK f r

/-- data as values; `raw` is any value as it is (a function, a class, an own cell); `kcl` a class of cmp_to_key over f, `inst` one of its things -/
inductive D where
  | none | bool (b : Bool) | int (i : Int) | tup (l : List D) | lst (l : List D) | rng (lo hi : Int) | raw (v : Value)
  | kcl (p : Program) (P : Params) (c : Addr) (f : Value) | inst (p : Program) (P : Params) (c : Addr) (f : Value) (d : D)

abbrev FZ := Addr → Option Obj
abbrev Rho := Str → Option D
def FLe (F F' : FZ) : Prop := ∀ a o, F a = some o → F' a = some o
theorem FLe.refl (F : FZ) : FLe F F := fun _ _ e => e
theorem FLe.trans {F F' F'' : FZ} (x : FLe F F') (y : FLe F' F'') : FLe F F'' := fun a o e => y a o (x a o e)

mutual
def Rep (F : FZ) : D → Value → Prop
  | .none, v => v = .none
  | .bool b, v => v = .bool b
  | .int i, v => ∃ t, v = .int i t
  | .raw u, v => v = u
  | .kcl p P c f, v => v = .ref c ∧ KCl F p P c f
  | .inst p P c f d, v => ∃ a dd u, v = .ref a ∧ F a = some { cls := .ref c, dict := some dd, data := .plain, slots := #[some u] } ∧ KCl F p P c f ∧ Rep F d u
  | .rng lo hi, v => ∃ a t u k, v = .ref a ∧ F a = some { cls := .type "range", dict := none, data := .fields #[.int lo t, .int hi u, .int 1 k], slots := #[] }
  | .tup l, v => ∃ a o vs n, v = .ref a ∧ F a = some o ∧ o.cls = .type "tuple" ∧ o.data = .seq vs n ∧ Reps F l vs.toList
  | .lst l, v => ∃ a o vs n, v = .ref a ∧ F a = some o ∧ o.cls = .type "list" ∧ o.data = .seq vs n ∧ Reps F l vs.toList
def Reps (F : FZ) : List D → List Value → Prop
  | [], vs => vs = []
  | d :: ds, vs => ∃ v vs', vs = v :: vs' ∧ Rep F d v ∧ Reps F ds vs'
end

mutual
theorem Rep.mono {F F' : FZ} (hF : FLe F F') : ∀ {d : D} {v : Value}, Rep F d v → Rep F' d v
  | .none, _, h => h
  | .bool _, _, h => h
  | .int _, _, h => h
  | .raw _, _, h => h
  | .kcl _ _ _ _, _, ⟨e, r, h⟩ => ⟨e, r, h.mono hF⟩
  | .inst _ _ _ _ _, _, ⟨a, dd, u, e, hf, ⟨r, h⟩, hr⟩ => ⟨a, dd, u, e, hF _ _ hf, ⟨r, h.mono hF⟩, Rep.mono hF hr⟩
  | .rng _ _, _, ⟨a, t, u, k, e, hf⟩ => ⟨a, t, u, k, e, hF _ _ hf⟩
  | .tup _, _, ⟨a, o, vs, n, e, hf, hc, hd, hr⟩ => ⟨a, o, vs, n, e, hF _ _ hf, hc, hd, Reps.mono hF hr⟩
  | .lst _, _, ⟨a, o, vs, n, e, hf, hc, hd, hr⟩ => ⟨a, o, vs, n, e, hF _ _ hf, hc, hd, Reps.mono hF hr⟩
theorem Reps.mono {F F' : FZ} (hF : FLe F F') : ∀ {ds : List D} {vs : List Value}, Reps F ds vs → Reps F' ds vs
  | [], _, h => h
  | _ :: _, _, ⟨v, vs', e, h, hr⟩ => ⟨v, vs', e, Rep.mono hF h, Reps.mono hF hr⟩
end
theorem Reps.length {F : FZ} : ∀ {ds : List D} {vs : List Value}, Reps F ds vs → vs.length = ds.length
  | [], _, h => by cases h; rfl
  | _ :: _, _, ⟨_, _, e, _, hr⟩ => by subst e; simp [hr.length]
theorem Reps.get {F : FZ} : ∀ {ds : List D} {vs : List Value} {i : Nat} {d : D}, Reps F ds vs → ds[i]? = some d → ∃ v, vs[i]? = some v ∧ Rep F d v
  | [], _, _, _, _, e => by simp at e
  | d :: ds, _, 0, _, ⟨v, vs', e, h, hr⟩, q => by subst e; simp at q; subst q; exact ⟨v, by simp, h⟩
  | d :: ds, _, i + 1, _, ⟨v, vs', e, h, hr⟩, q => by subst e; simp at q; obtain ⟨v', e', h'⟩ := hr.get q; exact ⟨v', by simpa using e', h'⟩
theorem Reps.append {F : FZ} : ∀ {ds : List D} {vs : List Value} {es : List D} {us : List Value}, Reps F ds vs → Reps F es us → Reps F (ds ++ es) (vs ++ us)
  | [], _, _, _, h, h' => by cases h; simpa using h'
  | _ :: _, _, _, _, ⟨v, vs', e, h, hr⟩, h' => by subst e; exact ⟨v, _, rfl, h, hr.append h'⟩
theorem Reps.drop {F : FZ} : ∀ (k : Nat) {ds : List D} {vs : List Value}, Reps F ds vs → Reps F (ds.drop k) (vs.drop k)
  | 0, _, _, h => h
  | k + 1, [], _, h => by cases h; exact rfl
  | k + 1, _ :: _, _, ⟨v, vs', e, h, hr⟩ => by subst e; exact hr.drop k
theorem Reps.one {F : FZ} {d : D} {v : Value} (h : Rep F d v) : Reps F [d] [v] := ⟨v, [], rfl, h, rfl⟩

inductive Cell where
  | list (l : List D)
  | app (l : List D)
  | iter (l : List D)
  | obj (o : Obj)
  | dict (l : List (List Int × D))
  | idict (l : List (Int × D))
  | pred (p : (Addr → Option Obj) → Obj → Prop)
abbrev Mu := Addr → Option Cell
def intsFrom (x : Int) : Nat → List D
  | 0 => []
  | n + 1 => .int x :: intsFrom (x + 1) n

def hashT (k : List Int) : Int := reduceHash (Builtin.Tuple.tupleHashOf (k.map hashInt))
/-- a dict's rows: a key of numbers, the key's tuple, the value -/
def DRep (F : FZ) : List (List Int × D) → List (List Int × Addr × Value) → Prop
  | [], xs => xs = []
  | (k, d) :: l, xs => ∃ a v xs', xs = (k, a, v) :: xs' ∧ Rep F (.tup (k.map .int)) (.ref a) ∧ Rep F d v ∧ DRep F l xs'
theorem DRep.mono {F F' : FZ} (hF : FLe F F') : ∀ {l : List (List Int × D)} {xs : List (List Int × Addr × Value)}, DRep F l xs → DRep F' l xs
  | [], _, h => h
  | (k, d) :: l, _, ⟨a, v, xs', e, h1, h2, h3⟩ => ⟨a, v, xs', e, h1.mono hF, h2.mono hF, h3.mono hF⟩
/-- a dict's rows: a number, the value -/
def IRep (F : FZ) : List (Int × D) → List (Int × Value) → Prop
  | [], xs => xs = []
  | (k, d) :: l, xs => ∃ v xs', xs = (k, v) :: xs' ∧ Rep F d v ∧ IRep F l xs'
theorem IRep.mono {F F' : FZ} (hF : FLe F F') : ∀ {l : List (Int × D)} {xs : List (Int × Value)}, IRep F l xs → IRep F' l xs
  | [], _, h => h
  | (k, d) :: l, _, ⟨v, xs', e, h2, h3⟩ => ⟨v, xs', e, h2.mono hF, h3.mono hF⟩
def CellRep (F : FZ) : Cell → Obj → Prop
  | .list l, o => o.cls = .type "list" ∧ ∃ vs n, o.data = .seq vs n ∧ Reps F l vs.toList
  | .app l, o => ∃ vs n, o = { cls := .type "list", data := .seq vs n } ∧ Reps F l vs.toList
  | .iter l, o => (∃ la ol i vs n, o.cls = .type "list_iterator" ∧ o.data = .fields #[.ref la, .int (i : Nat) 0] ∧ F la = some ol ∧ ol.cls = .type "list" ∧ ol.data = .seq vs n ∧ Reps F l (vs.toList.drop i)) ∨
      (∃ x k, o = { cls := .type "range_iterator", dict := none, data := .fields #[rawInt x, rawInt (k : Nat), rawInt 1], slots := #[] } ∧ l = intsFrom x k)
  | .obj o', o => o = o'
  | .dict l, o => o.ExactDict ∧ ∃ es ep xs, o.data = .dict es ep ∧ es.toList = xs.map (fun x => (⟨hashT x.1, .ref x.2.1, x.2.2⟩ : DictEntry)) ∧ (xs.map (·.1)).Nodup ∧ DRep F l xs
  | .idict l, o => ∃ kvs, (∀ (p : Program) (w : World), o.IsDictOf (intKind p w) kvs) ∧ IRep F l kvs
  | .pred p, o => ∃ F₀, FLe F₀ F ∧ p F₀ o
theorem CellRep.mono {F F' : FZ} (hF : FLe F F') : ∀ {c : Cell} {o : Obj}, CellRep F c o → CellRep F' c o
  | .list _, _, ⟨h1, vs, n, h3, h4⟩ => ⟨h1, vs, n, h3, h4.mono hF⟩
  | .app _, _, ⟨vs, n, h3, h4⟩ => ⟨vs, n, h3, h4.mono hF⟩
  | .iter _, _, .inl ⟨la, ol, i, vs, n, h1, h2, h3, h4, h5, h6⟩ => .inl ⟨la, ol, i, vs, n, h1, h2, hF _ _ h3, h4, h5, h6.mono hF⟩
  | .iter _, _, .inr h => .inr h
  | .dict _, _, ⟨h0, es, ep, xs, h1, h2, h3, h4⟩ => ⟨h0, es, ep, xs, h1, h2, h3, h4.mono hF⟩
  | .idict _, _, ⟨kvs, h1, h2⟩ => ⟨kvs, h1, h2.mono hF⟩
  | .pred _, _, ⟨F₀, h1, h2⟩ => ⟨F₀, h1.trans hF, h2⟩
  | .obj _, _, h => h

/-- what does not change during the law's call -/
structure Cx where
  prog : Program
  w : World
  h₁ : Heap
  tb : Addr
  gens : Array GenState
  os : OsState

structure HC (X : Cx) (F : FZ) (μ : Mu) (s : Shared) : Prop where
  fz : ∀ a o, F a = some o → s.heap.get? a = some o
  base : ∀ a o, X.h₁.get? a = some o → a ≠ X.tb → F a = some o
  cell : ∀ a c, μ a = some c → F a = none ∧ (a = X.tb ∨ X.h₁.get? a = none) ∧ ∃ o, s.heap.get? a = some o ∧ CellRep F c o
  old : OldK X.h₁ s.heap
  gens : s.gens = X.gens
  os : s.os = X.os

structure Step (W : Addr → Prop) (F : FZ) (μ : Mu) (s : Shared) (F' : FZ) (μ' : Mu) (s' : Shared) : Prop where
  le : FLe F F'
  keep : ∀ b o, s.heap.get? b = some o → μ b = none → ¬ W b → s'.heap.get? b = some o
  there : ∀ b o, s.heap.get? b = some o → μ b = none → ∃ o', s'.heap.get? b = some o'
  newF : ∀ a o, F' a = some o → F a = some o ∨ μ a ≠ none ∨ s.heap.get? a = none
  newM : ∀ a, μ' a ≠ none → μ a ≠ none ∨ s.heap.get? a = none
def No : Addr → Prop := fun _ => False

theorem Step.refl (W : Addr → Prop) (F : FZ) (μ : Mu) (s : Shared) : Step W F μ s F μ s :=
  ⟨.refl F, fun _ _ e _ _ => e, fun _ o e _ => ⟨o, e⟩, fun _ _ e => .inl e, fun _ e => .inl e⟩
theorem Step.gone {W : Addr → Prop} {F F₁ : FZ} {μ μ₁ : Mu} {s s₁ : Shared} (x : Step W F μ s F₁ μ₁ s₁) {a : Addr} (q : s₁.heap.get? a = none) : μ a ≠ none ∨ s.heap.get? a = none := by
  cases h : s.heap.get? a with
  | none => exact .inr rfl
  | some o' =>
    refine .inl fun hm => ?_
    obtain ⟨o'', e''⟩ := x.there a o' h hm; rw [q] at e''; cases e''
theorem Step.stay {W : Addr → Prop} {F F₁ : FZ} {μ μ₁ : Mu} {s s₁ : Shared} (x : Step W F μ s F₁ μ₁ s₁) {b : Addr} {o : Obj} (e : s.heap.get? b = some o) (hm : μ b = none) : μ₁ b = none := by
  cases h : μ₁ b with
  | none => rfl
  | some c => rcases x.newM b (by rw [h]; simp) with q | q
              · exact absurd hm q
              · rw [q] at e; cases e
theorem Step.trans {W : Addr → Prop} {F F₁ F₂ : FZ} {μ μ₁ μ₂ : Mu} {s s₁ s₂ : Shared} (x : Step W F μ s F₁ μ₁ s₁) (y : Step W F₁ μ₁ s₁ F₂ μ₂ s₂) : Step W F μ s F₂ μ₂ s₂ where
  le := x.le.trans y.le
  keep b o e hm hw := y.keep b o (x.keep b o e hm hw) (x.stay e hm) hw
  there b o e hm := by obtain ⟨o', e'⟩ := x.there b o e hm; exact y.there b o' e' (x.stay e hm)
  newF a o e := by
    rcases y.newF a o e with h | h | h
    · exact x.newF a o h
    · exact .inr (x.newM a h)
    · exact .inr (x.gone h)
  newM a e := by
    rcases y.newM a e with h | h
    · exact x.newM a h
    · exact x.gone h
theorem Step.weaken {W W' : Addr → Prop} {F F' : FZ} {μ μ' : Mu} {s s' : Shared} (x : Step W F μ s F' μ' s') (h : ∀ a, W a → W' a) : Step W' F μ s F' μ' s' :=
  ⟨x.le, fun b o e hm hw => x.keep b o e hm fun q => hw (h b q), x.there, x.newF, x.newM⟩

/-- a state in which the heap alone grew -/
theorem HC.grow {X : Cx} {F : FZ} {μ : Mu} {s : Shared} (H : HC X F μ s) {s' : Shared} (hk : ∀ b o, s.heap.get? b = some o → s'.heap.get? b = some o) (hg : s'.gens = s.gens) (ho : s'.os = s.os) : HC X F μ s' where
  fz a o e := hk a o (H.fz a o e)
  base := H.base
  cell a c e := let ⟨h1, h2, o, h3, h4⟩ := H.cell a c e; ⟨h1, h2, o, hk a o h3, h4⟩
  old := H.old.step_keeps hk
  gens := hg.trans H.gens
  os := ho.trans H.os
theorem Step.grow {W : Addr → Prop} {F : FZ} {μ : Mu} {s s' : Shared} (hk : ∀ b o, s.heap.get? b = some o → s'.heap.get? b = some o) : Step W F μ s F μ s' :=
  ⟨.refl F, fun b o e _ _ => hk b o e, fun b o e _ => ⟨o, hk b o e⟩, fun _ _ e => .inl e, fun _ e => .inl e⟩

/-- freeze an object that is new -/
def fput (F : FZ) (a : Addr) (o : Obj) : FZ := fun b => if b = a then some o else F b
theorem fput_le {F : FZ} {a : Addr} {o : Obj} (h : F a = none) : FLe F (fput F a o) := fun b o' e => by
  unfold fput
  split
  · rename_i q; subst q; rw [h] at e; cases e
  · exact e
theorem fput_self (F : FZ) (a : Addr) (o : Obj) : fput F a o a = some o := by simp [fput]
theorem HC.none_of_fresh {X : Cx} {F : FZ} {μ : Mu} {s : Shared} (H : HC X F μ s) {a : Addr} (h : s.heap.get? a = none) : F a = none ∧ μ a = none ∧ X.h₁.get? a = none := by
  refine ⟨?_, ?_, ?_⟩
  · cases e : F a with
    | none => rfl
    | some o => rw [H.fz a o e] at h; cases h
  · cases e : μ a with
    | none => rfl
    | some c => obtain ⟨_, _, o, h3, _⟩ := H.cell a c e; rw [h3] at h; cases h
  · cases e : X.h₁.get? a with
    | none => rfl
    | some o => obtain ⟨o', e'⟩ := H.old.there a o e; rw [e'] at h; cases h
theorem HC.freeze {X : Cx} {F : FZ} {μ : Mu} {s s' : Shared} (H : HC X F μ s) {a : Addr} {o : Obj} (ha : s.heap.get? a = none) (ho : s'.heap.get? a = some o)
    (hk : ∀ b o, s.heap.get? b = some o → s'.heap.get? b = some o) (hg : s'.gens = s.gens) (hos : s'.os = s.os) : HC X (fput F a o) μ s' ∧ Step No F μ s (fput F a o) μ s' := by
  obtain ⟨hF, hM, hB⟩ := H.none_of_fresh ha
  have H' := H.grow hk hg hos
  refine ⟨⟨fun b o' e => ?_, fun b o' e hb => fput_le hF _ _ (H.base b o' e hb), fun b c e => ?_, H'.old, H'.gens, H'.os⟩, ⟨fput_le hF, fun b o e _ _ => hk b o e, fun b o e _ => ⟨o, hk b o e⟩, fun b o' e => ?_, fun _ e => .inl e⟩⟩
  · unfold fput at e
    split at e
    · rename_i q; subst q; cases e; exact ho
    · exact H'.fz b o' e
  · obtain ⟨h1, h2, o', h3, h4⟩ := H'.cell b c e
    refine ⟨?_, h2, o', h3, h4.mono (fput_le hF)⟩
    unfold fput
    rw [if_neg (by rintro rfl; rw [hM] at e; cases e)]
    exact h1
  · unfold fput at e
    split at e
    · rename_i q; subst q; exact .inr (.inr ha)
    · exact .inl e
/-- a new object becomes an own cell -/
def mput (μ : Mu) (a : Addr) (c : Cell) : Mu := fun b => if b = a then some c else μ b
theorem HC.cellNew {X : Cx} {F : FZ} {μ : Mu} {s s' : Shared} (H : HC X F μ s) {a : Addr} {o : Obj} {c : Cell} (ha : s.heap.get? a = none) (ho : s'.heap.get? a = some o) (hc : CellRep F c o)
    (hk : ∀ b o, s.heap.get? b = some o → s'.heap.get? b = some o) (hg : s'.gens = s.gens) (hos : s'.os = s.os) : HC X F (mput μ a c) s' ∧ Step No F μ s F (mput μ a c) s' := by
  obtain ⟨hF, hM, hB⟩ := H.none_of_fresh ha
  have H' := H.grow hk hg hos
  refine ⟨⟨H'.fz, H.base, fun b c' e => ?_, H'.old, H'.gens, H'.os⟩, ⟨.refl F, fun b o e _ _ => hk b o e, fun b o e _ => ⟨o, hk b o e⟩, fun b o' e => .inl e, fun b e => ?_⟩⟩
  · unfold mput at e
    split at e
    · rename_i q; subst q; cases e; exact ⟨hF, .inr hB, o, ho, hc⟩
    · exact H'.cell b c' e
  · unfold mput at e
    split at e
    · rename_i q; subst q; exact .inr ha
    · exact .inl e
theorem old_same {h₀ h h' : Heap} (K : OldK h₀ h) {a : Addr} (ha : h₀.get? a = none) (hs : ∀ b o, b ≠ a → h.get? b = some o → h'.get? b = some o) (ht : ∀ o, h.get? a = some o → ∃ o', h'.get? a = some o') : OldK h₀ h' := by
  have ne : ∀ b o, h₀.get? b = some o → b ≠ a := fun b o e q => by subst q; rw [ha] at e; cases e
  refine ⟨fun b o e => ?_, fun b o e => by
    obtain ⟨o', ho'⟩ := K.there b o e
    exact ⟨o', hs b o' (ne b o e) ho'⟩⟩
  rcases K.old b o e with x | ⟨t, hc, vs, more, hv, x⟩ | ⟨rfl, hc, ⟨o', es, n, ho', r⟩, z⟩
  · exact .inl (hs b _ (ne b o e) x)
  · exact .inr (.inl ⟨t, hc, vs, more, hv, hs b _ (ne b o e) x⟩)
  · exact .inr (.inr ⟨rfl, hc, ⟨o', es, n, hs _ _ (ne _ o e) ho', r⟩, fun key => by rw [OldK.staticOf_congr ((hs _ _ (ne _ o e) ho').trans ho'.symm) key]; exact z key⟩)
/-- an own cell is written -/
theorem HC.cellSet {X : Cx} {F : FZ} {μ : Mu} {s s' : Shared} (H : HC X F μ s) {a : Addr} {o : Obj} {c₀ c : Cell} (hm : μ a = some c₀) (htb : a ≠ X.tb) (ho : s'.heap.get? a = some o) (hc : CellRep F c o)
    (hk : ∀ b o, b ≠ a → s.heap.get? b = some o → s'.heap.get? b = some o) (hg : s'.gens = s.gens) (hos : s'.os = s.os) : HC X F (mput μ a c) s' ∧ Step No F μ s F (mput μ a c) s' := by
  obtain ⟨hF, hB, oa, hoa, _⟩ := H.cell a c₀ hm
  have hB := hB.resolve_left htb
  refine ⟨⟨fun b o' e => hk b o' (by rintro rfl; rw [hF] at e; cases e) (H.fz b o' e), H.base, fun b c' e => ?_, old_same H.old hB hk fun _ _ => ⟨o, ho⟩, hg.trans H.gens, hos.trans H.os⟩,
    ⟨.refl F, fun b o' e hb _ => hk b o' (by rintro rfl; rw [hm] at hb; cases hb) e, fun b o' e _ => ?_, fun b o' e => .inl e, fun b e => ?_⟩⟩
  · unfold mput at e
    split at e
    · rename_i q; subst q; cases e; exact ⟨hF, .inr hB, o, ho, hc⟩
    · rename_i q
      obtain ⟨h1, h2, o', h3, h4⟩ := H.cell b c' e
      exact ⟨h1, h2, o', hk b o' q h3, h4⟩
  · by_cases q : b = a
    · subst q; exact ⟨o, ho⟩
    · exact ⟨o', hk b o' q e⟩
  · unfold mput at e
    split at e
    · rename_i q; subst q; exact .inl (by rw [hm]; simp)
    · exact .inl e

/-- the variables of a frame -/
structure VC (X : Cx) (F : FZ) (μ : Mu) (env : Env) (ρ : Rho) (s : Shared) : Prop where
  ns : ∃ m, s.heap.Ns env.locals m ∧ ∀ x d, ρ x = some d → env.kindOf x = some .local → ∃ v, m x = some v ∧ Rep F d v
  cv : ∀ x d, ρ x = some d → env.kindOf x = some .cell → ∃ a v, env.cells.lookup x = some a ∧ s.heap.IsCell a (some v) ∧ Rep F d v
  here : ∀ x a, (x, a) ∈ env.cells → ∃ v, s.heap.IsCell a v
  apart : env.cells.Pairwise fun x y => x.2 ≠ y.2
  lf : F env.locals = none ∧ μ env.locals = none ∧ X.h₁.get? env.locals = none
  cf : ∀ x a, (x, a) ∈ env.cells → F a = none ∧ μ a = none ∧ X.h₁.get? a = none ∧ a ≠ env.locals
  kind : env.scope.kind = .function
/-- the objects that bear the variables of a frame; those that it writes -/
def Uses (env : Env) (a : Addr) : Prop := a = env.locals ∨ ∃ x, (x, a) ∈ env.cells
def Own (env : Env) (a : Addr) : Prop := a = env.locals ∨ (env.func.isSome = true ∧ ∃ x, (x, a) ∈ env.cells)
theorem Own.uses {env : Env} {a : Addr} (h : Own env a) : Uses env a := h.elim .inl fun q => .inr q.2

theorem Ns_get {h : Heap} {a : Addr} {m : Str → Option Value} (n : h.Ns a m) : ∃ o, h.get? a = some o := let ⟨o, _, _, e, _⟩ := n; ⟨o, e⟩
theorem VC.step {X : Cx} {F F' : FZ} {μ μ' : Mu} {env : Env} {ρ : Rho} {s s' : Shared} (V : VC X F μ env ρ s) (S : Step No F μ s F' μ' s') : VC X F' μ' env ρ s' := by
  obtain ⟨m, hn, hm⟩ := V.ns
  obtain ⟨oL, hL⟩ := Ns_get hn
  have sep : ∀ a o, s.heap.get? a = some o → F a = none → μ a = none → F' a = none ∧ μ' a = none := fun a o e hF hM => by
    refine ⟨?_, ?_⟩
    · cases q : F' a with
      | none => rfl
      | some o' => rcases S.newF a o' q with h | h | h
                   · rw [hF] at h; cases h
                   · exact absurd hM h
                   · rw [h] at e; cases e
    · cases q : μ' a with
      | none => rfl
      | some o' => rcases S.newM a (by rw [q]; simp) with h | h
                   · exact absurd hM h
                   · rw [h] at e; cases e
  have keepc : ∀ x a v, (x, a) ∈ env.cells → s.heap.IsCell a v → s'.heap.IsCell a v := fun x a v hx ⟨o, ho, hd⟩ => ⟨o, S.keep a o ho (V.cf x a hx).2.1 id, hd⟩
  refine ⟨⟨m, hn.at' fun o e => S.keep _ o e V.lf.2.1 id, fun x d e k => let ⟨v, h1, h2⟩ := hm x d e k; ⟨v, h1, h2.mono S.le⟩⟩, fun x d e k => ?_, fun x a h => ?_, V.apart, ?_, fun x a h => ?_, V.kind⟩
  · obtain ⟨a, v, h1, h2, h3⟩ := V.cv x d e k
    exact ⟨a, v, h1, keepc x a _ (mem_of_lookup h1) h2, h3.mono S.le⟩
  · obtain ⟨v, hv⟩ := V.here x a h
    exact ⟨v, keepc x a v h hv⟩
  · exact ⟨(sep _ _ hL V.lf.1 V.lf.2.1).1, (sep _ _ hL V.lf.1 V.lf.2.1).2, V.lf.2.2⟩
  · obtain ⟨v, o, ho, _⟩ := V.here x a h
    obtain ⟨h1, h2, h3, h4⟩ := V.cf x a h
    exact ⟨(sep _ _ ho h1 h2).1, (sep _ _ ho h1 h2).2, h3, h4⟩

/-- room for n more levels -/
def AOk (n : Nat) (A : Around) : Prop := A.handled = none ∧ A.depth + n ≤ 900 ∧ A.units + 16 * n ≤ 9000
theorem AOk.in1 {n : Nat} {A : Around} (h : AOk (n + 1) A) : AOk n A.in1 := ⟨h.1, by have := h.2.1; simp only [Around.in1]; omega, by have := h.2.2; simp only [Around.in1]; omega⟩
theorem AOk.le {n k : Nat} {A : Around} (h : AOk n A) (hk : k ≤ n) : AOk k A := ⟨h.1, by have := h.2.1; omega, by have := h.2.2; omega⟩
theorem AOk.deeper {n : Nat} {A : Around} {env : Env} (h : AOk (n + 1) A) : AOk n (A.deeper env) := ⟨h.1, by have := h.2.1; simp only [Around.deeper]; omega, by have := h.2.2; simp only [Around.deeper]; omega⟩
theorem AOk.room {n : Nat} {A : Around} (h : AOk n A) : A.depth < recursionLimit := by have := h.2.1; unfold recursionLimit; omega
theorem AOk.units {n : Nat} {A : Around} (h : AOk n A) : A.units < cLine := by have := h.2.2; unfold cLine; omega

def Post (X : Cx) (Q : D → Mu → Prop) (F : FZ) (μ : Mu) (s : Shared) : Value → Shared → Prop :=
  fun v s' => ∃ d μ' F', Q d μ' ∧ Rep F' d v ∧ HC X F' μ' s' ∧ Step No F μ s F' μ' s'
def Never : Value → Shared → Prop := fun _ _ => False

/-- a tree over values that stand for data -/
def Op (X : Cx) (n : Nat) (t : List Value → Sem Value) (ds : List D) (μ : Mu) (Q : D → Mu → Prop) : Prop :=
  ∀ A F s vs, AOk n A → HC X F μ s → Reps F ds vs → wpAny (model X.prog X.w) A (t vs) (Post X Q F μ s) Never s
/-- an expression in a frame -/
def Ev (X : Cx) (n : Nat) (env : Env) (e : Expr) (ρ : Rho) (μ : Mu) (Q : D → Mu → Prop) : Prop :=
  ∀ A F s, AOk n A → HC X F μ s → VC X F μ env ρ s → wpAny (model X.prog X.w) A (eval e env) (Post X Q F μ s) Never s

theorem Post.mono {X : Cx} {Q Q' : D → Mu → Prop} {F : FZ} {μ : Mu} {s : Shared} (h : ∀ d μ', Q d μ' → Q' d μ') {v : Value} {s' : Shared} (p : Post X Q F μ s v s') : Post X Q' F μ s v s' :=
  let ⟨d, μ', F', q, r⟩ := p; ⟨d, μ', F', h d μ' q, r⟩
theorem Ev.mono {X : Cx} {n : Nat} {env : Env} {e : Expr} {ρ : Rho} {μ : Mu} {Q Q' : D → Mu → Prop} (x : Ev X n env e ρ μ Q) (h : ∀ d μ', Q d μ' → Q' d μ') : Ev X n env e ρ μ Q' :=
  fun A F s hA H V => wpAny_mono (x A F s hA H V) (fun _ _ p => p.mono h) fun _ _ e => e
theorem Post.after {X : Cx} {Q : D → Mu → Prop} {F F₁ : FZ} {μ μ₁ : Mu} {s s₁ : Shared} (S : Step No F μ s F₁ μ₁ s₁) {v : Value} {s' : Shared} (p : Post X Q F₁ μ₁ s₁ v s') : Post X Q F μ s v s' :=
  let ⟨d, μ', F', q, r, H, S'⟩ := p; ⟨d, μ', F', q, r, H, S.trans S'⟩
/-- a value that is there, in a state that grew at most -/
theorem Post.here {X : Cx} {Q : D → Mu → Prop} {F : FZ} {μ : Mu} {s : Shared} (H : HC X F μ s) {d : D} {v : Value} (q : Q d μ) (r : Rep F d v) {s' : Shared}
    (hk : ∀ b o, s.heap.get? b = some o → s'.heap.get? b = some o) (hg : s'.gens = s.gens) (ho : s'.os = s.os) : Post X Q F μ s v s' :=
  ⟨d, μ, F, q, r, H.grow hk hg ho, .grow hk⟩
theorem Post.now {X : Cx} {Q : D → Mu → Prop} {F : FZ} {μ : Mu} {s : Shared} (H : HC X F μ s) {d : D} {v : Value} (q : Q d μ) (r : Rep F d v) : Post X Q F μ s v s := .here H q r (fun _ _ e => e) rfl rfl
end Lay

/- part Lay2 -/
open PySem PySem.W PyProof.Rows
set_option Elab.async false
set_option linter.unusedVariables false
namespace Lay
variable {X : Cx} {n : Nat} {env : Env} {ρ : Rho} {μ : Mu}

/- names -/
theorem Ev.name {x : Str} {pos : Pos} {d : D} {Q : D → Mu → Prop} (hρ : ρ x = some d) (h : Q d μ) (hk : env.kindOf x = some .local := by rfl) (hd : (x == ("__debug__" : Str)) = false := by decide) :
    Ev X n env (.Name x pos) ρ μ Q := fun A F s _ H V => by
  obtain ⟨m, hn, hm⟩ := V.ns
  obtain ⟨v, h1, h2⟩ := hm x d hρ hk
  exact wpAny_Name (wpAny_loadName_local V.kind hk hn h1 (Post.now H h h2)) hd
theorem Ev.nameC {x : Str} {pos : Pos} {d : D} {Q : D → Mu → Prop} (hρ : ρ x = some d) (h : Q d μ) (hk : env.kindOf x = some .cell := by rfl) (hd : (x == ("__debug__" : Str)) = false := by decide) :
    Ev X n env (.Name x pos) ρ μ Q := fun A F s _ H V => by
  obtain ⟨a, v, h1, h2, h3⟩ := V.cv x d hρ hk
  exact wpAny_Name (wpAny_loadName_cell V.kind hk h1 h2 (Post.now H h h3)) hd
theorem HC.frag {K : Frag} {F : FZ} {s : Shared} (H : HC X F μ s) (hK : K.In X.h₁) (ht : K.lookup X.tb = none) : K.In s.heap := fun a o e =>
  H.fz a o (H.base a o (hK a o e) (by rintro rfl; rw [ht] at e; cases e))
theorem Ev.glob {K : Frag} {x : Str} {pos : Pos} {v : Value} {Q : D → Mu → Prop} (hK : K.In X.h₁) (ht : K.lookup X.tb = none) (he : peek K ⟨X.prog, X.w.params⟩ (loadName env x) = some v) (h : Q (.raw v) μ)
    (hd : (x == ("__debug__" : Str)) = false := by decide) : Ev X n env (.Name x pos) ρ μ Q := fun A F s _ H V =>
  wpAny_Name ((Looks.of_peek (M := model X.prog X.w) (H.frag hK ht) he) A _ _ s (fun _ _ e => e) (Post.now H h rfl)) hd

/- constants -/
theorem Ev.int {i : Int} {k : Nat} {pos : Pos} {Q : D → Mu → Prop} (h : Q (.int i) μ) : Ev X n env (.Constant (.int i) k pos) ρ μ Q :=
  fun _ _ _ _ H _ => wpAny_Constant_int (Post.here H h ⟨_, rfl⟩ (fun _ _ e => e) rfl rfl)
theorem Ev.none {k : Nat} {pos : Pos} {Q : D → Mu → Prop} (h : Q .none μ) : Ev X n env (.Constant .none k pos) ρ μ Q :=
  fun _ _ _ _ H _ => wpAny_Constant_none (Post.now H h rfl)
theorem Ev.bool {b : Bool} {k : Nat} {pos : Pos} {Q : D → Mu → Prop} (h : Q (.bool b) μ) : Ev X n env (.Constant (.bool b) k pos) ρ μ Q :=
  fun _ _ _ _ H _ => wpAny_Constant_bool (Post.now H h rfl)

/- operators -/
def Bin (X : Cx) (n : Nat) (op : Operator) (a b : D) (μ : Mu) (Q : D → Mu → Prop) : Prop :=
  ∀ A F s va vb, AOk n A → HC X F μ s → Rep F a va → Rep F b vb → wpAny (model X.prog X.w) A (binaryOp op va vb) (Post X Q F μ s) Never s
def Cmp (X : Cx) (n : Nat) (op : CmpOp) (a b : D) (μ : Mu) (Q : D → Mu → Prop) : Prop :=
  ∀ A F s va vb, AOk n A → HC X F μ s → Rep F a va → Rep F b vb → wpAny (model X.prog X.w) A (compareOp op va vb) (Post X Q F μ s) Never s
def Una (X : Cx) (n : Nat) (op : UnaryOp) (a : D) (μ : Mu) (Q : D → Mu → Prop) : Prop :=
  ∀ A F s va, AOk n A → HC X F μ s → Rep F a va → wpAny (model X.prog X.w) A (unaryOp op va) (Post X Q F μ s) Never s
def PostB (X : Cx) (Q : Bool → Mu → Prop) (F : FZ) (μ : Mu) (s : Shared) : Bool → Shared → Prop :=
  fun b s' => ∃ μ' F', Q b μ' ∧ HC X F' μ' s' ∧ Step No F μ s F' μ' s'
def Tru (X : Cx) (n : Nat) (a : D) (μ : Mu) (Q : Bool → Mu → Prop) : Prop :=
  ∀ A F s va, AOk n A → HC X F μ s → Rep F a va → wpAny (model X.prog X.w) A (truthy va) (PostB X Q F μ s) Never s
theorem PostB.after {Q : Bool → Mu → Prop} {F F₁ : FZ} {μ μ₁ : Mu} {s s₁ : Shared} (S : Step No F μ s F₁ μ₁ s₁) {b : Bool} {s' : Shared} (p : PostB X Q F₁ μ₁ s₁ b s') : PostB X Q F μ s b s' :=
  let ⟨μ', F', q, H, S'⟩ := p; ⟨μ', F', q, H, S.trans S'⟩

theorem Ev.bin {l r : Expr} {op : Operator} {pos : Pos} {Q : D → Mu → Prop} (h : Ev X n env l ρ μ fun a μ₁ => Ev X n env r ρ μ₁ fun b μ₂ => Bin X n op a b μ₂ Q) : Ev X n env (.BinOp l op r pos) ρ μ Q := fun A F s hA H V => by
  refine wpAny_BinOp (wpAny_mono (h A F s hA H V) ?_ fun _ _ e => e)
  rintro va s₁ ⟨a, μ₁, F₁, h₁, ra, H₁, S₁⟩
  refine wpAny_mono (h₁ A F₁ s₁ hA H₁ (V.step S₁)) ?_ fun _ _ e => e
  rintro vb s₂ ⟨b, μ₂, F₂, h₂, rb, H₂, S₂⟩
  exact wpAny_mono (h₂ A F₂ s₂ va vb hA H₂ (ra.mono S₂.le) rb) (fun _ _ p => p.after (S₁.trans S₂)) fun _ _ e => e
theorem Ev.cmp {l r : Expr} {op : CmpOp} {pos : Pos} {Q : D → Mu → Prop} (h : Ev X n env l ρ μ fun a μ₁ => Ev X n env r ρ μ₁ fun b μ₂ => Cmp X n op a b μ₂ Q)
    (hm : behindInMarks op r = false := by with_unfolding_all rfl) : Ev X n env (.Compare l [op] [r] pos) ρ μ Q := fun A F s hA H V => by
  refine wpAny_Compare1 (wpAny_mono (h A F s hA H V) ?_ fun _ _ e => e) hm
  rintro va s₁ ⟨a, μ₁, F₁, h₁, ra, H₁, S₁⟩
  refine wpAny_mono (h₁ A F₁ s₁ hA H₁ (V.step S₁)) ?_ fun _ _ e => e
  rintro vb s₂ ⟨b, μ₂, F₂, h₂, rb, H₂, S₂⟩
  exact wpAny_mono (h₂ A F₂ s₂ va vb hA H₂ (ra.mono S₂.le) rb) (fun _ _ p => p.after (S₁.trans S₂)) fun _ _ e => e
theorem Ev.una {x : Expr} {op : UnaryOp} {pos : Pos} {Q : D → Mu → Prop} (h : Ev X n env x ρ μ fun a μ₁ => Una X n op a μ₁ Q) : Ev X n env (.UnaryOp op x pos) ρ μ Q := fun A F s hA H V => by
  refine wpAny_UnaryOp (wpAny_mono (h A F s hA H V) ?_ fun _ _ e => e)
  rintro va s₁ ⟨a, μ₁, F₁, h₁, ra, H₁, S₁⟩
  exact wpAny_mono (h₁ A F₁ s₁ va hA H₁ ra) (fun _ _ p => p.after S₁) fun _ _ e => e

theorem here_tok {Q : D → Mu → Prop} {F : FZ} {s : Shared} (H : HC X F μ s) {i : Int} (q : Q (.int i) μ) : Post X Q F μ s (.int i s.toks) { s with toks := s.toks + 1 } :=
  Post.here H q ⟨_, rfl⟩ (fun _ _ e => e) rfl rfl
theorem Bin.add {a b : Int} {Q : D → Mu → Prop} (h : Q (.int (a + b)) μ) : Bin X n .Add (.int a) (.int b) μ Q := by
  rintro A F s _ _ hA H ⟨t, rfl⟩ ⟨u, rfl⟩; exact add_int (here_tok H h)
theorem Bin.sub {a b : Int} {Q : D → Mu → Prop} (h : Q (.int (a - b)) μ) : Bin X n .Sub (.int a) (.int b) μ Q := by
  rintro A F s _ _ hA H ⟨t, rfl⟩ ⟨u, rfl⟩; exact sub_int (here_tok H h)
theorem Bin.mul {a b : Int} {Q : D → Mu → Prop} (hm : IntMulOk a b) (h : Q (.int (a * b)) μ) : Bin X n .Mult (.int a) (.int b) μ Q := by
  rintro A F s _ _ hA H ⟨t, rfl⟩ ⟨u, rfl⟩; exact mul_int (here_tok H h) hm
theorem Bin.mod {a b : Int} {Q : D → Mu → Prop} (hb : b ≠ 0) (h : Q (.int (a.fmod b)) μ) : Bin X n .Mod (.int a) (.int b) μ Q := by
  rintro A F s _ _ hA H ⟨t, rfl⟩ ⟨u, rfl⟩; exact mod_int' hb (here_tok H h)
theorem Bin.floordiv {a b : Int} {Q : D → Mu → Prop} (hb : b ≠ 0) (hp : Builtin.divisionGoesByPylong a b = false) (h : Q (.int (a.fdiv b)) μ) : Bin X n .FloorDiv (.int a) (.int b) μ Q := by
  rintro A F s _ _ hA H ⟨t, rfl⟩ ⟨u, rfl⟩; exact floordiv_int hb (here_tok H h) (.inl hp)
theorem Bin.band {a b : Int} {Q : D → Mu → Prop} (h : Q (.int (Builtin.bitAnd a b)) μ) : Bin X n .BitAnd (.int a) (.int b) μ Q := by
  rintro A F s _ _ hA H ⟨t, rfl⟩ ⟨u, rfl⟩; exact and_int (here_tok H h)
theorem Bin.pow {a b : Int} {Q : D → Mu → Prop} (hn : 0 ≤ b) (hsz : (Builtin.Int.intBits a : Int) * b ≤ 2 ^ 27) (h : Q (.int (a ^ b.toNat)) μ) : Bin X n .Pow (.int a) (.int b) μ Q := by
  rintro A F s _ _ hA H ⟨t, rfl⟩ ⟨u, rfl⟩; exact pow_int hn hsz (here_tok H h)
theorem Una.neg {a : Int} {Q : D → Mu → Prop} (h : Q (.int (-a)) μ) : Una X n .USub (.int a) μ Q := by
  rintro A F s _ hA H ⟨t, rfl⟩; exact neg_int (here_tok H h)
theorem Cmp.eq {a b : Int} {Q : D → Mu → Prop} (h : Q (.bool (a == b)) μ) : Cmp X n .Eq (.int a) (.int b) μ Q := by
  rintro A F s _ _ hA H ⟨t, rfl⟩ ⟨u, rfl⟩; exact eq_int (Post.now H h rfl)
theorem Cmp.ne {a b : Int} {Q : D → Mu → Prop} (h : Q (.bool (a != b)) μ) : Cmp X n .NotEq (.int a) (.int b) μ Q := by
  rintro A F s _ _ hA H ⟨t, rfl⟩ ⟨u, rfl⟩; exact ne_int (Post.now H h rfl)
theorem Cmp.lt {a b : Int} {Q : D → Mu → Prop} (h : Q (.bool (decide (a < b))) μ) : Cmp X n .Lt (.int a) (.int b) μ Q := by
  rintro A F s _ _ hA H ⟨t, rfl⟩ ⟨u, rfl⟩; exact lt_int (Post.now H h rfl)
theorem Cmp.gt {a b : Int} {Q : D → Mu → Prop} (h : Q (.bool (decide (b < a))) μ) : Cmp X n .Gt (.int a) (.int b) μ Q := by
  rintro A F s _ _ hA H ⟨t, rfl⟩ ⟨u, rfl⟩; exact gt_int (Post.now H h rfl)
theorem Cmp.le {a b : Int} {Q : D → Mu → Prop} (h : Q (.bool (decide (a ≤ b))) μ) : Cmp X n .LtE (.int a) (.int b) μ Q := by
  rintro A F s _ _ hA H ⟨t, rfl⟩ ⟨u, rfl⟩; exact le_int (Post.now H h rfl)
theorem Cmp.ge {a b : Int} {Q : D → Mu → Prop} (h : Q (.bool (decide (b ≤ a))) μ) : Cmp X n .GtE (.int a) (.int b) μ Q := by
  rintro A F s _ _ hA H ⟨t, rfl⟩ ⟨u, rfl⟩; exact ge_int (Post.now H h rfl)

/- tests -/
def Tr (X : Cx) (n : Nat) (env : Env) (e : Expr) (ρ : Rho) (μ : Mu) (Q : Bool → Mu → Prop) : Prop :=
  ∀ A F s, AOk n A → HC X F μ s → VC X F μ env ρ s → wpAny (model X.prog X.w) A (isTrue e env (eval e env)) (PostB X Q F μ s) Never s
theorem Tru.bool {b : Bool} {Q : Bool → Mu → Prop} (h : Q b μ) : Tru X n (.bool b) μ Q := by
  rintro A F s _ hA H rfl; exact wpAny_truthy_bool ⟨μ, F, h, H, .refl ..⟩
theorem Tr.cmp {l r : Expr} {op : CmpOp} {pos : Pos} {Q : Bool → Mu → Prop} (h : Ev X n env l ρ μ fun a μ₁ => Ev X n env r ρ μ₁ fun b μ₂ => Cmp X n op a b μ₂ fun c μ₃ => Tru X n c μ₃ Q)
    (hm : behindInMarks op r = false := by with_unfolding_all rfl) : Tr X n env (.Compare l [op] [r] pos) ρ μ Q := fun A F s hA H V => by
  refine wpAny_isTrue_Compare1 (wpAny_mono (h A F s hA H V) ?_ fun _ _ e => e) hm
  rintro va s₁ ⟨a, μ₁, F₁, h₁, ra, H₁, S₁⟩
  refine wpAny_mono (h₁ A F₁ s₁ hA H₁ (V.step S₁)) ?_ fun _ _ e => e
  rintro vb s₂ ⟨b, μ₂, F₂, h₂, rb, H₂, S₂⟩
  refine wpAny_mono (h₂ A F₂ s₂ va vb hA H₂ (ra.mono S₂.le) rb) ?_ fun _ _ e => e
  rintro vc s₃ ⟨c, μ₃, F₃, h₃, rc, H₃, S₃⟩
  exact wpAny_mono (h₃ A F₃ s₃ vc hA H₃ rc) (fun _ _ p => p.after ((S₁.trans S₂).trans S₃)) fun _ _ e => e
theorem Tr.not {x : Expr} {pos : Pos} {Q : Bool → Mu → Prop} (h : Tr X n env x ρ μ fun b μ' => Q (!b) μ') : Tr X n env (.UnaryOp .Not x pos) ρ μ Q := fun A F s hA H V =>
  wpAny_isTrue_Not (wpAny_mono (h A F s hA H V) (fun _ _ ⟨μ', F', q, r⟩ => ⟨μ', F', q, r⟩) fun _ _ e => e)
theorem Tr.val {e : Expr} {Q : Bool → Mu → Prop} (h : Ev X n env e ρ μ fun d μ₁ => Tru X n d μ₁ Q)
    (he : ∀ whole, isTrue e env whole = (do let v ← whole; standAt e.pos; holding [v] (truthy v)) := by intro _; rfl) : Tr X n env e ρ μ Q := fun A F s hA H V => by
  refine wpAny_isTrue_value (wpAny_mono (h A F s hA H V) ?_ fun _ _ e => e) (he _)
  rintro va s₁ ⟨a, μ₁, F₁, h₁, ra, H₁, S₁⟩
  exact wpAny_mono (h₁ A F₁ s₁ va hA H₁ ra) (fun _ _ p => p.after S₁) fun _ _ e => e
def TrL (X : Cx) (n : Nat) (env : Env) (op : BoolOp) (es : List Expr) (ρ : Rho) (μ : Mu) (Q : Bool → Mu → Prop) : Prop :=
  ∀ A F s, AOk n A → HC X F μ s → VC X F μ env ρ s → wpAny (model X.prog X.w) A (allTrue op es env) (PostB X Q F μ s) Never s
theorem Tr.boolop {op : BoolOp} {es : List Expr} {pos : Pos} {Q : Bool → Mu → Prop} (h : TrL X n env op es ρ μ Q) : Tr X n env (.BoolOp op es pos) ρ μ Q := fun A F s hA H V => wpAny_isTrue_BoolOp (h A F s hA H V)
theorem TrL.orNil {Q : Bool → Mu → Prop} (h : Q false μ) : TrL X n env .Or [] ρ μ Q := fun _ F _ _ H _ => wpAny_allTrue_Or_nil ⟨μ, F, h, H, .refl ..⟩
theorem TrL.andNil {Q : Bool → Mu → Prop} (h : Q true μ) : TrL X n env .And [] ρ μ Q := fun _ F _ _ H _ => wpAny_allTrue_And_nil ⟨μ, F, h, H, .refl ..⟩
theorem TrL.or {x : Expr} {rest : List Expr} {Q : Bool → Mu → Prop} (h : Tr X n env x ρ μ fun b μ₁ => if b = true then Q true μ₁ else TrL X n env .Or rest ρ μ₁ Q) : TrL X n env .Or (x :: rest) ρ μ Q := fun A F s hA H V => by
  refine wpAny_allTrue_Or_cons (wpAny_mono (h A F s hA H V) ?_ fun _ _ e => e)
  rintro b s₁ ⟨μ₁, F₁, h₁, H₁, S₁⟩
  cases b with
  | true => exact ⟨μ₁, F₁, by simpa using h₁, H₁, S₁⟩
  | false => exact wpAny_mono ((by simpa using h₁ : TrL X n env .Or rest ρ μ₁ Q) A F₁ s₁ hA H₁ (V.step S₁)) (fun _ _ p => p.after S₁) fun _ _ e => e
theorem TrL.and {x : Expr} {rest : List Expr} {Q : Bool → Mu → Prop} (h : Tr X n env x ρ μ fun b μ₁ => if b = true then TrL X n env .And rest ρ μ₁ Q else Q false μ₁) : TrL X n env .And (x :: rest) ρ μ Q := fun A F s hA H V => by
  refine wpAny_allTrue_And_cons (wpAny_mono (h A F s hA H V) ?_ fun _ _ e => e)
  rintro b s₁ ⟨μ₁, F₁, h₁, H₁, S₁⟩
  cases b with
  | false => exact ⟨μ₁, F₁, by simpa using h₁, H₁, S₁⟩
  | true => exact wpAny_mono ((by simpa using h₁ : TrL X n env .And rest ρ μ₁ Q) A F₁ s₁ hA H₁ (V.step S₁)) (fun _ _ p => p.after S₁) fun _ _ e => e
theorem Ev.ifx {test body orelse : Expr} {pos : Pos} {Q : D → Mu → Prop} (h : Tr X n env test ρ μ fun b μ₁ => if b = true then Ev X n env body ρ μ₁ Q else Ev X n env orelse ρ μ₁ Q) :
    Ev X n env (.IfExp test body orelse pos) ρ μ Q := fun A F s hA H V => by
  refine wpAny_IfExp (wpAny_mono (h A F s hA H V) ?_ fun _ _ e => e)
  rintro b s₁ ⟨μ₁, F₁, h₁, H₁, S₁⟩
  cases b with
  | true => exact wpAny_mono ((by simpa using h₁ : Ev X n env body ρ μ₁ Q) A F₁ s₁ hA H₁ (V.step S₁)) (fun _ _ p => p.after S₁) fun _ _ e => e
  | false => exact wpAny_mono ((by simpa using h₁ : Ev X n env orelse ρ μ₁ Q) A F₁ s₁ hA H₁ (V.step S₁)) (fun _ _ p => p.after S₁) fun _ _ e => e

/- rows of expressions -/
def EvL (X : Cx) (n : Nat) (env : Env) (ts : List (Bool × Sem Value)) (ρ : Rho) (μ : Mu) (Q : List D → Mu → Prop) : Prop :=
  ∀ A F s, AOk n A → HC X F μ s → VC X F μ env ρ s → wpAny (model X.prog X.w) A (spliced ts) (fun vs s' => ∃ ds μ' F', Q ds μ' ∧ Reps F' ds vs ∧ HC X F' μ' s' ∧ Step No F μ s F' μ' s') Never s
theorem EvL.nil {pos : Pos} {Q : List D → Mu → Prop} (h : Q [] μ) : EvL X n env (backTo pos (starEach [] env)) ρ μ Q := fun A F s hA H V =>
  Calls.spliced_nil ⟨[], μ, F, h, rfl, H, .refl ..⟩
theorem EvL.cons {e : Expr} {rest : List Expr} {pos : Pos} {Q : List D → Mu → Prop}
    (h : Ev X n env e ρ μ fun d μ₁ => EvL X n env (backTo pos (starEach rest env)) ρ μ₁ fun ds μ₂ => Q (d :: ds) μ₂)
    (he : starEach (e :: rest) env = (false, eval e env) :: starEach rest env := by rfl) : EvL X n env (backTo pos (starEach (e :: rest) env)) ρ μ Q := fun A F s hA H V => by
  rw [he]
  show wpAny _ A (spliced ((false, eval e env) :: backTo pos (starEach rest env))) _ _ s
  refine Calls.spliced_cons (wpAny_mono (h A F s hA H V) ?_ fun _ _ e => e)
  rintro va s₁ ⟨a, μ₁, F₁, h₁, ra, H₁, S₁⟩
  refine wpAny_mono (h₁ A F₁ s₁ hA H₁ (V.step S₁)) ?_ fun _ _ e => e
  rintro vs s₂ ⟨ds, μ₂, F₂, h₂, rs, H₂, S₂⟩
  exact ⟨a :: ds, μ₂, F₂, h₂, ⟨va, vs, rfl, ra.mono S₂.le, rs⟩, H₂, S₁.trans S₂⟩

theorem push_none {h : Heap} : h.get? h.objs.size = none := by
  cases e : h.get? h.objs.size with
  | none => rfl
  | some o => exact absurd (Heap.lt_size e) (Nat.lt_irrefl _)
def Small (l : List D) : Prop := l.length ≤ 1000000
theorem Small.fits {F : FZ} {l : List D} {vs : List Value} (h : Small l) (r : Reps F l vs) : vs.length ≤ sizeLine := by
  rw [r.length, sizeLine_eq]; exact Nat.le_trans h (by decide)
theorem post_freeze {Q : D → Mu → Prop} {F : FZ} {s s' : Shared} (H : HC X F μ s) {a : Addr} {o : Obj} {d : D} (ha : s.heap.get? a = none) (ho : s'.heap.get? a = some o)
    (hk : ∀ b o, s.heap.get? b = some o → s'.heap.get? b = some o) (hg : s'.gens = s.gens) (hos : s'.os = s.os) (q : Q d μ) (r : Rep (fput F a o) d (.ref a)) : Post X Q F μ s (.ref a) s' :=
  let ⟨H', S'⟩ := H.freeze ha ho hk hg hos; ⟨d, μ, _, q, r, H', S'⟩
theorem rep_tup {F : FZ} {a : Addr} {vs : List Value} {ds : List D} (hF : F a = none) (r : Reps F ds vs) : Rep (fput F a { cls := .type "tuple", data := .seq vs.toArray }) (.tup ds) (.ref a) :=
  ⟨a, _, _, _, rfl, fput_self .., rfl, rfl, r.mono (fput_le hF)⟩
theorem rep_lst {F : FZ} {a : Addr} {vs : List Value} {ds : List D} (hF : F a = none) (r : Reps F ds vs) : Rep (fput F a { cls := .type "list", data := .seq vs.toArray }) (.lst ds) (.ref a) :=
  ⟨a, _, _, _, rfl, fput_self .., rfl, rfl, r.mono (fput_le hF)⟩
theorem Ev.tup {es : List Expr} {k : Nat} {pos : Pos} {Q : D → Mu → Prop} (h : EvL X n env (backTo pos (starEach es env)) ρ μ fun ds μ₁ => Small ds ∧ Q (.tup ds) μ₁) : Ev X n env (.Tuple es k pos) ρ μ Q := fun A F s hA H V => by
  refine Tuple_ (wpAny_mono (h A F s hA H V) ?_ fun _ _ e => e)
  rintro vs s₁ ⟨ds, μ₁, F₁, ⟨hs, q⟩, rs, H₁, S₁⟩
  refine wpAny_newTuple (Post.after S₁ ?_) (hs.fits rs)
  exact post_freeze H₁ push_none (Heap.get?_push_size _ rfl) (fun b o e => Heap.get?_push_of_some _ e) rfl rfl q (rep_tup (H₁.none_of_fresh push_none).1 rs)
/-- a list display whose list nobody will write -/
theorem Ev.lst {es : List Expr} {pos : Pos} {Q : D → Mu → Prop} (h : EvL X n env (backTo pos (starEach es env)) ρ μ fun ds μ₁ => Small ds ∧ Q (.lst ds) μ₁) : Ev X n env (.List es pos) ρ μ Q := fun A F s hA H V => by
  refine List_ (wpAny_mono (h A F s hA H V) ?_ fun _ _ e => e)
  rintro vs s₁ ⟨ds, μ₁, F₁, ⟨hs, q⟩, rs, H₁, S₁⟩
  refine wpAny_newList (Post.after S₁ ?_) (hs.fits rs)
  exact post_freeze H₁ push_none (Heap.get?_push_size _ rfl) (fun b o e => Heap.get?_push_of_some _ e) rfl rfl q (rep_lst (H₁.none_of_fresh push_none).1 rs)
/-- a list display whose list is an own cell -/
theorem Ev.lstC {es : List Expr} {pos : Pos} {Q : D → Mu → Prop} (h : EvL X n env (backTo pos (starEach es env)) ρ μ fun ds μ₁ => Small ds ∧ ∀ a, μ₁ a = .none → a ≠ X.tb → Q (.raw (.ref a)) (mput μ₁ a (.app ds))) (htb : ∃ o, X.h₁.get? X.tb = some o) :
    Ev X n env (.List es pos) ρ μ Q := fun A F s hA H V => by
  refine List_ (wpAny_mono (h A F s hA H V) ?_ fun _ _ e => e)
  rintro vs s₁ ⟨ds, μ₁, F₁, ⟨hs, q⟩, rs, H₁, S₁⟩
  obtain ⟨hF, hM, hB⟩ := H₁.none_of_fresh push_none
  refine wpAny_newList (Post.after S₁ ?_) (hs.fits rs)
  obtain ⟨H', S'⟩ := H₁.cellNew (s' := { s₁ with heap := s₁.heap.push { cls := .type "list", data := .seq vs.toArray } }) (c := .app ds) push_none (Heap.get?_push_size _ rfl) ⟨_, _, rfl, rs⟩ (fun b o e => Heap.get?_push_of_some _ e) rfl rfl
  exact ⟨_, _, _, q _ hM (fun e => by obtain ⟨o, ho⟩ := htb; rw [e, ho] at hB; cases hB), rfl, H', S'⟩
end Lay

/- part Lay3 -/
open PySem PySem.W PyProof.Rows
set_option Elab.async false
set_option linter.unusedVariables false
namespace Lay
variable {X : Cx} {n : Nat} {env : Env} {ρ : Rho} {μ : Mu}

/- what a list, a tuple, a cell is in the heap -/
theorem Rep.isList {F : FZ} {s : Shared} {l : List D} {v : Value} (H : HC X F μ s) (r : Rep F (.lst l) v) : ∃ a vs, v = .ref a ∧ s.heap.IsList a vs ∧ Reps F l vs.toList := by
  obtain ⟨a, o, vs, k, rfl, hf, hc, hd, hr⟩ := r
  exact ⟨a, vs, rfl, ⟨o, H.fz a o hf, hc, k, hd⟩, hr⟩
theorem Rep.isTup {F : FZ} {s : Shared} {l : List D} {v : Value} (H : HC X F μ s) (r : Rep F (.tup l) v) : ∃ a vs, v = .ref a ∧ IsTup s.heap a vs ∧ Reps F l vs.toList := by
  obtain ⟨a, o, vs, k, rfl, hf, hc, hd, hr⟩ := r
  exact ⟨a, vs, rfl, ⟨o, H.fz a o hf, hc, k, hd⟩, hr⟩
def CellL (μ : Mu) (a : Addr) (l : List D) : Prop := μ a = some (.list l) ∨ μ a = some (.app l)
theorem HC.isCellList {F : FZ} {s : Shared} {l : List D} {a : Addr} (H : HC X F μ s) (h : CellL μ a l) : ∃ vs o k, s.heap.get? a = some o ∧ o.cls = .type "list" ∧ o.data = .seq vs k ∧ Reps F l vs.toList := by
  rcases h with h | h
  · obtain ⟨_, _, o, ho, hc, vs, k, hs, hr⟩ := H.cell a _ h
    exact ⟨vs, o, k, ho, hc, hs, hr⟩
  · obtain ⟨_, _, o, ho, vs, k, rfl, hr⟩ := H.cell a _ h
    exact ⟨vs, _, k, ho, rfl, rfl, hr⟩
/-- a thing that reads as a list of data: frozen or an own cell -/
def IsL (μ : Mu) (d : D) (l : List D) : Prop := d = .lst l ∨ ∃ a, d = .raw (.ref a) ∧ CellL μ a l
theorem IsL.lst (l : List D) : IsL μ (.lst l) l := .inl rfl
theorem IsL.cell {a : Addr} {l : List D} (h : μ a = some (.list l)) : IsL μ (.raw (.ref a)) l := .inr ⟨a, rfl, .inl h⟩
theorem IsL.app {a : Addr} {l : List D} (h : μ a = some (.app l)) : IsL μ (.raw (.ref a)) l := .inr ⟨a, rfl, .inr h⟩
theorem IsL.isList {F : FZ} {s : Shared} {d : D} {l : List D} {v : Value} (h : IsL μ d l) (H : HC X F μ s) (r : Rep F d v) : ∃ a vs, v = .ref a ∧ s.heap.IsList a vs ∧ Reps F l vs.toList := by
  rcases h with rfl | ⟨a, rfl, h⟩
  · exact Rep.isList H r
  · obtain rfl := r
    obtain ⟨vs, o, k, ho, hc, hs, hr⟩ := H.isCellList h
    exact ⟨a, vs, rfl, ⟨o, ho, hc, k, hs⟩, hr⟩

/- items -/
def Sub (X : Cx) (n : Nat) (value slice : Expr) (o i : D) (μ : Mu) (Q : D → Mu → Prop) : Prop :=
  ∀ A F s vo vi, AOk n A → HC X F μ s → Rep F o vo → Rep F i vi → wpAny (model X.prog X.w) A (subscriptTail value slice vo vi) (Post X Q F μ s) Never s
theorem Ev.sub {value slice : Expr} {pos : Pos} {Q : D → Mu → Prop} (h : Ev X n env value ρ μ fun o μ₁ => Ev X n env slice ρ μ₁ fun i μ₂ => Sub X n value slice o i μ₂ Q) : Ev X n env (.Subscript value slice pos) ρ μ Q := fun A F s hA H V => by
  refine Subscript_ (wpAny_mono (h A F s hA H V) ?_ fun _ _ e => e)
  rintro va s₁ ⟨a, μ₁, F₁, h₁, ra, H₁, S₁⟩
  refine wpAny_mono (h₁ A F₁ s₁ hA H₁ (V.step S₁)) ?_ fun _ _ e => e
  rintro vb s₂ ⟨b, μ₂, F₂, h₂, rb, H₂, S₂⟩
  exact wpAny_mono (h₂ A F₂ s₂ va vb hA H₂ (ra.mono S₂.le) rb) (fun _ _ p => p.after (S₁.trans S₂)) fun _ _ e => e
theorem Sub.list {value slice : Expr} {o : D} {l : List D} {i : Int} {d : D} {Q : D → Mu → Prop} (hl : IsL μ o l) (h0 : 0 ≤ i) (hfit : i < 2 ^ 63) (hd : l[i.toNat]? = some d) (h : Q d μ)
    (hs : ∀ o i, subscripted slice false o i = operate [o, i] (getItem o i) := by intro _ _; with_unfolding_all rfl) : Sub X n value slice o (.int i) μ Q := by
  rintro A F s vo _ hA H ro ⟨t, rfl⟩
  obtain ⟨a, vs, rfl, hL, hr⟩ := hl.isList H ro
  obtain ⟨v, hv, rv⟩ := hr.get hd
  exact tail_any hL.typeIs slot_list_getitem.lookup (wpAny_getItem_list hL h0 hfit (by simpa using hv) (Post.now H h rv)) (hs _ _)
theorem Sub.listNeg {value slice : Expr} {o : D} {l : List D} {i : Int} {d : D} {Q : D → Mu → Prop} (hl : IsL μ o l) (h0 : i < 0) (h1 : -(l.length : Int) ≤ i) (hfit : -(2 ^ 63) ≤ i) (hd : l[(i + l.length).toNat]? = some d) (h : Q d μ)
    (hs : ∀ o i, subscripted slice false o i = operate [o, i] (getItem o i) := by intro _ _; with_unfolding_all rfl) : Sub X n value slice o (.int i) μ Q := by
  rintro A F s vo _ hA H ro ⟨t, rfl⟩
  obtain ⟨a, vs, rfl, hL, hr⟩ := hl.isList H ro
  obtain ⟨v, hv, rv⟩ := hr.get hd
  have hz : vs.size = l.length := by rw [← hr.length]; simp
  exact tail_any hL.typeIs slot_list_getitem.lookup (wpAny_getItem_list_neg hL h0 (by rw [hz]; exact h1) hfit (by rw [hz]; simpa using hv) (Post.now H h rv)) (hs _ _)
theorem Sub.tup {value slice : Expr} {l : List D} {i : Int} {d : D} {Q : D → Mu → Prop} (h0 : 0 ≤ i) (hfit : i < 2 ^ 63) (hd : l[i.toNat]? = some d) (h : Q d μ)
    (hs : ∀ o i, subscripted slice false o i = operate [o, i] (getItem o i) := by intro _ _; with_unfolding_all rfl) : Sub X n value slice (.tup l) (.int i) μ Q := by
  rintro A F s vo _ hA H ro ⟨t, rfl⟩
  obtain ⟨a, vs, rfl, hL, hr⟩ := Rep.isTup H ro
  obtain ⟨v, hv, rv⟩ := hr.get hd
  have hz : vs.size = l.length := by rw [← hr.length]; simp
  have hlt : i.toNat < l.length := by
    rcases Nat.lt_or_ge i.toNat l.length with q | q
    · exact q
    · rw [List.getElem?_eq_none q] at hd; cases hd
  refine tail_any hL.typeIs slot_tuple_getitem.lookup (getItem_tuple hL (by omega) hfit (j := i.toNat) ?_ (by simpa using hv) (Post.now H h rv)) (hs _ _)
  unfold seqIndex?
  have h2 : ¬ i < 0 := by omega
  rw [if_neg h2, hz]
  have h3 : i < (l.length : Int) := by omega
  simp [h0, h3]

/- slices -/
def pickL {α : Type} (l : List α) (lo hi st : Option Int) : List α :=
  (sliceRange (sliceBounds lo hi st l.length).1 (sliceBounds lo hi st l.length).2.1 (sliceBounds lo hi st l.length).2.2).filterMap (l[·]?)
theorem Reps.filterMap {F : FZ} {ds : List D} {vs : List Value} (h : Reps F ds vs) : ∀ (is : List Nat), Reps F (is.filterMap (ds[·]?)) (is.filterMap (vs[·]?))
  | [] => rfl
  | i :: is => by
    have ih := h.filterMap is
    rw [List.filterMap_cons, List.filterMap_cons]
    cases e : ds[i]? with
    | none =>
      have hn : vs[i]? = none := by
        rw [List.getElem?_eq_none_iff] at e ⊢
        rw [h.length]; exact e
      rw [hn]; exact ih
    | some d =>
      obtain ⟨v, hv, rv⟩ := h.get e
      rw [hv]; exact ⟨v, _, rfl, rv, ih⟩
def EvO (X : Cx) (n : Nat) (env : Env) (x : Option Expr) (ρ : Rho) (μ : Mu) (Q : Option Int → Mu → Prop) : Prop :=
  match x with
  | none => Q none μ
  | some e => Ev X n env e ρ μ fun d μ' => ∃ i, d = .int i ∧ Q (some i) μ'
theorem EvO.run {x : Option Expr} {Q : Option Int → Mu → Prop} (h : EvO X n env x ρ μ Q) {A : Around} {F : FZ} {s : Shared} (hA : AOk n A) (H : HC X F μ s) (V : VC X F μ env ρ s) :
    wpAny (model X.prog X.w) A (evalPart x env) (fun v s' => ∃ k μ' F', IsPart v k ∧ Q k μ' ∧ HC X F' μ' s' ∧ Step No F μ s F' μ' s') Never s := by
  cases x with
  | none => exact wpAny_evalPart_none ⟨none, μ, F, .none, h, H, .refl ..⟩
  | some e =>
    refine wpAny_evalPart_some (wpAny_mono (h A F s hA H V) ?_ fun _ _ e => e)
    rintro v s' ⟨d, μ', F', ⟨i, rfl, q⟩, ⟨t, rfl⟩, H', S'⟩
    exact ⟨some i, μ', F', .int i t, q, H', S'⟩
theorem sub_slice {slice : Expr} (value : Expr) {lower upper step : Option Expr} {p : Pos} (hsl : slice = .Slice lower upper step p) (o i : Value) : ∃ ops, subscripted slice false o i = operate ops (getItem o i) := by
  subst hsl
  cases step <;> exact ⟨_, rfl⟩
theorem Ev.slice {value : Expr} {lower upper step : Option Expr} {p pos : Pos} {Q : D → Mu → Prop}
    (h : Ev X n env value ρ μ fun o μ₁ => EvO X n env lower ρ μ₁ fun lo μ₂ => EvO X n env upper ρ μ₂ fun hi μ₃ => EvO X n env step ρ μ₃ fun st μ₄ => ∃ l, IsL μ₄ o l ∧ Small l ∧ Small (pickL l lo hi st) ∧ st ≠ some 0 ∧ Q (.lst (pickL l lo hi st)) μ₄) :
    Ev X n env (.Subscript value (.Slice lower upper step p) pos) ρ μ Q := fun A F s hA H V => by
  refine Subscript_ (wpAny_mono (h A F s hA H V) ?_ fun _ _ e => e)
  rintro vo s₁ ⟨o, μ₁, F₁, h₁, ro, H₁, S₁⟩
  have V₁ := V.step S₁
  refine wpAny_Slice (wpAny_mono (EvO.run h₁ hA H₁ V₁) ?_ fun _ _ e => e)
  rintro vl s₂ ⟨lo, μ₂, F₂, pl, h₂, H₂, S₂⟩
  refine wpAny_mono (EvO.run h₂ hA H₂ (V₁.step S₂)) ?_ fun _ _ e => e
  rintro vu s₃ ⟨hi, μ₃, F₃, pu, h₃, H₃, S₃⟩
  refine wpAny_mono (EvO.run h₃ hA H₃ ((V₁.step S₂).step S₃)) ?_ fun _ _ e => e
  rintro vs s₄ ⟨st, μ₄, F₄, ps, ⟨l, hl, hs, hsp, h0, q⟩, H₄, S₄⟩
  have H₅ := H₄.grow (s' := { s₄ with heap := s₄.heap.push { cls := .type "slice", data := .fields #[vl, vu, vs] } }) (fun b o e => Heap.get?_push_of_some _ e) rfl rfl
  have ro' : Rep F₄ o vo := ((ro.mono S₂.le).mono S₃.le).mono S₄.le
  obtain ⟨a, its, rfl, hL, hr⟩ := hl.isList H₅ ro'
  obtain ⟨ops, hops⟩ := sub_slice value (slice := .Slice lower upper step p) rfl (.ref a) (.ref s₄.heap.objs.size)
  refine tail_any hL.typeIs slot_list_getitem.lookup (wpAny_getItem_list_slice hL ⟨_, Heap.get?_push_size _ rfl, rfl, rfl⟩ pl pu ps h0 ?_ (by
    have e := hs.fits hr; rw [← Array.length_toList]; exact e)) hops
  refine Post.after (((S₁.trans S₂).trans S₃).trans S₄) (Post.after (Step.grow (s' := { s₄ with heap := s₄.heap.push { cls := .type "slice", data := .fields #[vl, vu, vs] } }) fun b o e => Heap.get?_push_of_some _ e) ?_)
  refine post_freeze H₅ push_none (Heap.get?_push_size _ rfl) (fun b o e => Heap.get?_push_of_some _ e) rfl rfl q ?_
  have hp : Reps F₄ (pickL l lo hi st) (slicePick its lo hi st).toList := by
    unfold pickL slicePick
    have e := hr.filterMap (sliceRange (sliceBounds lo hi st l.length).1 (sliceBounds lo hi st l.length).2.1 (sliceBounds lo hi st l.length).2.2)
    have hz : its.size = l.length := by rw [← hr.length]; simp
    rw [hz]
    simpa using e
  have hrl := rep_lst (F := F₄) (a := ({ s₄ with heap := s₄.heap.push { cls := .type "slice", data := .fields #[vl, vu, vs] } } : Shared).heap.objs.size) (H₅.none_of_fresh push_none).1 hp
  simpa using hrl

/- calls -/
def CallP (X : Cx) (n : Nat) (f : Value) (ds : List D) (μ : Mu) (Q : D → Mu → Prop) : Prop :=
  ∀ A F s vs, AOk n A → HC X F μ s → Reps F ds vs → wpAny (model X.prog X.w) A (call f vs) (Post X Q F μ s) Never s
theorem CallP.mono {f : Value} {ds : List D} {Q Q' : D → Mu → Prop} (x : CallP X n f ds μ Q) (h : ∀ d μ', Q d μ' → Q' d μ') : CallP X n f ds μ Q' :=
  fun A F s vs hA H r => wpAny_mono (x A F s vs hA H r) (fun _ _ p => p.mono h) fun _ _ e => e
def Based (X : Cx) (h : Heap) : Prop := ∀ b o, X.h₁.get? b = some o → b ≠ X.tb → h.get? b = some o
theorem HC.based {F : FZ} {s : Shared} (H : HC X F μ s) : Based X s.heap := fun b o e hb => H.fz b o (H.base b o e hb)
def KeepOk (X : Cx) (f : Value) : Prop := ∀ h, Based X h → ∃ k, (k = Keeper.frame ∨ k = Keeper.machine ∨ k = Keeper.boundFrame) ∧ Looks (model X.prog X.w) h (keeperOf f) k
theorem KeepOk.builtin (id : String) : KeepOk X (.builtin id) := fun h _ => ⟨.machine, .inr (.inl rfl), Looks.of_pure rfl⟩
theorem KeepOk.type (id : String) : KeepOk X (.type id) := fun h _ => ⟨.machine, .inr (.inl rfl), Looks.of_pure rfl⟩
theorem KeepOk.func {a : Addr} {o : Obj} {fd : FuncData} (ho : X.h₁.get? a = some o) (hd : o.data = .func fd) (ht : a ≠ X.tb) : KeepOk X (.ref a) := fun h hb => by
  refine ⟨.frame, .inl rfl, fun A Q E s k q => ?_⟩
  unfold keeperOf
  refine wpAny_bind (wpAny_load (k a o (hb a o ho ht)) ?_)
  rw [hd]
  exact wpAny_pure q
theorem Ev.call {func e : Expr} {rest : List Expr} {pos : Pos} {Q : D → Mu → Prop}
    (h : Ev X n env func ρ μ fun f μ₁ => ∃ vf, f = .raw vf ∧ KeepOk X vf ∧ EvL X n env (backTo pos (starEach (e :: rest) env)) ρ μ₁ fun ds μ₂ => CallP X n vf ds μ₂ Q)
    (he : eval (.Call func (e :: rest) [] pos) env = (do callWith pos (← eval func env) [] (backTo pos (starEach (e :: rest) env)) (backToKw pos (keywordEach [] env))) := by rfl)
    (hst : starEach (e :: rest) env = (false, eval e env) :: starEach rest env := by rfl) (hplain : (backTo pos (starEach rest env)).any (·.1) = false := by rfl) :
    Ev X n env (.Call func (e :: rest) [] pos) ρ μ Q := fun A F s hA H V => by
  refine Call_ (wpAny_mono (h A F s hA H V) ?_ fun _ _ e => e) he
  rintro vf s₁ ⟨_, μ₁, F₁, ⟨vf', rfl, hk, hargs⟩, rfl, H₁, S₁⟩
  have h₂ := hargs A F₁ s₁ hA H₁ (V.step S₁)
  rw [hst] at h₂ ⊢
  refine callWith_of (P := Based X) (by show ((false || (backTo pos (starEach rest env)).any (·.1)) || false) = false; rw [hplain]; rfl) (fun h hb => hk h hb) ?_
  refine Calls.evalArgs_plain (wpAny_mono h₂ ?_ fun _ _ e => e)
  rintro vs s₂ ⟨ds, μ₂, F₂, hc, rs, H₂, S₂⟩
  exact ⟨H₂.based, wpAny_mono (hc A F₂ s₂ vs hA H₂ rs) (fun _ _ p => p.after (S₁.trans S₂)) fun _ _ e => e⟩
/-- one positional argument and one keyword -/
def CallK (X : Cx) (n : Nat) (f : Value) (d : D) (k : Str) (dk : D) (μ : Mu) (Q : D → Mu → Prop) : Prop :=
  ∀ A F s v vk, AOk n A → HC X F μ s → Rep F d v → Rep F dk vk → wpAny (model X.prog X.w) A (call f [v] [(k, vk)]) (Post X Q F μ s) Never s
theorem Ev.callK {func e ek : Expr} {k : Str} {kpos pos : Pos} {Q : D → Mu → Prop}
    (h : Ev X n env func ρ μ fun f μ₁ => ∃ vf, f = .raw vf ∧ KeepOk X vf ∧ Ev X n env e ρ μ₁ fun d μ₂ => Ev X n env ek ρ μ₂ fun dk μ₃ => CallK X n vf d k dk μ₃ Q)
    (he : eval (.Call func [e] [⟨some k, ek, kpos⟩] pos) env = (do callWith pos (← eval func env) [] (backTo pos (starEach [e] env)) (backToKw pos (keywordEach [⟨some k, ek, kpos⟩] env))) := by rfl)
    (hst : starEach [e] env = [(false, eval e env)] := by rfl) :
    Ev X n env (.Call func [e] [⟨some k, ek, kpos⟩] pos) ρ μ Q := fun A F s hA H V => by
  rw [he]
  refine wpAny_bind (wpAny_mono (h A F s hA H V) ?_ fun _ _ e => e)
  rintro vf s₁ ⟨_, μ₁, F₁, ⟨vf', rfl, hk, hargs⟩, rfl, H₁, S₁⟩
  rw [hst]
  refine callWith_of (P := Based X) rfl (fun h hb => hk h hb) ?_
  refine evalArgs_kw rfl (Calls.spliced_cons (wpAny_mono (hargs A F₁ s₁ hA H₁ (V.step S₁)) ?_ fun _ _ e => e))
  rintro v s₂ ⟨d, μ₂, F₂, h₂, rd, H₂, S₂⟩
  refine Calls.spliced_nil ?_
  show wpAny _ A (evalAll [do let v ← eval ek env; standAt pos; pure v]) _ _ s₂
  refine wpAny_evalAll_cons (wpAny_bind (wpAny_mono (h₂ A F₂ s₂ hA H₂ ((V.step S₁).step S₂)) ?_ fun _ _ e => e))
  rintro vk s₃ ⟨dk, μ₃, F₃, h₃, rk, H₃, S₃⟩
  refine wpAny_bind (wpAny_standAt (wpAny_pure (wpAny_evalAll_nil ⟨H₃.based, ?_⟩)))
  exact wpAny_mono (h₃ A F₃ s₃ v vk hA H₃ (rd.mono S₃.le) rk) (fun _ _ p => p.after ((S₁.trans S₂).trans S₃)) fun _ _ e => e
end Lay

/- part Lay4 -/
open PySem PySem.W PyProof.Rows
set_option Elab.async false
set_option linter.unusedVariables false
namespace Lay
variable {X : Cx} {n : Nat} {env : Env} {ρ : Rho} {μ : Mu}

theorem VC.stepW {W : Addr → Prop} {F F' : FZ} {μ' : Mu} {s s' : Shared} (V : VC X F μ env ρ s) (S : Step W F μ s F' μ' s') (hW : ∀ a, Uses env a → ¬ W a) : VC X F' μ' env ρ s' := by
  obtain ⟨m, hn, hm⟩ := V.ns
  obtain ⟨oL, hL⟩ := Ns_get hn
  have sep : ∀ a o, s.heap.get? a = some o → F a = none → μ a = none → F' a = none ∧ μ' a = none := fun a o e hF hM => by
    refine ⟨?_, ?_⟩
    · cases q : F' a with
      | none => rfl
      | some o' => rcases S.newF a o' q with h | h | h
                   · rw [hF] at h; cases h
                   · exact absurd hM h
                   · rw [h] at e; cases e
    · cases q : μ' a with
      | none => rfl
      | some o' => rcases S.newM a (by rw [q]; simp) with h | h
                   · exact absurd hM h
                   · rw [h] at e; cases e
  have keepc : ∀ x a v, (x, a) ∈ env.cells → s.heap.IsCell a v → s'.heap.IsCell a v := fun x a v hx ⟨o, ho, hd⟩ => ⟨o, S.keep a o ho (V.cf x a hx).2.1 (hW a (.inr ⟨x, hx⟩)), hd⟩
  refine ⟨⟨m, hn.at' fun o e => S.keep _ o e V.lf.2.1 (hW _ (.inl rfl)), fun x d e k => let ⟨v, h1, h2⟩ := hm x d e k; ⟨v, h1, h2.mono S.le⟩⟩, fun x d e k => ?_, fun x a h => ?_, V.apart, ?_, fun x a h => ?_, V.kind⟩
  · obtain ⟨a, v, h1, h2, h3⟩ := V.cv x d e k
    exact ⟨a, v, h1, keepc x a _ (mem_of_lookup h1) h2, h3.mono S.le⟩
  · obtain ⟨v, hv⟩ := V.here x a h
    exact ⟨v, keepc x a v h hv⟩
  · exact ⟨(sep _ _ hL V.lf.1 V.lf.2.1).1, (sep _ _ hL V.lf.1 V.lf.2.1).2, V.lf.2.2⟩
  · obtain ⟨v, o, ho, _⟩ := V.here x a h
    obtain ⟨h1, h2, h3, h4⟩ := V.cf x a h
    exact ⟨(sep _ _ ho h1 h2).1, (sep _ _ ho h1 h2).2, h3, h4⟩

/-- one object that is nobody's changes -/
theorem HC.touch {F : FZ} {s s' : Shared} (H : HC X F μ s) {I : Addr} (hF : F I = none) (hM : μ I = none) (hB : X.h₁.get? I = none) (hk : ∀ b o, b ≠ I → s.heap.get? b = some o → s'.heap.get? b = some o)
    (ht : ∃ o, s'.heap.get? I = some o) (hg : s'.gens = s.gens) (ho : s'.os = s.os) : HC X F μ s' ∧ Step (fun a => a = I) F μ s F μ s' := by
  refine ⟨⟨fun a o e => hk a o (by rintro rfl; rw [hF] at e; cases e) (H.fz a o e), H.base, fun a c e => ?_, old_same H.old hB hk fun _ _ => ht, hg.trans H.gens, ho.trans H.os⟩,
    ⟨.refl F, fun b o e _ hb => hk b o hb e, fun b o e _ => ?_, fun _ _ e => .inl e, fun _ e => .inl e⟩⟩
  · obtain ⟨h1, h2, o, h3, h4⟩ := H.cell a c e
    exact ⟨h1, h2, o, hk a o (by rintro rfl; rw [hM] at e; cases e) h3, h4⟩
  · by_cases q : b = I
    · subst q; exact ht
    · exact ⟨o, hk b o q e⟩

/- stores -/
def rset (ρ : Rho) (x : Str) (d : D) : Rho := fun y => if y = x then some d else ρ y
theorem rset_self (ρ : Rho) (x : Str) (d : D) : rset ρ x d x = some d := by simp [rset]
theorem rset_ne (ρ : Rho) {x y : Str} (d : D) (h : y ≠ x) : rset ρ x d y = ρ y := by simp [rset, h]

theorem storeL {F : FZ} {s : Shared} {x : Str} {d : D} {v : Value} {A : Around} {Q : Unit → Shared → Prop} (H : HC X F μ s) (V : VC X F μ env ρ s) (r : Rep F d v) (hk : env.kindOf x = some .local)
    (h : ∀ s', HC X F μ s' → VC X F μ env (rset ρ x d) s' → Step (Own env) F μ s F μ s' → Q () s') : wpAny (model X.prog X.w) A (storeName env x v) Q Never s := by
  obtain ⟨m, hn, hm⟩ := V.ns
  refine wpAny_storeName_local hk hn (fun h' hn' hs' => ?_) (by rw [V.kind]; rfl)
  have hk' : ∀ b o, b ≠ env.locals → s.heap.get? b = some o → h'.get? b = some o := fun b o hb e => hs'.extBut b o hb e
  obtain ⟨H', S'⟩ := H.touch (s' := { s with heap := h', toks := s.toks + 1 }) V.lf.1 V.lf.2.1 V.lf.2.2 hk' (Ns_get hn') rfl rfl
  have cellk : ∀ y a v, (y, a) ∈ env.cells → s.heap.IsCell a v → h'.IsCell a v := fun y a v hy ⟨o, ho, hd⟩ => ⟨o, hk' a o (V.cf y a hy).2.2.2 ho, hd⟩
  refine h _ H' ⟨⟨_, hn', fun y d' e k => ?_⟩, fun y d' e k => ?_, fun y a hy => let ⟨v, hv⟩ := V.here y a hy; ⟨v, cellk y a v hy hv⟩, V.apart, V.lf, V.cf, V.kind⟩ (S'.weaken fun a e => .inl e)
  · unfold rset at e
    split at e
    · rename_i q; subst q; cases e; exact ⟨v, by simp, r⟩
    · rename_i q
      obtain ⟨u, h1, h2⟩ := hm y d' e k
      exact ⟨u, by simp [q, h1], h2⟩
  · unfold rset at e
    split at e
    · rename_i q; subst q; rw [hk] at k; cases k
    · obtain ⟨a, u, h1, h2, h3⟩ := V.cv y d' e k
      exact ⟨a, u, h1, cellk y a _ (mem_of_lookup h1) h2, h3⟩
theorem storeC {F : FZ} {s : Shared} {x : Str} {d : D} {v : Value} {A : Around} {Q : Unit → Shared → Prop} (H : HC X F μ s) (V : VC X F μ env ρ s) (r : Rep F d v) (hk : env.kindOf x = some .cell) (hc : (env.cells.lookup x).isSome = true) (hf : env.func.isSome = true)
    (h : ∀ s', HC X F μ s' → VC X F μ env (rset ρ x d) s' → Step (Own env) F μ s F μ s' → Q () s') : wpAny (model X.prog X.w) A (storeName env x v) Q Never s := by
  obtain ⟨c, hc⟩ := Option.isSome_iff_exists.mp hc
  have hmem := mem_of_lookup hc
  obtain ⟨v₀, hv₀⟩ := V.here x c hmem
  obtain ⟨cF, cM, cB, cL⟩ := V.cf x c hmem
  refine wpAny_storeName_cell V.kind hk hc hv₀ (fun h' hn' hs' => ?_)
  have hk' : ∀ b o, b ≠ c → s.heap.get? b = some o → h'.get? b = some o := fun b o hb e => hs'.extBut b o hb e
  obtain ⟨H', S'⟩ := H.touch (s' := { s with heap := h' }) cF cM cB hk' (let ⟨o, ho, _⟩ := hn'; ⟨o, ho⟩) rfl rfl
  have apart : ∀ y a, (y, a) ∈ env.cells → y ≠ x → a ≠ c := fun y a hy hne e => hne (name_of_addr V.apart (e ▸ hy) hmem)
  have cellk : ∀ y a v, (y, a) ∈ env.cells → y ≠ x → s.heap.IsCell a v → h'.IsCell a v := fun y a v hy hne ⟨o, ho, hd⟩ => ⟨o, hk' a o (apart y a hy hne) ho, hd⟩
  obtain ⟨m, hn, hm⟩ := V.ns
  refine h _ H' ⟨⟨m, hn.at' fun o e => hk' _ o (Ne.symm cL) e, fun y d' e k => ?_⟩, fun y d' e k => ?_, fun y a hy => ?_, V.apart, V.lf, V.cf, V.kind⟩ (S'.weaken fun a e => .inr ⟨hf, x, e ▸ hmem⟩)
  · unfold rset at e
    split at e
    · rename_i q; subst q; rw [hk] at k; cases k
    · exact hm y d' e k
  · unfold rset at e
    split at e
    · rename_i q; subst q; cases e; exact ⟨c, v, hc, hn', r⟩
    · rename_i q
      obtain ⟨a, u, h1, h2, h3⟩ := V.cv y d' e k
      exact ⟨a, u, h1, cellk y a _ (mem_of_lookup h1) q h2, h3⟩
  · by_cases q : a = c
    · subst q; exact ⟨_, hn'⟩
    · obtain ⟨v, o, ho, hd⟩ := V.here y a hy
      exact ⟨v, o, hk' a o q ho, hd⟩

/- targets -/
def AsgP (X : Cx) (n : Nat) (env : Env) (target : Expr) (d : D) (ρ : Rho) (μ : Mu) (Q : Rho → Mu → Prop) : Prop :=
  ∀ A F s v, AOk n A → HC X F μ s → VC X F μ env ρ s → Rep F d v →
    wpAny (model X.prog X.w) A (assign target env v) (fun _ s' => ∃ ρ' μ' F', Q ρ' μ' ∧ HC X F' μ' s' ∧ VC X F' μ' env ρ' s' ∧ Step (Own env) F μ s F' μ' s') Never s
def Kept (env : Env) (x : Str) : Prop := env.kindOf x = some .local ∨ (env.kindOf x = some .cell ∧ (env.cells.lookup x).isSome = true ∧ env.func.isSome = true)
theorem store {F : FZ} {s : Shared} {x : Str} {d : D} {v : Value} {A : Around} {Q : Unit → Shared → Prop} (hx : Kept env x) (H : HC X F μ s) (V : VC X F μ env ρ s) (r : Rep F d v)
    (h : ∀ s', HC X F μ s' → VC X F μ env (rset ρ x d) s' → Step (Own env) F μ s F μ s' → Q () s') : wpAny (model X.prog X.w) A (storeName env x v) Q Never s := by
  rcases hx with hk | ⟨hk, hc, hf⟩
  · exact storeL H V r hk h
  · exact storeC H V r hk hc hf h
theorem AsgP.name {x : Str} {pos : Pos} {d : D} {Q : Rho → Mu → Prop} (hx : Kept env x) (h : Q (rset ρ x d) μ) : AsgP X n env (.Name x pos) d ρ μ Q := fun A F s v hA H V r =>
  wpAny_assign_Name (store hx H V r fun s' H' V' S' => ⟨_, μ, F, h, H', V', S'⟩)
def AsgL (X : Cx) (n : Nat) (env : Env) : List Expr → List D → Rho → Mu → (Rho → Mu → Prop) → Prop
  | [], [], ρ, μ, Q => Q ρ μ
  | t :: ts, d :: ds, ρ, μ, Q => AsgP X n env t d ρ μ fun ρ' μ' => AsgL X n env ts ds ρ' μ' Q
  | _, _, _, _, _ => False
theorem AsgL.run {A : Around} : ∀ {ts : List Expr} {ds : List D} {ρ : Rho} {μ : Mu} {Q : Rho → Mu → Prop}, AsgL X n env ts ds ρ μ Q → (∀ t ∈ ts, ∀ rest, assignEach (t :: rest) env = (false, assign t env) :: assignEach rest env) →
    ∀ {F s vs}, AOk n A → HC X F μ s → VC X F μ env ρ s → Reps F ds vs →
    wpAny (model X.prog X.w) A (assignInOrder ((assignEach ts env).map (·.2)) vs) (fun _ s' => ∃ ρ' μ' F', Q ρ' μ' ∧ HC X F' μ' s' ∧ VC X F' μ' env ρ' s' ∧ Step (Own env) F μ s F' μ' s') Never s
  | [], [], ρ, μ, Q, h, _, F, s, vs, hA, H, V, r => by
    cases r
    exact wpAny_assignInOrder_none ⟨ρ, μ, F, h, H, V, .refl ..⟩
  | t :: ts, d :: ds, ρ, μ, Q, h, ht, F, s, vs, hA, H, V, ⟨v, vs', e, r, rs⟩ => by
    subst e
    rw [ht t (.head _) ts]
    refine wpAny_assignInOrder_more (wpAny_mono (h A F s v hA H V r) ?_ fun _ _ e => e)
    rintro _ s₁ ⟨ρ₁, μ₁, F₁, h₁, H₁, V₁, S₁⟩
    refine wpAny_mono (AsgL.run h₁ (fun t' hm => ht t' (.tail _ hm)) hA H₁ V₁ (rs.mono S₁.le)) ?_ fun _ _ e => e
    rintro _ s₂ ⟨ρ₂, μ₂, F₂, q, H₂, V₂, S₂⟩
    exact ⟨ρ₂, μ₂, F₂, q, H₂, V₂, S₁.trans S₂⟩
  | [], _ :: _, _, _, _, h, _, _, _, _, _, _, _, _ => h.elim
  | _ :: _, [], _, _, _, h, _, _, _, _, _, _, _, _ => h.elim
theorem assignEach_length : ∀ (ts : List Expr) (env : Env), (∀ t ∈ ts, ∀ rest, assignEach (t :: rest) env = (false, assign t env) :: assignEach rest env) → (assignEach ts env).length = ts.length ∧ (assignEach ts env).findIdx? (·.1) = none
  | [], _, _ => ⟨rfl, rfl⟩
  | t :: ts, env, ht => by
    rw [ht t (.head _) ts]
    obtain ⟨h1, h2⟩ := assignEach_length ts env fun t' hm => ht t' (.tail _ hm)
    exact ⟨by simp [h1], by rw [List.findIdx?_cons]; simp [h2]⟩
theorem ext_grow {s : Shared} {h' : Heap} (he : Heap.ExtBut s.heap.objs.size s.heap h') : ∀ b o, s.heap.get? b = some o → h'.get? b = some o := fun b o e => he b o (Nat.ne_of_lt (Heap.lt_size e)) e
theorem AsgL.length : ∀ {ts : List Expr} {ds : List D} {ρ : Rho} {μ : Mu} {Q : Rho → Mu → Prop}, AsgL X n env ts ds ρ μ Q → True := fun _ => trivial
theorem AsgP.tup {ts : List Expr} {k : Nat} {pos : Pos} {ds : List D} {Q : Rho → Mu → Prop} (hlen : ts.length = ds.length) (h : AsgL X n env ts ds ρ μ Q)
    (ht : ∀ t ∈ ts, ∀ rest, assignEach (t :: rest) env = (false, assign t env) :: assignEach rest env) : AsgP X n env (.Tuple ts k pos) (.tup ds) ρ μ Q := fun A F s v hA H V r => by
  obtain ⟨a, vs, rfl, hT, hr⟩ := Rep.isTup H r
  obtain ⟨h1, h2⟩ := assignEach_length ts env ht
  have hz : vs.size = ds.length := by rw [← hr.length]; simp
  refine wpAny_assign_Tuple hA.1 hT (by rw [h1, hlen, hz]) h2 fun h' he => ?_
  have hk := ext_grow he
  have H' := H.grow (s' := { s with heap := h' }) hk rfl rfl
  have S' : Step (Own env) F μ s F μ { s with heap := h' } := .grow hk
  refine wpAny_mono (AsgL.run h ht hA H' (V.step (.grow hk)) hr) ?_ fun _ _ e => e
  rintro _ s₂ ⟨ρ₂, μ₂, F₂, q, H₂, V₂, S₂⟩
  exact ⟨ρ₂, μ₂, F₂, q, H₂, V₂, S'.trans S₂⟩

/- statements -/
def PostS (X : Cx) (env : Env) (N : Rho → Mu → Prop) (R : D → Mu → Prop) (F : FZ) (μ : Mu) (s : Shared) : Flow → Shared → Prop := fun f s' => match f with
  | .next => ∃ ρ' μ' F', N ρ' μ' ∧ HC X F' μ' s' ∧ VC X F' μ' env ρ' s' ∧ Step (Own env) F μ s F' μ' s'
  | .ret v => ∃ d μ' F', R d μ' ∧ Rep F' d v ∧ HC X F' μ' s' ∧ Step (Own env) F μ s F' μ' s'
  | _ => False
def Ex1 (X : Cx) (n : Nat) (env : Env) (st : Stmt) (ρ : Rho) (μ : Mu) (N : Rho → Mu → Prop) (R : D → Mu → Prop) : Prop :=
  ∀ A F s, AOk n A → HC X F μ s → VC X F μ env ρ s → wpAny (model X.prog X.w) A (exec st env) (PostS X env N R F μ s) Never s
def Ex (X : Cx) (n : Nat) (env : Env) (ss : List Stmt) (ρ : Rho) (μ : Mu) (N : Rho → Mu → Prop) (R : D → Mu → Prop) : Prop :=
  ∀ A F s, AOk n A → HC X F μ s → VC X F μ env ρ s → wpAny (model X.prog X.w) A (execs ss env) (PostS X env N R F μ s) Never s
theorem PostS.after {N : Rho → Mu → Prop} {R : D → Mu → Prop} {F F₁ : FZ} {μ₁ : Mu} {s s₁ : Shared} (S : Step (Own env) F μ s F₁ μ₁ s₁) {f : Flow} {s' : Shared} (p : PostS X env N R F₁ μ₁ s₁ f s') : PostS X env N R F μ s f s' := by
  cases f with
  | next => obtain ⟨ρ', μ', F', h, H, V, S'⟩ := p; exact ⟨ρ', μ', F', h, H, V, S.trans S'⟩
  | ret v => obtain ⟨d, μ', F', h, r, H, S'⟩ := p; exact ⟨d, μ', F', h, r, H, S.trans S'⟩
  | brk => exact p
  | cont => exact p
theorem Step.own {F F' : FZ} {μ' : Mu} {s s' : Shared} (S : Step No F μ s F' μ' s') : Step (Own env) F μ s F' μ' s' := S.weaken fun _ h => h.elim
theorem Ex.nil {N : Rho → Mu → Prop} {R : D → Mu → Prop} (h : N ρ μ) : Ex X n env [] ρ μ N R := fun A F s _ H V => wpAny_execs_nil ⟨ρ, μ, F, h, H, V, .refl ..⟩
theorem Ex.cons {st : Stmt} {rest : List Stmt} {N : Rho → Mu → Prop} {R : D → Mu → Prop} (h : Ex1 X n env st ρ μ (fun ρ' μ' => Ex X n env rest ρ' μ' N R) R) : Ex X n env (st :: rest) ρ μ N R := fun A F s hA H V => by
  refine wpAny_execs_cons (wpAny_mono (h A F s hA H V) ?_ fun _ _ e => e)
  rintro f s₁ p
  cases f with
  | next =>
    obtain ⟨ρ', μ', F', h', H', V', S'⟩ := p
    exact wpAny_mono (h' A F' s₁ hA H' V') (fun _ _ p => p.after S') fun _ _ e => e
  | ret v => exact p
  | brk => exact p
  | cont => exact p
theorem Ex.mono {ss : List Stmt} {N N' : Rho → Mu → Prop} {R R' : D → Mu → Prop} (x : Ex X n env ss ρ μ N R) (hN : ∀ ρ' μ', N ρ' μ' → N' ρ' μ') (hR : ∀ d μ', R d μ' → R' d μ') : Ex X n env ss ρ μ N' R' := fun A F s hA H V => by
  refine wpAny_mono (x A F s hA H V) ?_ fun _ _ e => e
  rintro f s' p
  cases f with
  | next => obtain ⟨ρ', μ', F', h, r⟩ := p; exact ⟨ρ', μ', F', hN _ _ h, r⟩
  | ret v => obtain ⟨d, μ', F', h, r⟩ := p; exact ⟨d, μ', F', hR _ _ h, r⟩
  | brk => exact p
  | cont => exact p
theorem Ex1.ret {e : Expr} {pos : Pos} {N : Rho → Mu → Prop} {R : D → Mu → Prop} (h : Ev X n env e ρ μ R) : Ex1 X n env (.Return (some e) pos) ρ μ N R := fun A F s hA H V =>
  wpAny_Return_some (wpAny_mono (h A F s hA H V) (fun v s' ⟨d, μ', F', q, r, H', S'⟩ => ⟨d, μ', F', q, r, H', S'.own⟩) fun _ _ e => e)
theorem Ex1.ite {test : Expr} {body orelse : List Stmt} {pos : Pos} {N : Rho → Mu → Prop} {R : D → Mu → Prop}
    (h : Tr X n env test ρ μ fun b μ₁ => if b = true then Ex X n env body ρ μ₁ N R else Ex X n env orelse ρ μ₁ N R) : Ex1 X n env (.If test body orelse pos) ρ μ N R := fun A F s hA H V => by
  refine wpAny_If (wpAny_mono (h A F s hA H V) ?_ fun _ _ e => e)
  rintro b s₁ ⟨μ₁, F₁, h₁, H₁, S₁⟩
  cases b with
  | true => exact wpAny_mono ((by simpa using h₁ : Ex X n env body ρ μ₁ N R) A F₁ s₁ hA H₁ (V.step S₁)) (fun _ _ p => p.after S₁.own) fun _ _ e => e
  | false => exact wpAny_mono ((by simpa using h₁ : Ex X n env orelse ρ μ₁ N R) A F₁ s₁ hA H₁ (V.step S₁)) (fun _ _ p => p.after S₁.own) fun _ _ e => e
theorem Ex1.asg {t value : Expr} {pos : Pos} {N : Rho → Mu → Prop} {R : D → Mu → Prop} (h : Ev X n env value ρ μ fun d μ₁ => AsgP X n env t d ρ μ₁ N)
    (hs : swapsWithSole [t] value pos.line env = pure false := by rfl) (hw : swappedStores [t] value env = pure none := by rfl)
    (ha : (assignEach [t] env).map (·.2) = [assign t env] := by rfl) : Ex1 X n env (.Assign [t] value pos) ρ μ N R := fun A F s hA H V => by
  refine wpAny_Assign_stores (wpAny_mono (h A F s hA H V) ?_ fun _ _ e => e) hs hw
  rintro v s₁ ⟨d, μ₁, F₁, h₁, r, H₁, S₁⟩
  rw [ha]
  show wpAny _ A (assign t env v) _ _ s₁
  refine wpAny_mono (h₁ A F₁ s₁ v hA H₁ (V.step S₁) r) ?_ fun _ _ e => e
  rintro _ s₂ ⟨ρ₂, μ₂, F₂, q, H₂, V₂, S₂⟩
  exact ⟨ρ₂, μ₂, F₂, q, H₂, V₂, S₁.own.trans S₂⟩
/-- a, b = (.., ..): the machine swaps the stores -/
theorem Ex1.swap {x y : Str} {px py tp pos : Pos} {k : Nat} {value : Expr} {N : Rho → Mu → Prop} {R : D → Mu → Prop} (hx : Kept env x) (hy : Kept env y)
    (h : Ev X n env value ρ μ fun d μ₁ => ∃ d₁ d₂, d = .tup [d₁, d₂] ∧ N (rset (rset ρ y d₂) x d₁) μ₁)
    (hs : swapsWithSole [.Tuple [.Name x px, .Name y py] k tp] value pos.line env = pure false := by rfl)
    (hw : swappedStores [.Tuple [.Name x px, .Name y py] k tp] value env = pure (some [x, y]) := by rfl) : Ex1 X n env (.Assign [.Tuple [.Name x px, .Name y py] k tp] value pos) ρ μ N R := fun A F s hA H V => by
  rw [exec_Assign_arm]
  refine wpAny_bind (wpAny_standAt ?_)
  rw [hs]
  refine wpAny_bind (wpAny_pure ?_)
  rw [if_neg (by decide)]
  refine wpAny_bind (wpAny_mono (h A F s hA H V) ?_ fun _ _ e => e)
  rintro v s₁ ⟨d, μ₁, F₁, ⟨d₁, d₂, rfl, q⟩, r, H₁, S₁⟩
  rw [hw]
  refine wpAny_bind (wpAny_pure ?_)
  show wpAny _ A (do rule "assign.swapped-stores"; let items ← unpackItems v 2 none; assignInOrder ([y, x].map fun n => bindName env n) items.reverse; pure Flow.next) _ _ s₁
  obtain ⟨a, vs, rfl, hT, hr⟩ := Rep.isTup H₁ r
  have hz : vs.size = 2 := by have := hr.length; simpa using this
  refine wpAny_bind (wpAny_rule ?_)
  rw [← hz]
  refine wpAny_bind (wpAny_unpackItems_tuple hA.1 hT fun h' he => ?_)
  have hk := ext_grow he
  have H' := H₁.grow (s' := { s₁ with heap := h' }) hk rfl rfl
  have V' := (V.step S₁).step (s' := { s₁ with heap := h' }) (.grow hk)
  obtain ⟨v₁, _, e₁, r₁, v₂, _, e₂, r₂, e₃⟩ := hr
  cases e₃; subst e₂
  rw [e₁]
  show wpAny _ A (assignInOrder [bindName env y, bindName env x] [v₂, v₁] >>= fun _ => pure Flow.next) _ _ _
  refine wpAny_bind (wpAny_assignInOrder_more (wpAny_bindName (store hy H' V' r₂ fun s₂ H₂ V₂ S₂ => ?_)))
  refine wpAny_assignInOrder_more (wpAny_bindName (store hx H₂ V₂ r₁ fun s₃ H₃ V₃ S₃ => ?_))
  refine wpAny_assignInOrder_none (wpAny_pure ⟨_, μ₁, F₁, q, H₃, V₃, ?_⟩)
  exact S₁.own.trans ((Step.grow hk).trans (S₂.trans S₃))
/-- items written -/
def SetI (X : Cx) (n : Nat) (o i v : D) (μ : Mu) (Q : Mu → Prop) : Prop :=
  ∀ A F s vo vi vv, AOk n A → HC X F μ s → Rep F o vo → Rep F i vi → Rep F v vv → wpAny (model X.prog X.w) A (setItem vo vi vv) (fun _ s' => ∃ μ' F', Q μ' ∧ HC X F' μ' s' ∧ Step No F μ s F' μ' s') Never s
theorem Ex1.setitem {o i value : Expr} {pos' pos : Pos} {N : Rho → Mu → Prop} {R : D → Mu → Prop}
    (h : Ev X n env value ρ μ fun d μ₁ => Ev X n env o ρ μ₁ fun od μ₂ => Ev X n env i ρ μ₂ fun id μ₃ => SetI X n od id d μ₃ fun μ₄ => N ρ μ₄)
    (hs : swapsWith value (some (.Subscript o i pos')) pos.line env = pure false := by rfl) : Ex1 X n env (.Assign [.Subscript o i pos'] value pos) ρ μ N R := fun A F s hA H V => by
  refine wpAny_Assign_Subscript (wpAny_mono (h A F s hA H V) ?_ fun _ _ e => e) hs
  rintro v s₁ ⟨d, μ₁, F₁, h₁, r₁, H₁, S₁⟩
  refine wpAny_mono (h₁ A F₁ s₁ hA H₁ (V.step S₁)) ?_ fun _ _ e => e
  rintro vo s₂ ⟨od, μ₂, F₂, h₂, r₂, H₂, S₂⟩
  refine wpAny_mono (h₂ A F₂ s₂ hA H₂ ((V.step S₁).step S₂)) ?_ fun _ _ e => e
  rintro vi s₃ ⟨id, μ₃, F₃, h₃, r₃, H₃, S₃⟩
  refine wpAny_mono (h₃ A F₃ s₃ vo vi v hA H₃ (r₂.mono S₃.le) r₃ ((r₁.mono S₂.le).mono S₃.le)) ?_ fun _ _ e => e
  rintro _ s₄ ⟨μ₄, F₄, q, H₄, S₄⟩
  exact ⟨ρ, μ₄, F₄, q, H₄, (((V.step S₁).step S₂).step S₃).step S₄, ((S₁.trans S₂).trans (S₃.trans S₄)).own⟩
theorem Reps.set {F : FZ} : ∀ {ds : List D} {vs : List Value} (i : Nat) {d : D} {v : Value}, Reps F ds vs → Rep F d v → Reps F (ds.set i d) (vs.set i v)
  | [], _, _, _, _, h, _ => by cases h; exact rfl
  | _ :: _, _, 0, _, _, ⟨v, vs', e, h, hr⟩, r => by subst e; exact ⟨_, _, rfl, r, hr⟩
  | _ :: _, _, i + 1, _, _, ⟨v, vs', e, h, hr⟩, r => by subst e; exact ⟨_, _, rfl, h, hr.set i r⟩
theorem SetI.list {a : Addr} {l : List D} {i : Int} {v : D} {Q : Mu → Prop} (hm : CellL μ a l) (htb : a ≠ X.tb) (h0 : 0 ≤ i) (hfit : i < 2 ^ 63) (hn : i < l.length) (h : Q (mput μ a (.list (l.set i.toNat v)))) : SetI X n (.raw (.ref a)) (.int i) v μ Q := by
  rintro A F s _ _ vv hA H rfl ⟨t, rfl⟩ rv
  obtain ⟨vs, o, k, ho, hc, hs, hr⟩ := H.isCellList hm
  have hz : vs.size = l.length := by rw [← hr.length]; simp
  refine wpAny_setItem_list ⟨o, ho, hc, k, hs⟩ h0 hfit (by rw [hz]; exact hn) fun h' hL hs' => ?_
  obtain ⟨o', ho', hc', k', hs''⟩ := hL
  obtain ⟨c₀, hc₀⟩ : ∃ c₀, μ a = some c₀ := hm.elim (fun e => ⟨_, e⟩) fun e => ⟨_, e⟩
  obtain ⟨H', S'⟩ := H.cellSet (s' := { s with heap := h' }) (c := .list (l.set i.toNat v)) hc₀ htb ho' ⟨hc', _, k', hs'', by simpa using hr.set i.toNat rv⟩ (fun b o hb e => hs'.extBut b o hb e) rfl rfl
  exact ⟨_, F, h, H', S'⟩
/- x.append(e) -/
theorem Ex1.append {o elt : Expr} {apos cpos pos : Pos} {N : Rho → Mu → Prop} {R : D → Mu → Prop}
    (h : Ev X n env o ρ μ fun od μ₁ => ∃ a, od = .raw (.ref a) ∧ (∃ l, μ₁ a = some (.app l)) ∧ Ev X n env elt ρ μ₁ fun d μ₂ => ∃ l, μ₂ a = some (.app l) ∧ a ≠ X.tb ∧ Small l ∧ N ρ (mput μ₂ a (.app (l ++ [d]))))
    (hbase : attributeBase o "append" env (eval o env) = eval o env := by rfl)
    (hfew : ((backTo cpos (starEach [elt] env)).all (fun x => !x.1) && (backToKw cpos (keywordEach [] env)).all (fun x => x.1.isSome)
      && decide (([elt] : List Expr).length + ([] : List Keyword).length + (if ([] : List Keyword).isEmpty then 0 else 1) < 30)) = true := by rfl)
    (hline : (apos.endLine == cpos.line) = true := by rfl)
    (htrees : backTo cpos (starEach [elt] env) = [(false, eval elt env)] := by rfl)
    (hi : interactive env = false := by rfl) (hs : swapsWith (.Call (.Attribute o "append" apos) [elt] [] cpos) none pos.line env = pure false := by rfl) :
    Ex1 X n env (.Expr (.Call (.Attribute o "append" apos) [elt] [] cpos) pos) ρ μ N R := fun A F s hA H V => by
  refine wpAny_Expr_any (wpAny_Call_append hbase hfew hline htrees (wpAny_mono (h A F s hA H V) ?_ fun _ _ e => e)) hi hs
  rintro vo s₁ ⟨od, μ₁, F₁, ⟨a, rfl, ⟨l₁, hl₁⟩, h₁⟩, rfl, H₁, S₁⟩
  obtain ⟨_, _, o₁, ho₁, vs₁, k₁, rfl, hr₁⟩ := H₁.cell a _ hl₁
  refine ⟨a, vs₁, rfl, ⟨_, k₁, ho₁, rfl, rfl, rfl⟩, ?_⟩
  refine wpAny_mono (h₁ A F₁ s₁ hA H₁ (V.step S₁)) ?_ fun _ _ e => e
  rintro v s₂ ⟨d, μ₂, F₂, ⟨l, hl, htb, hsm, q⟩, rd, H₂, S₂⟩
  obtain ⟨_, _, o₂, ho₂, vs, k, rfl, hr⟩ := H₂.cell a _ hl
  have hz : vs.size = l.length := by rw [← hr.length]; simp
  refine wpAny_list_append_plain ⟨k, ho₂⟩ (fun h' hL hs' => ?_) (by rw [hz, sizeLine_eq]; exact Nat.le_trans hsm (by decide))
  obtain ⟨k', hk'⟩ := hL
  obtain ⟨H', S'⟩ := H₂.cellSet (s' := { s₂ with heap := h' }) (c := .app (l ++ [d])) hl htb hk' ⟨_, k', rfl, by simpa using hr.append (Reps.one rd)⟩ (fun b o hb e => hs'.extBut b o hb e) rfl rfl
  exact ⟨ρ, _, F₂, q, H', ((V.step S₁).step S₂).step S', ((S₁.trans S₂).trans S').own⟩
end Lay

/- part Lay5 -/
open PySem PySem.W PyProof.Rows
set_option Elab.async false
set_option linter.unusedVariables false
namespace Lay
variable {X : Cx} {n : Nat} {env : Env} {ρ : Rho} {μ : Mu}

def Froz (F : FZ) (h : Heap) : Prop := ∀ a o, F a = some o → h.get? a = some o
/-- an iterator over data -/
structure Itr (X : Cx) (F : FZ) (it : Addr) (ds : List D) (St : Nat → Heap → Prop) : Prop where
  live : ∀ i h, St i h → ∃ o, h.get? it = some o
  frame : ∀ i h h', St i h → (∀ o, h.get? it = some o → h'.get? it = some o) → Froz F h' → St i h'
  item : ∀ (A : Around) i s d (Q : Option Value → Shared → Prop) (E : Value → Shared → Prop), A.handled = none → St i s.heap → Froz F s.heap → ds[i]? = some d →
    (∀ v h' tk, Rep F d v → St (i + 1) h' → (∀ b o, b ≠ it → s.heap.get? b = some o → h'.get? b = some o) → Q (some v) { s with heap := h', toks := tk }) → wpAny (model X.prog X.w) A (pyNext (.ref it)) Q E s
  done : ∀ (A : Around) s (Q : Option Value → Shared → Prop) (E : Value → Shared → Prop), A.handled = none → St ds.length s.heap → Froz F s.heap →
    (∀ h' tk, (∀ b o, b ≠ it → s.heap.get? b = some o → h'.get? b = some o) → Q none { s with heap := h', toks := tk }) → wpAny (model X.prog X.w) A (pyNext (.ref it)) Q E s
  self : ∀ (A : Around) i s (Q : Value → Shared → Prop) (E : Value → Shared → Prop), St i s.heap → Q (.ref it) s → wpAny (model X.prog X.w) A (pyIter (.ref it)) Q E s
  go : ∀ (A : Around) i s t v (Q : Unit → Shared → Prop) (E : Value → Shared → Prop), St i s.heap → Q () s → wpAny (model X.prog X.w) A (letOwnedTupleGo t (.ref it) v) Q E s

theorem go_quiet {M : Model} {A : Around} {s : Shared} {it : Addr} {o : Obj} {c : String} {vs : Array Value} {t : Expr} {v : Value} {Q : Unit → Shared → Prop} {E : Value → Shared → Prop} (ho : s.heap.get? it = some o) (hc : o.cls = .type c) (hd : o.data = .fields vs)
    (hn : (["enumerate", "zip", "dict_itemiterator", "dict_reverseitemiterator", "odict_iterator", "itertools.zip_longest", "itertools.pairwise"] : List String).contains c = false) (h : Q () s) : wpAny M A (letOwnedTupleGo t (.ref it) v) Q E s := by
  unfold letOwnedTupleGo
  have core : ∀ a : Addr, wpAny M A (do
      let o ← load it
      match o.cls, o.data with
      | .type n, .fields vs =>
        if (["enumerate", "zip", "dict_itemiterator", "dict_reverseitemiterator", "odict_iterator", "itertools.zip_longest", "itertools.pairwise"] : List String).contains n && vs[0]? == some (rawInt a) then do
          rule "for.unpacks-the-owned-tuple"
          updateField it 0 .none
      | _, _ => pure ()) Q E s := fun a => by
    refine wpAny_bind (wpAny_load ho ?_)
    rw [hc, hd]
    show wpAny M A (if (_ && _) = true then _ else _) Q E s
    rw [hn, Bool.false_and, if_neg Bool.false_ne_true]
    exact wpAny_pure h
  split
  · cases v <;> first | exact wpAny_pure h | exact core _
  · cases v <;> first | exact wpAny_pure h | exact core _
  · exact wpAny_pure h

theorem Itr.list {F : FZ} {it la : Addr} {ol : Obj} {vs : Array Value} {k : Nat} {ds : List D} (hF : F la = some ol) (hc : ol.cls = .type "list") (hd : ol.data = .seq vs k) (hne : F it = none) (hr : Reps F ds vs.toList) :
    Itr X F it ds (fun i h => h.IsListIter it la i ∧ h.IsList la vs) where
  live := fun i h ⟨⟨o, ho, _⟩, _⟩ => ⟨o, ho⟩
  frame := fun i h h' ⟨⟨o, ho, r⟩, _⟩ hk hf => ⟨⟨o, hk o ho, r⟩, ⟨ol, hf la ol hF, hc, k, hd⟩⟩
  item := fun A i s d Q E hA st hf hi hQ => by
    obtain ⟨v, hv, rv⟩ := hr.get hi
    refine wpAny_pyNext_list_item st.1 st.2 (x := v) (by simpa using hv) fun h' hit hs => ?_
    have hk : ∀ b o, b ≠ it → s.heap.get? b = some o → h'.get? b = some o := fun b o hb e => hs.extBut b o hb e
    exact hQ v h' s.toks rv ⟨hit, ⟨ol, hk la ol (by rintro rfl; rw [hne] at hF; cases hF) (hf la ol hF), hc, k, hd⟩⟩ hk
  done := fun A s Q E hA st hf hQ => wpAny_pyNext_list_end hA st.1 st.2 (by rw [← hr.length]; simp) fun h' he => hQ h' s.toks fun b o hb e => he b o hb e
  self := fun A i s Q E st hQ => wpAny_pyIter_listiter st.1 hQ
  go := fun A i s t v Q E st hQ => by obtain ⟨⟨o, ho, hcc, hdd⟩, _⟩ := st; exact go_quiet ho hcc hdd (by decide) hQ
theorem Itr.tuple {F : FZ} {it la : Addr} {ol : Obj} {vs : Array Value} {k : Nat} {ds : List D} (hF : F la = some ol) (hc : ol.cls = .type "tuple") (hd : ol.data = .seq vs k) (hne : F it = none) (hr : Reps F ds vs.toList) :
    Itr X F it ds (fun i h => h.IsTupleIter it la i ∧ h.IsTuple la vs) where
  live := fun i h ⟨⟨o, ho, _⟩, _⟩ => ⟨o, ho⟩
  frame := fun i h h' ⟨⟨o, ho, r⟩, _⟩ hk hf => ⟨⟨o, hk o ho, r⟩, ⟨ol, hf la ol hF, hc, k, hd⟩⟩
  item := fun A i s d Q E hA st hf hi hQ => by
    obtain ⟨v, hv, rv⟩ := hr.get hi
    refine wpAny_pyNext_tuple_item st.1 st.2 (x := v) (by simpa using hv) fun h' hit hs => ?_
    have hk : ∀ b o, b ≠ it → s.heap.get? b = some o → h'.get? b = some o := fun b o hb e => hs.extBut b o hb e
    exact hQ v h' s.toks rv ⟨hit, ⟨ol, hk la ol (by rintro rfl; rw [hne] at hF; cases hF) (hf la ol hF), hc, k, hd⟩⟩ hk
  done := fun A s Q E hA st hf hQ => wpAny_pyNext_tuple_end hA st.1 st.2 (by rw [← hr.length]; simp) fun h' he => hQ h' s.toks fun b o hb e => he b o hb e
  self := fun A i s Q E st hQ => wpAny_pyIter_tupleiter st.1 hQ
  go := fun A i s t v Q E st hQ => by obtain ⟨⟨o, ho, hcc, hdd⟩, _⟩ := st; exact go_quiet ho hcc hdd (by decide) hQ
theorem intsFrom_length : ∀ (k : Nat) (x : Int), (intsFrom x k).length = k
  | 0, _ => rfl
  | k + 1, x => by simp [intsFrom, intsFrom_length k]
theorem intsFrom_get : ∀ (k : Nat) (x : Int) (i : Nat), i < k → (intsFrom x k)[i]? = some (.int (x + i))
  | 0, _, _, h => absurd h (Nat.not_lt_zero _)
  | k + 1, x, 0, _ => by simp [intsFrom]
  | k + 1, x, i + 1, h => by
    rw [intsFrom, List.getElem?_cons_succ, intsFrom_get k (x + 1) i (by omega)]
    congr 2; omega
theorem Itr.range {F : FZ} {it : Addr} {a : Int} {k : Nat} : Itr X F it (intsFrom a k) (fun i h => i ≤ k ∧ IsRangeIter h it (a + (i : Nat)) ((k : Int) - (i : Nat)) 1) where
  live := fun i h st => ⟨_, st.2⟩
  frame := fun i h h' st hk hf => ⟨st.1, hk _ st.2⟩
  item := fun A i s d Q E hA st hf hi hQ => by
    have hlt : i < k := by
      rcases Nat.lt_or_ge i k with q | q
      · exact q
      · rw [List.getElem?_eq_none (by rw [intsFrom_length]; exact q)] at hi; cases hi
    rw [intsFrom_get k a i hlt] at hi
    cases hi
    refine wpAny_pyNext_range_item st.2 (by omega) fun h' hit hs => ?_
    refine hQ _ h' _ ⟨_, rfl⟩ ⟨hlt, ?_⟩ fun b o hb e => hs.extBut b o hb e
    have e1 : a + ((i + 1 : Nat) : Int) = a + (i : Int) + 1 := by push_cast; omega
    have e2 : (k : Int) - ((i + 1 : Nat) : Int) = (k : Int) - (i : Int) - 1 := by push_cast; omega
    rw [e1, e2]; exact hit
  done := fun A s Q E hA st hf hQ => by
    rw [intsFrom_length] at st
    exact (Walks.range hA it a 1 k).done s Q E (by rw [Int.mul_one]; exact st.2) fun h' tk hk => hQ h' tk fun b o hb e => hk b o (by simpa using hb) e
  self := fun A i s Q E st hQ => wpAny_pyIter_rangeiter st.2 hQ
  go := fun A i s t v Q E st hQ => go_quiet st.2 rfl rfl (by decide) hQ

/-- what iterates over ds -/
def Iterb (X : Cx) (μ : Mu) (d : D) (ds : List D) : Prop :=
  ∀ (A : Around) (F : FZ) (s : Shared) (v : Value) (Q : Value → Shared → Prop) (E : Value → Shared → Prop), A.handled = none → HC X F μ s → Rep F d v →
    (∀ h' St, (∀ b o, s.heap.get? b = some o → h'.get? b = some o) → Itr X F s.heap.objs.size ds St → St 0 h' → Q (.ref s.heap.objs.size) { s with heap := h' }) → wpAny (model X.prog X.w) A (pyIter v) Q E s
theorem Iterb.lst (l : List D) : Iterb X μ (.lst l) l := fun A F s v Q E hA H r hQ => by
  obtain ⟨a, o, vs, k, rfl, hf, hc, hd, hr⟩ := r
  have hL : s.heap.IsList a vs := ⟨o, H.fz a o hf, hc, k, hd⟩
  exact wpAny_pyIter_list hL (hQ _ _ (fun b o e => Heap.get?_push_of_some _ e) (Itr.list hf hc hd (H.none_of_fresh push_none).1 hr) ⟨⟨_, Heap.get?_push_size _ rfl, rfl, rfl⟩, hL.push _⟩)
theorem Iterb.tup (l : List D) : Iterb X μ (.tup l) l := fun A F s v Q E hA H r hQ => by
  obtain ⟨a, o, vs, k, rfl, hf, hc, hd, hr⟩ := r
  have hL : s.heap.IsTuple a vs := ⟨o, H.fz a o hf, hc, k, hd⟩
  exact wpAny_pyIter_tuple hL (hQ _ _ (fun b o e => Heap.get?_push_of_some _ e) (Itr.tuple hf hc hd (H.none_of_fresh push_none).1 hr) ⟨⟨_, Heap.get?_push_size _ rfl, rfl, rfl⟩, hL.push _⟩)
theorem Iterb.rng {lo hi : Int} (h0 : -(2 ^ 60) ≤ lo) (h1 : hi ≤ 2 ^ 60) (h2 : lo ≤ 2 ^ 60) (h3 : -(2 ^ 60) ≤ hi) : Iterb X μ (.rng lo hi) (intsFrom lo (hi - lo).toNat) := fun A F s v Q E hA H r hQ => by
  obtain ⟨a, t, u, k, rfl, hf⟩ := r
  have hz : Builtin.Range.rangeSize lo hi 1 = ((hi - lo).toNat : Int) := rangeSize_nat lo hi
  refine wpAny_pyIter_range (H.fz a _ hf) ?_ ?_
  · unfold Builtin.Range.small
    rw [hz]
    have fit : ∀ x : Int, -(2 ^ 62) ≤ x → x ≤ 2 ^ 62 → Builtin.Range.rangeFitsLong x = true := fun x q1 q2 => by
      unfold Builtin.Range.rangeFitsLong
      simp only [Bool.and_eq_true, decide_eq_true_eq]
      omega
    rw [fit lo (by omega) (by omega), fit hi (by omega) (by omega), fit 1 (by omega) (by omega), fit ((hi - lo).toNat : Int) (by omega) (by omega)]
    simp [fit hi (by omega) (by omega)]
  · rw [hz]
    refine hQ _ _ (fun b o e => Heap.get?_push_of_some _ e) Itr.range ⟨Nat.zero_le _, ?_⟩
    show Heap.get? _ _ = _
    rw [Heap.get?_push_size _ rfl]
    simp [rawInt]
end Lay

/- part Lay6 -/
open PySem PySem.W PyProof.Rows
set_option Elab.async false
set_option linter.unusedVariables false
namespace Lay
variable {X : Cx} {n : Nat} {env : Env} {ρ : Rho} {μ : Mu}

theorem Step.apart {W : Addr → Prop} {F F' : FZ} {μ' : Mu} {s s' : Shared} (S : Step W F μ s F' μ' s') {a : Addr} {o : Obj} (e : s.heap.get? a = some o) (hF : F a = none) (hM : μ a = none) : F' a = none ∧ μ' a = none := by
  refine ⟨?_, ?_⟩
  · cases q : F' a with
    | none => rfl
    | some o' => rcases S.newF a o' q with h | h | h
                 · rw [hF] at h; cases h
                 · exact absurd hM h
                 · rw [h] at e; cases e
  · cases q : μ' a with
    | none => rfl
    | some o' => rcases S.newM a (by rw [q]; simp) with h | h
                 · exact absurd hM h
                 · rw [h] at e; cases e
/-- behind a step an object that came later, or an own cell, is touched -/
theorem Step.touch {W : Addr → Prop} {F F' : FZ} {μ' : Mu} {s s₁ s₂ : Shared} (S : Step W F μ s F' μ' s₁) {I : Addr} (hI : s.heap.get? I = none ∨ μ I ≠ none) (hk : ∀ b o, b ≠ I → s₁.heap.get? b = some o → s₂.heap.get? b = some o) : Step W F μ s F' μ' s₂ := by
  have ne : ∀ b o, s.heap.get? b = some o → μ b = none → b ≠ I := fun b o e hm q => by
    subst q
    rcases hI with hI | hI
    · rw [hI] at e; cases e
    · exact hI hm
  exact ⟨S.le, fun b o e hm hw => hk b o (ne b o e hm) (S.keep b o e hm hw), fun b o e hm => let ⟨o', e'⟩ := S.there b o e hm; ⟨o', hk b o' (ne b o e hm) e'⟩, S.newF, S.newM⟩
theorem Step.drop {W : Addr → Prop} {F₁ F F' : FZ} {μ₁ μ μ' : Mu} {s₁ s s' : Shared} (S : Step No F₁ μ₁ s₁ F μ s) (T : Step W F μ s F' μ' s') (hW : ∀ a, W a → s₁.heap.get? a = none) : Step No F₁ μ₁ s₁ F' μ' s' := by
  refine ⟨S.le.trans T.le, fun b o e hm hw => ?_, fun b o e hm => let ⟨o', e'⟩ := S.there b o e hm; T.there b o' e' (S.stay e hm), fun a o e => ?_, fun a e => ?_⟩
  · refine T.keep b o (S.keep b o e hm hw) (S.stay e hm) fun q => ?_
    rw [hW b q] at e; cases e
  · rcases T.newF a o e with h | h | h
    · exact S.newF a o h
    · exact .inr (S.newM a h)
    · exact .inr (S.gone h)
  · rcases T.newM a e with h | h
    · exact S.newM a h
    · exact S.gone h
theorem HC.touch' {F : FZ} {s s' : Shared} (H : HC X F μ s) {I : Addr} (hF : F I = none) (hM : μ I = none) (hB : X.h₁.get? I = none) (hk : ∀ b o, b ≠ I → s.heap.get? b = some o → s'.heap.get? b = some o)
    (hg : s'.gens = s.gens) (ho : s'.os = s.os) : HC X F μ s' := by
  have ne : ∀ b o, X.h₁.get? b = some o → b ≠ I := fun b o e q => by subst q; rw [hB] at e; cases e
  refine ⟨fun a o e => hk a o (by rintro rfl; rw [hF] at e; cases e) (H.fz a o e), H.base, fun a c e => ?_, ⟨fun b o e => ?_, fun b o e => by obtain ⟨o', ho'⟩ := H.old.there b o e; exact ⟨o', hk b o' (ne b o e) ho'⟩⟩, hg.trans H.gens, ho.trans H.os⟩
  · obtain ⟨h1, h2, o, h3, h4⟩ := H.cell a c e
    exact ⟨h1, h2, o, hk a o (by rintro rfl; rw [hM] at e; cases e) h3, h4⟩
  · rcases H.old.old b o e with x | ⟨t, hc, vs, more, hv, x⟩ | ⟨rfl, hc, ⟨o', es, n, ho', r⟩, z⟩
    · exact .inl (hk b _ (ne b o e) x)
    · exact .inr (.inl ⟨t, hc, vs, more, hv, hk b _ (ne b o e) x⟩)
    · exact .inr (.inr ⟨rfl, hc, ⟨o', es, n, hk _ _ (ne _ o e) ho', r⟩, fun key => by rw [OldK.staticOf_congr ((hk _ _ (ne _ o e) ho').trans ho'.symm) key]; exact z key⟩)
theorem VC.touch {F : FZ} {s s' : Shared} (V : VC X F μ env ρ s) {I : Addr} (hne : ∀ a, Uses env a → a ≠ I) (hk : ∀ b o, b ≠ I → s.heap.get? b = some o → s'.heap.get? b = some o) : VC X F μ env ρ s' := by
  obtain ⟨m, hn, hm⟩ := V.ns
  have keepc : ∀ x a v, (x, a) ∈ env.cells → s.heap.IsCell a v → s'.heap.IsCell a v := fun x a v hx ⟨o, ho, hd⟩ => ⟨o, hk a o (hne a (.inr ⟨x, hx⟩)) ho, hd⟩
  exact ⟨⟨m, hn.at' fun o e => hk _ o (hne _ (.inl rfl)) e, hm⟩, fun x d e k => let ⟨a, v, h1, h2, h3⟩ := V.cv x d e k; ⟨a, v, h1, keepc x a _ (mem_of_lookup h1) h2, h3⟩, fun x a h => let ⟨v, hv⟩ := V.here x a h; ⟨v, keepc x a v h hv⟩, V.apart, V.lf, V.cf, V.kind⟩
theorem VC.exists {F : FZ} {s : Shared} (V : VC X F μ env ρ s) {a : Addr} (h : Uses env a) : ∃ o, s.heap.get? a = some o := by
  rcases h with rfl | ⟨x, hx⟩
  · obtain ⟨m, hn, _⟩ := V.ns; exact Ns_get hn
  · obtain ⟨v, o, ho, _⟩ := V.here x a hx; exact ⟨o, ho⟩

/-- the turns of a for -/
def ForP (X : Cx) (n : Nat) (env : Env) (target : Expr) (body : List Stmt) : List D → Rho → Mu → (Rho → Mu → Prop) → (D → Mu → Prop) → Prop
  | [], ρ, μ, N, _ => N ρ μ
  | d :: ds, ρ, μ, N, R => AsgP X n env target d ρ μ fun ρ₁ μ₁ => Ex X n env body ρ₁ μ₁ (fun ρ₂ μ₂ => ForP X n env target body ds ρ₂ μ₂ N R) R

theorem For_run {A : Around} {target : Expr} {body : List Stmt} {N : Rho → Mu → Prop} {R : D → Mu → Prop} {F₁ : FZ} {μ₁ : Mu} {s₁ : Shared} {it : Addr} {ds : List D} {St : Nat → Heap → Prop} {Rc : Result → Shared → Prop}
    (hA : AOk n A) (I : Itr X F₁ it ds St) (hfresh : s₁.heap.get? it = none ∨ μ₁ it ≠ none) (hown : ∀ a, Uses env a → a ≠ it) (hB : X.h₁.get? it = none)
    (hRc : ∀ f s', PostS X env N R F₁ μ₁ s₁ f s' → Rc (.ok f) s')
    {s₂ : Shared} {ρ₂ : Rho} {μ₂ : Mu} {F₂ : FZ} {i₀ : Nat} (hi₀ : i₀ ≤ ds.length) (h : ForP X n env target body (ds.drop i₀) ρ₂ μ₂ N R) (H : HC X F₂ μ₂ s₂) (V : VC X F₂ μ₂ env ρ₂ s₂) (hst : St i₀ s₂.heap) (hF : F₂ it = none) (hM : μ₂ it = none)
    (S : Step (Own env) F₁ μ₁ s₁ F₂ μ₂ s₂) : codeAny (model X.prog X.w) A (.forLoop target (.ref it) body [] env) Rc s₂ := by
  refine codeAny_forLoop_any (fun k s' => ∃ i ρ' μ' F', k = ds.length + 1 - i ∧ i ≤ ds.length ∧ ForP X n env target body (ds.drop i) ρ' μ' N R ∧ HC X F' μ' s' ∧ VC X F' μ' env ρ' s' ∧ St i s'.heap ∧ F' it = none ∧ μ' it = none ∧ Step (Own env) F₁ μ₁ s₁ F' μ' s')
    ?_ (ds.length + 1 - i₀) ⟨i₀, ρ₂, μ₂, F₂, rfl, hi₀, h, H, V, hst, hF, hM, S⟩
  rintro k s ⟨i, ρ, μ, F, rfl, hi, hP, H, V, hst, hF, hM, S⟩
  have fz : Froz F₁ s.heap := fun a o e => H.fz a o (S.le a o e)
  by_cases hlt : i < ds.length
  · obtain ⟨d, hd⟩ : ∃ d, ds[i]? = some d := ⟨ds[i], by simp [hlt]⟩
    have hdrop : ds.drop i = d :: ds.drop (i + 1) := by
      rw [List.drop_eq_getElem_cons hlt]; congr 1
      rw [List.getElem?_eq_getElem hlt] at hd; exact Option.some.inj hd
    rw [hdrop] at hP
    refine I.item A i s d _ _ hA.1 hst fz hd fun v h' tk rv hst' hk => ?_
    dsimp only
    obtain ⟨H', T'⟩ := H.touch (s' := { s with heap := h', toks := tk }) hF hM hB hk (I.live _ _ hst') rfl rfl
    have V' := V.touch (s' := { s with heap := h', toks := tk }) hown hk
    have S' := S.touch (s₂ := { s with heap := h', toks := tk }) hfresh hk
    refine I.go A (i + 1) _ target v _ _ hst' ?_
    refine wpAny_mono (hP A F _ v hA H' V' (rv.mono S.le)) ?_ fun _ _ e => e.elim
    rintro _ s₃ ⟨ρ₃, μ₃, F₃, h₃, H₃, V₃, S₃⟩
    have hit : ∃ o, h'.get? it = some o := I.live _ _ hst'
    have keep₃ : ∀ o, h'.get? it = some o → s₃.heap.get? it = some o := fun o e => S₃.keep it o e hM fun q => hown it q.uses rfl
    have hst₃ : St (i + 1) s₃.heap := I.frame _ _ _ hst' keep₃ fun a o e => H₃.fz a o (S₃.le a o (S.le a o e))
    obtain ⟨oi, hoi⟩ := hit
    obtain ⟨hF₃, hM₃⟩ := S₃.apart hoi hF hM
    refine wpAny_mono (h₃ A F₃ s₃ hA H₃ V₃) ?_ fun _ _ e => e.elim
    rintro f s₄ p
    cases f with
    | next =>
      obtain ⟨ρ₄, μ₄, F₄, h₄, H₄, V₄, S₄⟩ := p
      have keep₄ : ∀ o, s₃.heap.get? it = some o → s₄.heap.get? it = some o := fun o e => S₄.keep it o e hM₃ fun q => hown it q.uses rfl
      obtain ⟨hF₄, hM₄⟩ := S₄.apart (keep₃ oi hoi) hF₃ hM₃
      refine ⟨ds.length + 1 - (i + 1), by omega, i + 1, ρ₄, μ₄, F₄, rfl, hlt, h₄, H₄, V₄, ?_, hF₄, hM₄, S'.trans (S₃.trans S₄)⟩
      exact I.frame _ _ _ hst₃ keep₄ fun a o e => H₄.fz a o (S₄.le a o (S₃.le a o (S.le a o e)))
    | ret v =>
      obtain ⟨d', μ₄, F₄, h₄, r₄, H₄, S₄⟩ := p
      exact hRc _ _ ⟨d', μ₄, F₄, h₄, r₄, H₄, S'.trans (S₃.trans S₄)⟩
    | brk => exact p.elim
    | cont => exact p.elim
  · obtain rfl : i = ds.length := by omega
    rw [List.drop_length] at hP
    refine I.done A s _ _ hA.1 hst fz fun h' tk hk => ?_
    dsimp only
    refine wpAny_execs_nil (hRc _ _ ⟨ρ, μ, F, hP, H.touch' hF hM hB hk rfl rfl, V.touch hown hk, S.touch hfresh hk⟩)

theorem Ex1.for {target iter : Expr} {body : List Stmt} {pos : Pos} {N : Rho → Mu → Prop} {R : D → Mu → Prop}
    (h : Ev X n env iter ρ μ fun d μ₁ => ∃ ds, Iterb X μ₁ d ds ∧ ForP X n env target body ds ρ μ₁ N R) (hs : ∀ x, foldedSetIterable iter env x = pure x := by intro _; rfl) :
    Ex1 X n env (.For target iter body [] pos) ρ μ N R := fun A F s hA H V => by
  refine wpAny_For (wpAny_mono (h A F s hA H V) ?_ fun _ _ e => e) hs
  rintro v s₁ ⟨d, μ₁, F₁, ⟨ds, hI, hP⟩, r, H₁, S₁⟩
  have V₁ := V.step S₁
  refine hI A F₁ s₁ v _ _ hA.1 H₁ r fun h' St hk I hst => ?_
  have hfresh : s₁.heap.get? s₁.heap.objs.size = none := push_none
  obtain ⟨hF, hM, hB⟩ := H₁.none_of_fresh hfresh
  have hown : ∀ a, Uses env a → a ≠ s₁.heap.objs.size := fun a ha q => by
    obtain ⟨o, ho⟩ := V₁.exists ha
    rw [q, hfresh] at ho; cases ho
  refine For_run (Rc := fun r s' => match r with | .ok f => PostS X env N R F μ s f s' | .error e => cameBackBy (model X.prog X.w) A env Never e s') hA I (.inl hfresh) hown hB (fun f s' p => p.after S₁.own) (Nat.zero_le _) hP
    (H₁.grow (s' := { s₁ with heap := h' }) hk rfl rfl) (V₁.step (.grow hk)) hst hF hM (.grow hk)

/-- a while by an invariant and a measure -/
theorem Ex1.while {test : Expr} {body : List Stmt} {pos : Pos} {N : Rho → Mu → Prop} {R : D → Mu → Prop} (I : Nat → Rho → Mu → Prop)
    (turn : ∀ k ρ μ, I k ρ μ → Tr X n env test ρ μ fun b μ₁ => if b = true then Ex X n env body ρ μ₁ (fun ρ₂ μ₂ => ∃ k', k' < k ∧ I k' ρ₂ μ₂) R else N ρ μ₁)
    (k₀ : Nat) (h₀ : I k₀ ρ μ) : Ex1 X n env (.While test body [] pos) ρ μ N R := fun A F s hA H V => by
  refine wpAny_While ?_
  refine codeAny_whileLoop (fun k s' => ∃ ρ' μ' F', I k ρ' μ' ∧ HC X F' μ' s' ∧ VC X F' μ' env ρ' s' ∧ Step (Own env) F μ s F' μ' s') ?_ k₀ ⟨ρ, μ, F, h₀, H, V, .refl ..⟩
  rintro k s' ⟨ρ', μ', F', hI, H', V', S'⟩
  refine wpAny_mono (turn k ρ' μ' hI A F' s' hA H' V') ?_ fun _ _ e => e.elim
  rintro b s₂ ⟨μ₂, F₂, h₂, H₂, S₂⟩
  cases b with
  | true =>
    simp only [if_true] at h₂ ⊢
    refine wpAny_mono (h₂ A F₂ s₂ hA H₂ (V'.step S₂)) ?_ fun _ _ e => e.elim
    rintro f s₃ p
    cases f with
    | next =>
      obtain ⟨ρ₃, μ₃, F₃, ⟨k', hk', hI'⟩, H₃, V₃, S₃⟩ := p
      exact ⟨k', hk', ρ₃, μ₃, F₃, hI', H₃, V₃, S'.trans (S₂.own.trans S₃)⟩
    | ret v =>
      obtain ⟨d, μ₃, F₃, h₃, r₃, H₃, S₃⟩ := p
      exact ⟨d, μ₃, F₃, h₃, r₃, H₃, S'.trans (S₂.own.trans S₃)⟩
    | brk => exact p.elim
    | cont => exact p.elim
  | false =>
    simp only [Bool.false_eq_true, if_false] at h₂ ⊢
    exact wpAny_execs_nil ⟨ρ', μ₂, F₂, h₂, H₂, V'.step S₂, S'.trans S₂.own⟩

/-- a for by an invariant -/
theorem ForP.inv {target : Expr} {body : List Stmt} {N : Rho → Mu → Prop} {R : D → Mu → Prop} (I : List D → List D → Rho → Mu → Prop)
    (turn : ∀ pre d post ρ μ, I pre (d :: post) ρ μ → AsgP X n env target d ρ μ fun ρ₁ μ₁ => Ex X n env body ρ₁ μ₁ (fun ρ₂ μ₂ => I (pre ++ [d]) post ρ₂ μ₂) R)
    (fin : ∀ pre ρ μ, I pre [] ρ μ → N ρ μ) : ∀ (post pre : List D) (ρ : Rho) (μ : Mu), I pre post ρ μ → ForP X n env target body post ρ μ N R
  | [], pre, ρ, μ, h => fin pre ρ μ h
  | d :: post, pre, ρ, μ, h => fun A F s v hA H V r => by
    refine wpAny_mono (turn pre d post ρ μ h A F s v hA H V r) ?_ fun _ _ e => e
    rintro _ s₁ ⟨ρ₁, μ₁, F₁, h₁, H₁, V₁, S₁⟩
    exact ⟨ρ₁, μ₁, F₁, h₁.mono (fun ρ₂ μ₂ h₂ => ForP.inv I turn fin post (pre ++ [d]) ρ₂ μ₂ h₂) fun _ _ q => q, H₁, V₁, S₁⟩

/-- what a name's own list becomes when nobody writes it any more -/
def mdel (μ : Mu) (a : Addr) : Mu := fun b => if b = a then none else μ b
theorem Ex.freeze {x : Str} {a : Addr} {l : List D} {ss : List Stmt} {N : Rho → Mu → Prop} {R : D → Mu → Prop} (hx : ρ x = some (.raw (.ref a))) (hm : CellL μ a l) (htb : a ≠ X.tb) (h : Ex X n env ss (rset ρ x (.lst l)) (mdel μ a) N R) :
    Ex X n env ss ρ μ N R := fun A F s hA H V => by
  obtain ⟨vs, o, k, ho, hc, hd, hr⟩ := H.isCellList hm
  obtain ⟨c₀, hc₀⟩ : ∃ c₀, μ a = some c₀ := hm.elim (fun e => ⟨_, e⟩) fun e => ⟨_, e⟩
  have hF : F a = none := (H.cell a _ hc₀).1
  have le := fput_le (o := o) hF
  have hne : ∀ b, Uses env b → b ≠ a := fun b hb q => by
    subst q
    rcases hb with rfl | ⟨y, hy⟩
    · rw [V.lf.2.1] at hc₀; cases hc₀
    · rw [(V.cf y _ hy).2.1] at hc₀; cases hc₀
  have rl : Rep (fput F a o) (.lst l) (.ref a) := ⟨a, o, vs, k, rfl, fput_self .., hc, hd, hr.mono le⟩
  have H' : HC X (fput F a o) (mdel μ a) s := by
    refine ⟨fun b o' e => ?_, fun b o' e hb => le _ _ (H.base b o' e hb), fun b c e => ?_, H.old, H.gens, H.os⟩
    · unfold fput at e
      split at e
      · rename_i q; subst q; cases e; exact ho
      · exact H.fz b o' e
    · unfold mdel at e
      split at e
      · cases e
      · rename_i q
        obtain ⟨h1, h2, o', h3, h4⟩ := H.cell b c e
        exact ⟨by unfold fput; rw [if_neg q]; exact h1, h2, o', h3, h4.mono le⟩
  have sep : ∀ b, Uses env b → F b = none → μ b = none → fput F a o b = none ∧ mdel μ a b = none := fun b hb h1 h2 => by
    unfold fput mdel
    rw [if_neg (hne b hb), if_neg (hne b hb)]
    exact ⟨h1, h2⟩
  have V' : VC X (fput F a o) (mdel μ a) env (rset ρ x (.lst l)) s := by
    obtain ⟨m, hn, hm⟩ := V.ns
    refine ⟨⟨m, hn, fun y d e k => ?_⟩, fun y d e k => ?_, V.here, V.apart, ⟨(sep _ (.inl rfl) V.lf.1 V.lf.2.1).1, (sep _ (.inl rfl) V.lf.1 V.lf.2.1).2, V.lf.2.2⟩, fun y b hy => ?_, V.kind⟩
    · unfold rset at e
      split at e
      · rename_i q; subst q; cases e
        obtain ⟨v, h1, h2⟩ := hm y _ hx k
        obtain rfl := h2
        exact ⟨_, h1, rl⟩
      · obtain ⟨v, h1, h2⟩ := hm y d e k; exact ⟨v, h1, h2.mono le⟩
    · unfold rset at e
      split at e
      · rename_i q; subst q; cases e
        obtain ⟨b, v, h1, h2, h3⟩ := V.cv y _ hx k
        obtain rfl := h3
        exact ⟨b, _, h1, h2, rl⟩
      · obtain ⟨b, v, h1, h2, h3⟩ := V.cv y d e k; exact ⟨b, v, h1, h2, h3.mono le⟩
    · obtain ⟨h1, h2, h3, h4⟩ := V.cf y b hy
      exact ⟨(sep b (.inr ⟨y, hy⟩) h1 h2).1, (sep b (.inr ⟨y, hy⟩) h1 h2).2, h3, h4⟩
  have S' : Step (Own env) F μ s (fput F a o) (mdel μ a) s := by
    refine ⟨le, fun _ _ e _ _ => e, fun b o e _ => ⟨o, e⟩, fun b o' e => ?_, fun b e => .inl fun q => e (by unfold mdel; split <;> first | rfl | exact q)⟩
    unfold fput at e
    split at e
    · rename_i q; subst q; exact .inr (.inl (by rw [hc₀]; simp))
    · exact .inl e
  exact wpAny_mono (h A _ s hA H' V') (fun _ _ p => p.after S') fun _ _ e => e
end Lay

/- part Lay7 -/
open PySem PySem.W PyProof.Rows
set_option Elab.async false
set_option linter.unusedVariables false
namespace Lay
variable {X : Cx} {n : Nat} {env : Env} {ρ : Rho} {μ : Mu}

/- the cells that a comprehension captures -/
def closL (cells : List (Str × Addr)) : List (Str × NameKind) → List (Str × Addr) → List (Str × Addr)
  | [], acc => acc
  | (n, k) :: r, acc => if (k == .free) = true then closL cells r ((n, (cells.lookup n).getD 0) :: acc) else closL cells r acc
theorem closureFor_eq {scope : Scope} (h : ∀ x ∈ scope.names, x.2 = .free → (env.cells.lookup x.1).isSome = true) : closureFor scope env = pure (closL env.cells scope.names []) := by
  have key : ∀ (names : List (Str × NameKind)) (acc : List (Str × Addr)), (∀ x ∈ names, x.2 = .free → (env.cells.lookup x.1).isSome = true) →
      (forIn names acc fun x cs => match x with
        | (name, kind) => if (kind == .free) = true then do
            let a ← cellOf env name
            pure (ForInStep.yield ((name, a) :: cs))
          else pure (ForInStep.yield cs) : Sem (List (Str × Addr))) = pure (closL env.cells names acc) := by
    intro names
    induction names with
    | nil => intro acc _; rfl
    | cons x r ih =>
      intro acc hx
      obtain ⟨name, kind⟩ := x
      rw [List.forIn_cons]
      unfold closL
      by_cases hk : (kind == NameKind.free) = true
      · obtain ⟨c, hc⟩ := Option.isSome_iff_exists.mp (hx _ (.head _) (beq_iff_eq.mp hk))
        have e : cellOf env name = pure c := by unfold cellOf; rw [hc]
        simp only [hk, if_true, e, pure_bind, hc, Option.getD_some]
        exact ih _ fun y hy => hx y (.tail _ hy)
      · simp only [hk, if_false, Bool.false_eq_true, pure_bind]
        exact ih _ fun y hy => hx y (.tail _ hy)
  have := key scope.names [] h
  unfold closureFor
  simp only [bind_pure]
  first | exact this | (rw [this]) | (simpa using this)
theorem closL_mem {cells : List (Str × Addr)} : ∀ {names : List (Str × NameKind)} {acc : List (Str × Addr)} {x : Str} {a : Addr}, (x, a) ∈ closL cells names acc → (x, a) ∈ acc ∨ ((x, .free) ∈ names ∧ a = (cells.lookup x).getD 0)
  | [], acc, x, a, h => .inl h
  | (n, k) :: r, acc, x, a, h => by
    unfold closL at h
    split at h
    · rename_i hk
      rcases closL_mem h with h | ⟨h, e⟩
      · rcases List.mem_cons.mp h with h | h
        · cases h
          exact .inr ⟨by rw [beq_iff_eq.mp hk]; exact .head _, rfl⟩
        · exact .inl h
      · exact .inr ⟨.tail _ h, e⟩
    · rcases closL_mem h with h | ⟨h, e⟩
      · exact .inl h
      · exact .inr ⟨.tail _ h, e⟩
theorem closL_lookup {cells : List (Str × Addr)} : ∀ {names : List (Str × NameKind)} {acc : List (Str × Addr)} {x : Str}, (∀ a, acc.lookup x = some a → a = (cells.lookup x).getD 0) →
    ((acc.lookup x).isSome = true ∨ (x, .free) ∈ names) → (closL cells names acc).lookup x = some ((cells.lookup x).getD 0)
  | [], acc, x, ha, h => by
    rcases h with h | h
    · obtain ⟨a, e⟩ := Option.isSome_iff_exists.mp h
      rw [closL, e, ha a e]
    · cases h
  | (n, k) :: r, acc, x, ha, h => by
    unfold closL
    by_cases hk : (k == NameKind.free) = true
    · rw [if_pos hk]
      refine closL_lookup (fun a e => ?_) ?_
      · rw [List.lookup_cons] at e
        cases q : x == n with
        | true => rw [q] at e; cases e; rw [beq_iff_eq.mp q]
        | false => rw [q] at e; exact ha a e
      · rcases h with h | h
        · left
          rw [List.lookup_cons]
          cases q : x == n <;> simp [h]
        · rcases List.mem_cons.mp h with h | h
          · cases h; left; rw [List.lookup_cons]; simp
          · exact .inr h
    · rw [if_neg hk]
      refine closL_lookup ha ?_
      rcases h with h | h
      · exact .inl h
      · rcases List.mem_cons.mp h with h | h
        · cases h; exact (hk rfl).elim
        · exact .inr h
theorem relabel_cell {scope : Scope} : ∀ {names : List (Str × NameKind)} {x : Str}, (∀ y ∈ names, y.2 ≠ .cell) →
    (names.map fun (n, k) => if (k == NameKind.free && env.scope.kind == .function && env.kindOf n == some .cell) then (n, NameKind.cell) else (n, k)).lookup x = some .cell → (x, .free) ∈ names ∧ env.kindOf x = some .cell
  | [], _, _, h => by simp at h
  | (m, k) :: r, x, hc, h => by
    by_cases q : (k == NameKind.free && env.scope.kind == .function && env.kindOf m == some .cell) = true
    · simp only [List.map_cons, q, if_true, List.lookup_cons] at h
      cases e : x == m with
      | true =>
        obtain rfl := beq_iff_eq.mp e
        simp only [Bool.and_eq_true, beq_iff_eq] at q
        exact ⟨by rw [q.1.1]; exact .head _, q.2⟩
      | false =>
        rw [e] at h
        obtain ⟨h1, h2⟩ := relabel_cell (scope := scope) (fun y hy => hc y (.tail _ hy)) h
        exact ⟨.tail _ h1, h2⟩
    · simp only [List.map_cons, q, if_false, Bool.false_eq_true, List.lookup_cons] at h
      cases e : x == m with
      | true => rw [e] at h; cases h; exact absurd rfl (hc _ (.head _))
      | false =>
        rw [e] at h
        obtain ⟨h1, h2⟩ := relabel_cell (scope := scope) (fun y hy => hc y (.tail _ hy)) h
        exact ⟨.tail _ h1, h2⟩

/-- the frame of a comprehension -/
def cEnv (env : Env) (scope : Scope) (C : Addr) : Env := compEnvC scope (closL env.cells scope.names []) C env
def cRho (env : Env) (scope : Scope) (ρ : Rho) : Rho := fun x => if (relabel scope env).names.lookup x = some .cell then ρ x else none
theorem cRho_of {scope : Scope} {x : Str} (h : (relabel scope env).names.lookup x = some .cell) : cRho env scope ρ x = ρ x := by unfold cRho; rw [if_pos h]
structure CompOk (env : Env) (scope : Scope) : Prop where
  kind : scope.kind = .function
  free : ∀ x ∈ scope.names, x.2 = .free → (env.cells.lookup x.1).isSome = true
  cell : ∀ x ∈ scope.names, x.2 ≠ .cell
  nodup : (scope.names.map (·.1)).Nodup
  loc : ∀ x ∈ scope.names, x.2 = .local → scope.names.lookup x.1 = some .local
theorem pair_of_nodup {α : Type} : ∀ {l : List (Str × α)}, (l.map (·.1)).Nodup → ∀ {R : Str × α → Str × α → Prop}, (∀ x ∈ l, ∀ y ∈ l, x.1 ≠ y.1 → R x y) → l.Pairwise R
  | [], _, _, _ => .nil
  | x :: l, h, R, hr => by
    rw [List.map_cons, List.nodup_cons] at h
    refine .cons (fun y hy => hr x (.head _) y (.tail _ hy) fun e => h.1 (e ▸ List.mem_map_of_mem hy)) (pair_of_nodup h.2 fun a ha b hb => hr a (.tail _ ha) b (.tail _ hb))
theorem closL_nodup {cells : List (Str × Addr)} : ∀ {names : List (Str × NameKind)} {acc : List (Str × Addr)}, (names.map (·.1)).Nodup → (acc.map (·.1)).Nodup → (∀ x ∈ acc, x.1 ∉ names.map (·.1)) → ((closL cells names acc).map (·.1)).Nodup
  | [], acc, _, h, _ => h
  | (n, k) :: r, acc, hn, ha, hs => by
    rw [List.map_cons, List.nodup_cons] at hn
    unfold closL
    split
    · refine closL_nodup hn.2 ?_ fun x hx => ?_
      · rw [List.map_cons, List.nodup_cons]
        refine ⟨fun hm => ?_, ha⟩
        obtain ⟨y, hy, e⟩ := List.mem_map.mp hm
        exact hs y hy (by rw [e]; exact .head _)
      · rcases List.mem_cons.mp hx with rfl | hx
        · exact hn.1
        · exact fun q => hs x hx (.tail _ q)
    · exact closL_nodup hn.2 ha fun x hx q => hs x hx (.tail _ q)
theorem VC.comp {F : FZ} {s : Shared} {scope : Scope} {C : Addr} {m : Str → Option Value} (V : VC X F μ env ρ s) (O : CompOk env scope) (hC : s.heap.Ns C m) (hF : F C = none) (hM : μ C = none) (hB : X.h₁.get? C = none) (hne : ∀ a, Uses env a → a ≠ C) :
    VC X F μ (cEnv env scope C) (cRho env scope ρ) s := by
  have src : ∀ x a, (x, a) ∈ closL env.cells scope.names [] → (x, a) ∈ env.cells := fun x a h => by
    rcases closL_mem h with h | ⟨h, e⟩
    · cases h
    · obtain ⟨c, hc⟩ := Option.isSome_iff_exists.mp (O.free _ h rfl)
      rw [hc] at e
      cases e
      exact mem_of_lookup hc
  refine ⟨⟨m, hC, fun x d e k => ?_⟩, fun x d e k => ?_, fun x a h => V.here x a (src x a h), ?_, ⟨hF, hM, hB⟩, fun x a h => ?_, O.kind⟩
  · unfold cRho at e
    rw [if_neg (by rw [show (relabel scope env).names.lookup x = some .local from k]; simp)] at e
    cases e
  · have h1 := relabel_cell (scope := scope) O.cell (show _ = some NameKind.cell from k)
    rw [cRho_of (show _ = some NameKind.cell from k)] at e
    obtain ⟨a, v, h2, h3, h4⟩ := V.cv x d e h1.2
    refine ⟨a, v, ?_, h3, h4⟩
    show (closL env.cells scope.names []).lookup x = some a
    rw [closL_lookup (fun a e => by simp at e) (.inr h1.1), h2]; rfl
  · refine pair_of_nodup (closL_nodup O.nodup (acc := []) (by simp) (by simp)) fun x hx y hy hne' e => ?_
    exact hne' (name_of_addr V.apart (src x.1 x.2 hx) (e ▸ src y.1 y.2 hy))
  · obtain ⟨h1, h2, h3, h4⟩ := V.cf x a (src x a h)
    exact ⟨h1, h2, h3, hne a (.inr ⟨x, src x a h⟩)⟩

/- the turns -/
def TrA (X : Cx) (n : Nat) (env : Env) : List Expr → Rho → Mu → (Bool → Mu → Prop) → Prop
  | [], _, μ, Q => Q true μ
  | c :: cs, ρ, μ, Q => Tr X n env c ρ μ fun b μ₁ => if b = true then TrA X n env cs ρ μ₁ Q else Q false μ₁
theorem TrA.run {A : Around} (hA : AOk n A) : ∀ {cs : List Expr} {μ : Mu} {Q : Bool → Mu → Prop} {F : FZ} {s : Shared}, TrA X n env cs ρ μ Q → HC X F μ s → VC X F μ env ρ s →
    wpAny (model X.prog X.w) A (forIn cs true fun c r => if r = true then do let ok ← isTrue c env (eval c env); pure (ForInStep.yield ok) else pure (ForInStep.yield r)) (PostB X Q F μ s) Never s
  | [], μ, Q, F, s, h, H, V => wpAny_tests_nil ⟨μ, F, h, H, .refl ..⟩
  | c :: cs, μ, Q, F, s, h, H, V => by
    rw [List.forIn_cons]
    simp only [if_true]
    refine wpAny_bind (wpAny_bind (wpAny_mono (h A F s hA H V) ?_ fun _ _ e => e))
    rintro b s₁ ⟨μ₁, F₁, h₁, H₁, S₁⟩
    refine wpAny_pure ?_
    cases b with
    | true => exact wpAny_mono (TrA.run hA (by simpa using h₁) H₁ (V.step S₁)) (fun _ _ p => p.after S₁) fun _ _ e => e
    | false =>
      have stay : ∀ (cs : List Expr), wpAny (model X.prog X.w) A (forIn cs false fun c r => if r = true then do let ok ← isTrue c env (eval c env); pure (ForInStep.yield ok) else pure (ForInStep.yield r)) (PostB X Q F μ s) Never s₁ := by
        intro cs
        induction cs with
        | nil => exact wpAny_pure ⟨μ₁, F₁, by simpa using h₁, H₁, S₁⟩
        | cons c cs ih =>
          rw [List.forIn_cons]
          simp only [Bool.false_eq_true, if_false]
          exact wpAny_bind (wpAny_pure ih)
      exact stay cs
def CompP (X : Cx) (n : Nat) (cenv : Env) (target : Expr) (ifs : List Expr) (elt : Expr) (ρ₀ : Rho) : List D → List D → Mu → (List D → Mu → Prop) → Prop
  | [], acc, μ, Q => Q acc μ
  | d :: ds, acc, μ, Q => AsgP X n cenv target d ρ₀ μ fun ρ₁ μ₁ => TrA X n cenv ifs ρ₁ μ₁ fun b μ₂ =>
      if b = true then Ev X n cenv elt ρ₁ μ₂ fun y μ₃ => Small acc ∧ CompP X n cenv target ifs elt ρ₀ ds (acc ++ [y]) μ₃ Q else CompP X n cenv target ifs elt ρ₀ ds acc μ₂ Q
theorem VC.forget {F : FZ} {s : Shared} {ρ₀ : Rho} (V : VC X F μ env ρ s) (V₀ : ∀ x d, ρ₀ x = some d → env.kindOf x = some .local → False) (hc : ∀ x d, ρ₀ x = some d → env.kindOf x = some .cell → ∃ a v, env.cells.lookup x = some a ∧ s.heap.IsCell a (some v) ∧ Rep F d v) : VC X F μ env ρ₀ s :=
  let ⟨m, hn, _⟩ := V.ns
  ⟨⟨m, hn, fun x d e k => (V₀ x d e k).elim⟩, hc, V.here, V.apart, V.lf, V.cf, V.kind⟩

theorem Comp_run {A : Around} {target iter : Expr} {ifs : List Expr} {elt : Expr} {scope : Scope} {pos : Pos} {Q : List D → Mu → Prop} {F₁ : FZ} {μ₁ : Mu} {s₁ : Shared} {it acc : Addr} {cenv : Env} {ρ₀ : Rho} {ds : List D} {St : Nat → Heap → Prop} {Rc : Result → Shared → Prop}
    (hA : AOk n A) (I : Itr X F₁ it ds St) (hfresh : s₁.heap.get? it = none) (hfreshA : s₁.heap.get? acc = none) (hfreshC : s₁.heap.get? cenv.locals = none) (hia : it ≠ acc) (hown : ∀ a, Uses cenv a → a ≠ it ∧ a ≠ acc) (hB : X.h₁.get? it = none) (hBA : X.h₁.get? acc = none)
    (hfn : cenv.func = none) (hnl : ∀ x d, ρ₀ x = some d → cenv.kindOf x = some .local → False)
    (hRc : ∀ s' zs μ' F', Q zs μ' → HC X F' μ' s' → (∃ m, s'.heap.Ns cenv.locals m) → F' cenv.locals = none → μ' cenv.locals = none → F' acc = none → μ' acc = none → (∃ ys, s'.heap.PlainList acc ys ∧ Reps F' zs ys.toList) → Step No F₁ μ₁ s₁ F' μ' s' → Rc (.ok .next) s')
    {s₂ : Shared} {μ₂ : Mu} {F₂ : FZ} {i₀ : Nat} {zs₀ : List D} (hi₀ : i₀ ≤ ds.length) (h : CompP X n cenv target ifs elt ρ₀ (ds.drop i₀) zs₀ μ₂ Q) (H : HC X F₂ μ₂ s₂) (V : VC X F₂ μ₂ cenv ρ₀ s₂) (hst : St i₀ s₂.heap) (hF : F₂ it = none) (hM : μ₂ it = none)
    (hFA : F₂ acc = none) (hMA : μ₂ acc = none) (hz : ∃ ys, s₂.heap.PlainList acc ys ∧ Reps F₂ zs₀ ys.toList) (S : Step No F₁ μ₁ s₁ F₂ μ₂ s₂) :
    codeAny (model X.prog X.w) A (.compLoop (.ListComp elt [⟨target, iter, ifs, 0⟩] scope pos) 0 (.ref it) (.ref acc) cenv) Rc s₂ := by
  have ownC : ∀ a, Own cenv a → a = cenv.locals := fun a ha => by
    rcases ha with rfl | ⟨hf, _⟩
    · rfl
    · rw [hfn] at hf; cases hf
  have toNo : ∀ {F μ s F' μ' s'}, Step (Own cenv) F μ s F' μ' s' → Step No F₁ μ₁ s₁ F μ s → Step No F₁ μ₁ s₁ F' μ' s' := fun {F μ s F' μ' s'} T S =>
    S.drop T fun a ha => by rw [ownC a ha]; exact hfreshC
  refine codeAny_loop rfl (fun k s' => ∃ i μ' F' zs, k = ds.length + 1 - i ∧ i ≤ ds.length ∧ CompP X n cenv target ifs elt ρ₀ (ds.drop i) zs μ' Q ∧ HC X F' μ' s' ∧ VC X F' μ' cenv ρ₀ s' ∧ St i s'.heap ∧ F' it = none ∧ μ' it = none ∧ F' acc = none ∧ μ' acc = none ∧
    (∃ ys, s'.heap.PlainList acc ys ∧ Reps F' zs ys.toList) ∧ Step No F₁ μ₁ s₁ F' μ' s') ?_ (ds.length + 1 - i₀) ⟨i₀, μ₂, F₂, zs₀, rfl, hi₀, h, H, V, hst, hF, hM, hFA, hMA, hz, S⟩
  rintro k s ⟨i, μ, F, zs, rfl, hi, hP, H, V, hst, hF, hM, hFA, hMA, ⟨ys, hpl, hzs⟩, S⟩
  show wpAny _ A ((compTurn (.ListComp elt [⟨target, iter, ifs, 0⟩] scope pos) 0 (.ref it) (.ref acc) cenv).onRaise (fun x => do noteFrame x cenv; theTreesLotGoes x)) _ _ s
  refine wpAny_noted ?_
  rw [compTurn_list]
  have fz : Froz F₁ s.heap := fun a o e => H.fz a o (S.le a o e)
  refine wpAny_bind (wpAny_standAt (wpAny_bind ?_))
  by_cases hlt : i < ds.length
  · obtain ⟨d, hd⟩ : ∃ d, ds[i]? = some d := ⟨ds[i], by simp [hlt]⟩
    have hdrop : ds.drop i = d :: ds.drop (i + 1) := by
      rw [List.drop_eq_getElem_cons hlt]; congr 1
      rw [List.getElem?_eq_getElem hlt] at hd; exact Option.some.inj hd
    rw [hdrop] at hP
    refine I.item A i s d _ _ hA.1 hst fz hd fun v h' tk rv hst' hk => ?_
    dsimp only
    have hown' : ∀ a, Uses cenv a → a ≠ it := fun a ha => (hown a ha).1
    obtain ⟨H', T'⟩ := H.touch (s' := { s with heap := h', toks := tk }) hF hM hB hk (I.live _ _ hst') rfl rfl
    have V' := V.touch (s' := { s with heap := h', toks := tk }) hown' hk
    have S' := S.touch (s₂ := { s with heap := h', toks := tk }) (.inl hfresh) hk
    have hpl' : h'.PlainList acc ys := let ⟨m, hm⟩ := hpl; ⟨m, hk acc _ (Ne.symm hia) hm⟩
    refine wpAny_bind (I.go A (i + 1) _ target v _ _ hst' ?_)
    refine wpAny_bind (wpAny_mono (hP A F _ v hA H' V' (rv.mono S.le)) ?_ fun _ _ e => e.elim)
    rintro _ s₃ ⟨ρ₃, μ₃, F₃, h₃, H₃, V₃, S₃⟩
    obtain ⟨oi, hoi⟩ := I.live _ _ hst'
    have keep₃ : ∀ o, h'.get? it = some o → s₃.heap.get? it = some o := fun o e => S₃.keep it o e hM fun q => hown' it q.uses rfl
    have hst₃ : St (i + 1) s₃.heap := I.frame _ _ _ hst' keep₃ fun a o e => H₃.fz a o (S₃.le a o (S.le a o e))
    obtain ⟨hF₃, hM₃⟩ := S₃.apart hoi hF hM
    obtain ⟨mA, hmA⟩ := hpl'
    have keepA₃ : s₃.heap.get? acc = some _ := S₃.keep acc _ hmA hMA fun q => (hown acc q.uses).2 rfl
    obtain ⟨hFA₃, hMA₃⟩ := S₃.apart hmA hFA hMA
    have SS₃ := toNo S₃ S'
    refine wpAny_bind (wpAny_mono (TrA.run hA h₃ H₃ V₃) ?_ fun _ _ e => e.elim)
    rintro b s₄ ⟨μ₄, F₄, h₄, H₄, S₄⟩
    have V₄ := V₃.step S₄
    have it₄ : ∀ o, s₃.heap.get? it = some o → s₄.heap.get? it = some o := fun o e => S₄.keep it o e hM₃ id
    have hst₄ : St (i + 1) s₄.heap := I.frame _ _ _ hst₃ it₄ fun a o e => H₄.fz a o (S₄.le a o (S₃.le a o (S.le a o e)))
    obtain ⟨hF₄, hM₄⟩ := S₄.apart (keep₃ oi hoi) hF₃ hM₃
    have keepA₄ : s₄.heap.get? acc = some _ := S₄.keep acc _ keepA₃ hMA₃ id
    obtain ⟨hFA₄, hMA₄⟩ := S₄.apart keepA₃ hFA₃ hMA₃
    have back : ∀ {F' μ' s'} (V' : VC X F' μ' cenv ρ₃ s') (le : FLe F F') (hk : ∀ a o, (∃ x, (x, a) ∈ cenv.cells) → s.heap.get? a = some o → s'.heap.get? a = some o), VC X F' μ' cenv ρ₀ s' := fun {F' μ' s'} V' le hkk => by
      refine V'.forget hnl fun x d e k => ?_
      obtain ⟨a, u, q1, q2, q3⟩ := V.cv x d e k
      obtain ⟨o, ho, hd'⟩ := q2
      exact ⟨a, u, q1, ⟨o, hkk a o ⟨x, mem_of_lookup q1⟩ ho, hd'⟩, q3.mono le⟩
    have notOwn : ∀ a, (∃ x, (x, a) ∈ cenv.cells) → ¬ Own cenv a := fun a ⟨x, hx⟩ q => (V.cf x a hx).2.2.2 (ownC a q)
    have cells₄ : ∀ a o, (∃ x, (x, a) ∈ cenv.cells) → s.heap.get? a = some o → s₄.heap.get? a = some o := fun a o ha e => by
      obtain ⟨x, hx⟩ := ha
      have e' := hk a o (hown' a (.inr ⟨x, hx⟩)) e
      have e₃ := S₃.keep a o e' (V.cf x a hx).2.1 (notOwn a ⟨x, hx⟩)
      exact S₄.keep a o e₃ (V₃.cf x a hx).2.1 id
    have le₄ : FLe F F₄ := S₃.le.trans S₄.le
    cases b with
    | false =>
      simp only [Bool.false_eq_true, if_false] at h₄ ⊢
      exact wpAny_pure ⟨rfl, ds.length + 1 - (i + 1), by omega, i + 1, μ₄, F₄, zs, rfl, hlt, h₄, H₄, back V₄ le₄ cells₄, hst₄, hF₄, hM₄, hFA₄, hMA₄, ⟨ys, ⟨mA, keepA₄⟩, hzs.mono le₄⟩, SS₃.trans S₄⟩
    | true =>
      simp only [if_true] at h₄ ⊢
      refine wpAny_bind (wpAny_bind (wpAny_mono (h₄ A F₄ s₄ hA H₄ V₄) ?_ fun _ _ e => e.elim))
      rintro x s₅ ⟨y, μ₅, F₅, ⟨hsm, h₅⟩, ry, H₅, S₅⟩
      have V₅ := V₄.step S₅
      have it₅ : ∀ o, s₄.heap.get? it = some o → s₅.heap.get? it = some o := fun o e => S₅.keep it o e hM₄ id
      have hst₅ : St (i + 1) s₅.heap := I.frame _ _ _ hst₄ it₅ fun a o e => H₅.fz a o (S₅.le a o (S₄.le a o (S₃.le a o (S.le a o e))))
      obtain ⟨hF₅, hM₅⟩ := S₅.apart (it₄ oi (keep₃ oi hoi)) hF₄ hM₄
      have keepA₅ : s₅.heap.get? acc = some _ := S₅.keep acc _ keepA₄ hMA₄ id
      obtain ⟨hFA₅, hMA₅⟩ := S₅.apart keepA₄ hFA₄ hMA₄
      have hz : ys.size = zs.length := by rw [← hzs.length]; simp
      refine wpAny_bind (wpAny_list_append_plain ⟨mA, keepA₅⟩ (fun h₆ hL₆ hs₆ => ?_) (by rw [hz, sizeLine_eq]; exact Nat.le_trans hsm (by decide)))
      have hk₆ : ∀ b o, b ≠ acc → s₅.heap.get? b = some o → h₆.get? b = some o := fun b o hb e => hs₆.extBut b o hb e
      have hownA : ∀ a, Uses cenv a → a ≠ acc := fun a ha => (hown a ha).2
      have H₆ := H₅.touch' (s' := { s₅ with heap := h₆ }) hFA₅ hMA₅ hBA hk₆ rfl rfl
      have V₆ := V₅.touch (s' := { s₅ with heap := h₆ }) hownA hk₆
      have S₆ := ((SS₃.trans S₄).trans S₅).touch (s₂ := { s₅ with heap := h₆ }) (.inl hfreshA) hk₆
      have hst₆ : St (i + 1) h₆ := I.frame _ _ _ hst₅ (fun o e => hk₆ it o hia e) fun a o e => H₆.fz a o (S₅.le a o (S₄.le a o (S₃.le a o (S.le a o e))))
      refine wpAny_pure (wpAny_pure ⟨rfl, ds.length + 1 - (i + 1), by omega, i + 1, μ₅, F₅, zs ++ [y], rfl, hlt, h₅, H₆, back V₆ (le₄.trans S₅.le) (fun a o ha e => ?_), hst₆, hF₅, hM₅, hFA₅, hMA₅, ⟨ys.push x, hL₆, ?_⟩, S₆⟩)
      · obtain ⟨z, hz⟩ := ha
        exact hk₆ a o (hownA a (.inr ⟨z, hz⟩)) (S₅.keep a o (cells₄ a o ⟨z, hz⟩ e) (V₄.cf z a hz).2.1 id)
      · simpa using (hzs.mono (le₄.trans S₅.le)).append (Reps.one ry)
  · obtain rfl : i = ds.length := by omega
    rw [List.drop_length] at hP
    refine I.done A s _ _ hA.1 hst fz fun h' tk hk => ?_
    dsimp only
    have hown' : ∀ a, Uses cenv a → a ≠ it := fun a ha => (hown a ha).1
    have V' := V.touch (s' := { s with heap := h', toks := tk }) hown' hk
    obtain ⟨m, hn, _⟩ := V'.ns
    refine wpAny_pure (hRc _ zs μ F hP (H.touch' hF hM hB hk rfl rfl) ⟨m, hn⟩ V'.lf.1 V'.lf.2.1 hFA hMA ⟨ys, ?_, hzs⟩ (S.touch (.inl hfresh) hk))
    obtain ⟨mA, hmA⟩ := hpl
    exact ⟨mA, hk acc _ (Ne.symm hia) hmA⟩
end Lay

/- part Lay8 -/
open PySem PySem.W PyProof.Rows
set_option Elab.async false
set_option linter.unusedVariables false
namespace Lay
variable {X : Cx} {n : Nat} {env : Env} {ρ : Rho} {μ : Mu}

theorem HC.freezeOld {F : FZ} {s : Shared} (H : HC X F μ s) {a : Addr} {o : Obj} (ho : s.heap.get? a = some o) (hF : F a = none) (hM : μ a = none) : HC X (fput F a o) μ s := by
  refine ⟨fun b o' e => ?_, fun b o' e hb => fput_le hF _ _ (H.base b o' e hb), fun b c e => ?_, H.old, H.gens, H.os⟩
  · unfold fput at e
    split at e
    · rename_i q; subst q; cases e; exact ho
    · exact H.fz b o' e
  · obtain ⟨h1, h2, o', h3, h4⟩ := H.cell b c e
    refine ⟨?_, h2, o', h3, h4.mono (fput_le hF)⟩
    unfold fput
    rw [if_neg (by rintro rfl; rw [hM] at e; cases e)]
    exact h1
theorem Step.freezeOld {W : Addr → Prop} {F F' : FZ} {μ' : Mu} {s s' : Shared} (S : Step W F μ s F' μ' s') {a : Addr} {o : Obj} (ha : s.heap.get? a = none) (hF : F' a = none) : Step W F μ s (fput F' a o) μ' s' := by
  refine ⟨S.le.trans (fput_le hF), S.keep, S.there, fun b o' e => ?_, S.newM⟩
  unfold fput at e
  split at e
  · rename_i q; subst q; exact .inr (.inr ha)
  · exact S.newF b o' e

theorem Comp_block {A : Around} {target iter elt : Expr} {ifs : List Expr} {scope : Scope} {pos : Pos} {Q : List D → Mu → Prop} {F : FZ} {s : Shared} {h' : Heap} {ds : List D} {St : Nat → Heap → Prop} {E : Value → Shared → Prop} {RR : Value → Addr → Result → Shared → Prop}
    (hA : AOk n A) (H : HC X F μ s) (V : VC X F μ env ρ s) (O : CompOk env scope) (I : Itr X F s.heap.objs.size ds St) (hk : ∀ b o, s.heap.get? b = some o → h'.get? b = some o) (hst : St 0 h')
    (hP : ∀ C, CompP X n (cEnv env scope C) target ifs elt (cRho env scope ρ) ds [] μ Q)
    (hRR : ∀ D C s' zs μ' F' m, Q zs μ' → HC X F' μ' s' → Step No F μ s F' μ' s' → Rep F' (.lst zs) (.ref D) → s'.heap.Ns C m → F' C = none → μ' C = none → X.h₁.get? C = none → s.heap.get? C = none → RR (.ref D) C (.ok .next) s') :
    wpAny (model X.prog X.w) A (newList []) (fun acc s₃ => wpAny (model X.prog X.w) A (newFunctionEnv scope env.globals (closL env.cells scope.names []) [] env.qual none .none (some env)) (fun cenv s₄ =>
      codeAny (model X.prog X.w) A (.compStart (.ListComp elt [⟨target, iter, ifs, 0⟩] scope pos) 0 (.ref s.heap.objs.size) acc { cenv with scope := relabel scope env }) (RR acc cenv.locals) s₄) E s₃) E { s with heap := h' } := by
  refine wpAny_newObj_type (wpAny_newFunctionEnv O.cell (by intro y hy; simp at hy) (fun h₁ hns₁ hsb₁ => ?_) O.kind)
  dsimp only at hns₁ hsb₁ ⊢
  generalize hH2 : h'.push { cls := .type "list", dict := none, data := .seq ([] : List Value).toArray } = H2 at hns₁ hsb₁ ⊢
  have hC : H2.objs.size = h'.objs.size + 1 := by rw [← hH2, Heap.size_push]
  obtain ⟨oi, hoi⟩ := I.live _ _ hst
  have hit : s.heap.objs.size < h'.objs.size := Heap.lt_size hoi
  have hDC : h'.objs.size ≠ H2.objs.size := by rw [hC]; exact Nat.ne_of_lt (Nat.lt_succ_self _)
  have below : ∀ b, b < h'.objs.size → b ≠ H2.objs.size ∧ b ≠ h'.objs.size := fun b hb => ⟨by rw [hC]; exact Nat.ne_of_lt (Nat.lt_succ_of_lt hb), Nat.ne_of_lt hb⟩
  have old : ∀ b o, h'.get? b = some o → h₁.get? b = some o := fun b o e => hsb₁.extBut b o (below b (Heap.lt_size e)).1 (Heap.get?_push_of_some _ (hH2 ▸ Heap.get?_push_of_some _ e))
  have old' : ∀ b o, s.heap.get? b = some o → h₁.get? b = some o := fun b o e => old b o (hk b o e)
  have hacc : h₁.PlainList h'.objs.size #[] := ⟨_, hsb₁.extBut _ _ hDC (Heap.get?_push_of_some _ (hH2 ▸ Heap.get?_push_size _ rfl))⟩
  have fresh : ∀ a, s.heap.objs.size ≤ a → s.heap.get? a = none := fun a ha => by
    cases e : s.heap.get? a with
    | none => rfl
    | some o' => exact absurd (Heap.lt_size e) (Nat.not_lt.mpr ha)
  have fI := fresh _ (Nat.le_refl _)
  have fD := fresh h'.objs.size (Nat.le_of_lt hit)
  have fC := fresh H2.objs.size (by rw [hC]; exact Nat.le_succ_of_le (Nat.le_of_lt hit))
  obtain ⟨IF, IM, IB⟩ := H.none_of_fresh fI
  obtain ⟨DF, DM, DB⟩ := H.none_of_fresh fD
  obtain ⟨CF, CM, CB⟩ := H.none_of_fresh fC
  have H₁ : HC X F μ { s with heap := h₁, toks := s.toks + ([] : List (Str × Value)).length } := H.grow old' rfl rfl
  have S₁ : Step No F μ s F μ { s with heap := h₁, toks := s.toks + ([] : List (Str × Value)).length } := .grow old'
  have hst₁ : St 0 h₁ := I.frame _ _ _ hst (fun o e => old _ o e) fun a o e => H₁.fz a o e
  have usesOld : ∀ a, Uses env a → ∃ o, s.heap.get? a = some o := fun a ha => V.exists ha
  have ne : ∀ a b, (∃ o, s.heap.get? a = some o) → s.heap.get? b = none → a ≠ b := fun a b ⟨o, e⟩ e' q => by subst q; rw [e'] at e; cases e
  have Vc : VC X F μ (cEnv env scope H2.objs.size) (cRho env scope ρ) { s with heap := h₁, toks := s.toks + ([] : List (Str × Value)).length } :=
    (V.step S₁).comp O hns₁ CF CM CB fun a ha => ne a _ (usesOld a ha) fC
  have srcC : ∀ a, Uses (cEnv env scope H2.objs.size) a → a = H2.objs.size ∨ Uses env a := fun a ha => by
    rcases ha with rfl | ⟨x, hx⟩
    · exact .inl rfl
    · rcases closL_mem hx with h | ⟨h, e⟩
      · cases h
      · obtain ⟨c, hc⟩ := Option.isSome_iff_exists.mp (O.free _ h rfl)
        rw [hc] at e
        exact .inr (.inr ⟨x, by cases e; exact mem_of_lookup hc⟩)
  have run : ∀ s₃ : Shared, s₃ = { s with heap := h₁, toks := s.toks + ([] : List (Str × Value)).length } → codeAny (model X.prog X.w) A (.compLoop (.ListComp elt [⟨target, iter, ifs, 0⟩] scope pos) 0 (.ref s.heap.objs.size) (.ref h'.objs.size) (cEnv env scope H2.objs.size)) (RR (.ref h'.objs.size) H2.objs.size) s₃ := by
    rintro s₃ rfl
    refine Comp_run (Q := Q) (cenv := cEnv env scope H2.objs.size) (ρ₀ := cRho env scope ρ) (zs₀ := []) (i₀ := 0) hA I fI fD fC (Nat.ne_of_lt hit) (fun a ha => ?_) IB DB rfl (fun x d e k => ?_) (fun s' zs μ' F' hq H' hn hF hM hFA hMA hys S' => ?_) (Nat.zero_le _) (hP _) H₁ Vc hst₁ IF IM DF DM ⟨#[], hacc, rfl⟩ S₁
    · rcases srcC a ha with rfl | h
      · exact ⟨by show H2.objs.size ≠ _; omega, by show H2.objs.size ≠ _; omega⟩
      · exact ⟨ne a _ (usesOld a h) fI, ne a _ (usesOld a h) fD⟩
    · unfold cRho at e
      rw [if_neg (by rw [show (relabel scope env).names.lookup x = some .local from k]; simp)] at e
      cases e
    · obtain ⟨ys, ⟨mm, hpl⟩, hrs⟩ := hys
      obtain ⟨m, hn⟩ := hn
      refine hRR h'.objs.size H2.objs.size s' zs μ' _ m hq (H'.freezeOld hpl hFA hMA) (S'.freezeOld fD hFA) ⟨_, _, ys, mm, rfl, fput_self .., rfl, rfl, hrs.mono (fput_le hFA)⟩ hn ?_ hM CB fC
      unfold fput
      rw [if_neg (Ne.symm hDC)]
      exact hF
  exact codeAny_compStart_list (run _ rfl) (I.self A 0 _ _ _ hst₁ (run _ rfl))

theorem Ev.comp {target iter elt : Expr} {ifs : List Expr} {scope : Scope} {pos : Pos} {Q : D → Mu → Prop} (O : CompOk env scope)
    (h : Ev X n env iter ρ μ fun d μ₁ => ∃ ds, Iterb X μ₁ d ds ∧ ∀ C, CompP X n (cEnv env scope C) target ifs elt (cRho env scope ρ) ds [] μ₁ fun zs μ₂ => Q (.lst zs) μ₂)
    (hs : ∀ x, foldedSetIterable iter env x = pure x := by intro _; rfl) :
    Ev X n env (.ListComp elt [⟨target, iter, ifs, 0⟩] scope pos) ρ μ Q := fun A F s hA H V => by
  rw [eval_ListComp]
  refine wpAny_comprehension_free (g := ⟨target, iter, ifs, 0⟩) (gs := []) (use := Option.none) rfl hs (closureFor_eq O.free) O.kind O.loc (wpAny_mono (h A F s hA H V) ?_ fun _ _ e => e)
  rintro v s₁ ⟨d, μ₁, F₁, ⟨ds, hI, hP⟩, r, H₁, S₁⟩
  have V₁ := V.step S₁
  refine hI A F₁ s₁ v _ _ hA.1 H₁ r fun h' St hk I hst => ?_
  refine Comp_block (RR := fun acc C => compPost (model X.prog X.w) A Never Option.none (Post X Q F μ s) acc C) hA H₁ V₁ O I hk hst hP ?_
  intro D C s' zs μ' F' m hq H' S' rl hn hF hM hB hfr
  refine ⟨m, hn, fun h'' hs'' => ?_⟩
  have hk'' : ∀ b o, b ≠ C → s'.heap.get? b = some o → h''.get? b = some o := fun b o hb e => hs''.extBut b o hb e
  exact ⟨_, μ', F', hq, rl, H'.touch' (s' := { s' with heap := h'' }) hF hM hB hk'' rfl rfl, S₁.trans (S'.touch (.inl hfr) hk'')⟩
theorem Ex1.asgComp {target iter elt : Expr} {ifs : List Expr} {scope : Scope} {pos spos py : Pos} {y : Str} {N : Rho → Mu → Prop} {R : D → Mu → Prop} (O : CompOk env scope) (hy : Kept env y)
    (h : Ev X n env iter ρ μ fun d μ₁ => ∃ ds, Iterb X μ₁ d ds ∧ ∀ C, CompP X n (cEnv env scope C) target ifs elt (cRho env scope ρ) ds [] μ₁ fun zs μ₂ => N (rset ρ y (.lst zs)) μ₂)
    (hs : ∀ x, foldedSetIterable iter env x = pure x := by intro _; rfl)
    (hsw : swapsWith (.ListComp elt [⟨target, iter, ifs, 0⟩] scope pos) (some (.Name y py)) spos.line env = pure true := by rfl) :
    Ex1 X n env (.Assign [.Name y py] (.ListComp elt [⟨target, iter, ifs, 0⟩] scope pos) spos) ρ μ N R := fun A F s hA H V => by
  rw [exec_Assign_Name_used _ _ _ _ hsw]
  refine wpAny_bind (wpAny_standAt (wpAny_bind ?_))
  show wpAny _ A (do let _ ← comprehension (.ListComp elt [⟨target, iter, ifs, 0⟩] scope pos) scope env _ (newList []) false (eval iter env) (some (assign (.Name y py) env))) _ _ s
  refine wpAny_bind (wpAny_mono (wpAny_comprehension_free (use := some (assign (.Name y py) env)) (Q := fun _ s' => PostS X env N R F μ s .next s') rfl hs (closureFor_eq O.free) O.kind O.loc
    (wpAny_mono (h A F s hA H V) ?_ fun _ _ e => e)) (fun _ s' hq => wpAny_pure (wpAny_pure hq)) fun _ _ e => e)
  rintro v s₁ ⟨d, μ₁, F₁, ⟨ds, hI, hP⟩, r, H₁, S₁⟩
  have V₁ := V.step S₁
  refine hI A F₁ s₁ v _ _ hA.1 H₁ r fun h' St hk I hst => ?_
  refine Comp_block (RR := fun acc C => compPost (model X.prog X.w) A Never (some (assign (.Name y py) env)) (fun _ s' => PostS X env N R F μ s .next s') acc C) hA H₁ V₁ O I hk hst hP ?_
  intro D C s' zs μ' F' m hq H' S' rl hn hF hM hB hfr
  show wpAny _ A (assign (.Name y py) env (.ref D)) _ _ s'
  have V' := V₁.step S'
  refine wpAny_assign_Name (store hy H' V' rl fun s'' H'' V'' S'' => ?_)
  have hne : ∀ a, Uses env a → a ≠ C := fun a ha q => by
    obtain ⟨o, ho⟩ := V₁.exists ha
    rw [q, hfr] at ho; cases ho
  refine ⟨m, hn.at' fun o e => S''.keep _ o e hM fun q => hne C q.uses rfl, fun h₃ hs₃ => ?_⟩
  have hk₃ : ∀ b o, b ≠ C → s''.heap.get? b = some o → h₃.get? b = some o := fun b o hb e => hs₃.extBut b o hb e
  obtain ⟨oC, hoC⟩ := Ns_get hn
  exact ⟨_, μ', F', hq, H''.touch' (s' := { s'' with heap := h₃ }) hF hM hB hk₃ rfl rfl, V''.touch (s' := { s'' with heap := h₃ }) hne hk₃, S₁.own.trans ((S'.own.trans S'').touch (.inl hfr) hk₃)⟩
end Lay

/- part Lay9 -/
open PySem PySem.W PyProof.Rows
set_option Elab.async false
set_option linter.unusedVariables false
namespace Lay
variable {X : Cx} {n : Nat} {env : Env} {ρ : Rho} {μ : Mu}

theorem cellsFrom_some {x : Str} : ∀ {names : List (Str × NameKind)} {k : Nat} {acc : List (Str × Addr)}, (acc.lookup x).isSome = true ∨ (x, .cell) ∈ names → ((cellsFrom k names acc).lookup x).isSome = true
  | [], k, acc, h => by
    rcases h with h | h
    · exact h
    · cases h
  | (m, kd) :: r, k, acc, h => by
    unfold cellsFrom
    by_cases hk : (kd == NameKind.cell) = true
    · rw [if_pos hk]
      refine cellsFrom_some ?_
      rcases h with h | h
      · left; rw [List.lookup_cons]; cases x == m <;> simp [h]
      · rcases List.mem_cons.mp h with h | h
        · cases h; left; rw [List.lookup_cons]; simp
        · exact .inr h
    · rw [if_neg hk]
      refine cellsFrom_some ?_
      rcases h with h | h
      · exact .inl h
      · rcases List.mem_cons.mp h with h | h
        · cases h; exact (hk rfl).elim
        · exact .inr h
theorem Reps.raws {F : FZ} : ∀ (vs : List Value), Reps F (vs.map .raw) vs
  | [] => rfl
  | v :: vs => ⟨v, vs, rfl, rfl, Reps.raws vs⟩
theorem cellsFrom_nodup : ∀ {names : List (Str × NameKind)} {k : Nat} {acc : List (Str × Addr)}, (names.map (·.1)).Nodup → (acc.map (·.1)).Nodup → (∀ x ∈ acc, x.1 ∉ names.map (·.1)) → ((cellsFrom k names acc).map (·.1)).Nodup
  | [], _, acc, _, h, _ => h
  | (m, kd) :: r, k, acc, hn, ha, hs => by
    rw [List.map_cons, List.nodup_cons] at hn
    unfold cellsFrom
    split
    · refine cellsFrom_nodup hn.2 ?_ fun x hx => ?_
      · rw [List.map_cons, List.nodup_cons]
        refine ⟨fun hm => ?_, ha⟩
        obtain ⟨y, hy, e⟩ := List.mem_map.mp hm
        exact hs y hy (by rw [e]; exact .head _)
      · rcases List.mem_cons.mp hx with rfl | hx
        · exact hn.1
        · exact fun q => hs x hx (.tail _ q)
    · exact cellsFrom_nodup hn.2 ha fun x hx q => hs x hx (.tail _ q)
theorem lookup_nodup {α : Type} : ∀ {l : List (Str × α)} {x : Str} {c : α}, (l.map (·.1)).Nodup → (x, c) ∈ l → l.lookup x = some c
  | [], _, _, _, h => by cases h
  | y :: l, x, c, hn, h => by
    rw [List.map_cons, List.nodup_cons] at hn
    rw [List.lookup_cons]
    rcases List.mem_cons.mp h with e | h
    · subst e; simp
    · have : (x == y.1) = false := by
        simp only [beq_eq_false_iff_ne]
        rintro rfl
        exact hn.1 (List.mem_map.mpr ⟨(y.1, c), h, rfl⟩)
      rw [this]
      exact lookup_nodup hn.2 h
def rbind : List Str → List D → Rho → Rho
  | x :: xs, d :: ds, ρ => rbind xs ds (rset ρ x d)
  | _, _, ρ => ρ
theorem bind_rep {F : FZ} {kindOf : Str → Option NameKind} : ∀ {names : List Str} {ds : List D} {vs : List Value} {ρ : Rho} {m cm : Str → Option Value}, Reps F ds vs →
    (∀ x d, ρ x = some d → kindOf x = some .local → ∃ v, m x = some v ∧ Rep F d v) → (∀ x d, ρ x = some d → kindOf x = some .cell → ∃ v, cm x = some v ∧ Rep F d v) →
    (∀ x d, rbind names ds ρ x = some d → kindOf x = some .local → ∃ v, bindL kindOf (names.zip vs) m x = some v ∧ Rep F d v) ∧ (∀ x d, rbind names ds ρ x = some d → kindOf x = some .cell → ∃ v, bindC kindOf (names.zip vs) cm x = some v ∧ Rep F d v)
  | [], ds, vs, ρ, m, cm, _, h1, h2 => by cases ds <;> exact ⟨h1, h2⟩
  | y :: ys, [], vs, ρ, m, cm, r, h1, h2 => by cases r; exact ⟨h1, h2⟩
  | y :: ys, d :: ds, vs, ρ, m, cm, ⟨v, vs', e, r, rs⟩, h1, h2 => by
    subst e
    show (∀ x d', rbind ys ds (rset ρ y d) x = some d' → _ → ∃ w, bindL kindOf ((y, v) :: ys.zip vs') m x = _ ∧ _) ∧ (∀ x d', rbind ys ds (rset ρ y d) x = some d' → _ → ∃ w, bindC kindOf ((y, v) :: ys.zip vs') cm x = _ ∧ _)
    unfold bindL bindC
    refine bind_rep rs (fun x d' e k => ?_) fun x d' e k => ?_
    · unfold rset at e
      split at e
      · rename_i q; subst q; cases e; rw [if_pos k]; exact ⟨v, by simp, r⟩
      · rename_i q
        obtain ⟨w, e1, e2⟩ := h1 x d' e k
        refine ⟨w, ?_, e2⟩
        split
        · simp [q, e1]
        · exact e1
    · unfold rset at e
      split at e
      · rename_i q; subst q; cases e; rw [if_neg (by rw [k]; simp)]; exact ⟨v, by simp, r⟩
      · rename_i q
        obtain ⟨w, e1, e2⟩ := h2 x d' e k
        refine ⟨w, ?_, e2⟩
        split
        · exact e1
        · simp [q, e1]
/-- a function of the module as it lies -/
structure FnOk (X : Cx) (a : Addr) (fd : FuncData) (body : List Stmt) : Prop where
  at' : ∃ o, X.h₁.get? a = some o ∧ o.data = .func fd
  ne : a ≠ X.tb
  lim : ∀ h, Based X h → h.NoLimit
  code : ∀ h, Based X h → h.CodeRec fd.code fd.qualname
  body : fd.body = .stmts body
  clo : fd.closure = []
  co : fd.scope.isCoroutine = false
  gen : fd.scope.isGenerator = false
  kind : fd.scope.kind = .function
  nodup : (fd.scope.names.map (·.1)).Nodup

theorem CallP.fn {a : Addr} {fd : FuncData} {body : List Stmt} {ds : List D} {names : List Str} {dvs : List Value} {Q : D → Mu → Prop} (O : FnOk X a fd body)
    (hbind : ∀ (s : Shared) vs, Based X s.heap → vs.length = ds.length → BindsTo s fd ⟨vs, []⟩ (names.zip (vs ++ dvs)))
    (hkind : ∀ x ∈ names, fd.scope.names.lookup x = some .local ∨ (fd.scope.names.lookup x = some .cell ∧ (x, .cell) ∈ fd.scope.names))
    (h : ∀ L, Ex X n (callEnvC fd L a) body (rbind names (ds ++ dvs.map .raw) fun _ => none) μ (fun _ μ' => Q .none μ') Q) : CallP X (n + 1) (.ref a) ds μ Q := fun A F s vs hA H r => by
  obtain ⟨o, ho, hd⟩ := O.at'
  have B := H.based
  refine wpAny_call (codeAny_call_function hA.room (B a o ho O.ne) hd O.co O.gen O.body (O.code _ B) ?_)
  refine hbind s vs B r.length _ _ _ _ ?_
  rw [O.clo]
  refine wpAny_newFunctionEnv_cells O.kind (fun x hx => ?_) fun env he s₁ I => ?_
  · rcases hkind x.1 (List.of_mem_zip hx).1 with h | ⟨h1, h2⟩
    · exact .inl h
    · exact .inr ⟨h1, cellsFrom_some (.inr h2)⟩
  have hE : env = callEnvC fd s.heap.objs.size a := he
  subst hE
  clear he
  obtain ⟨⟨⟨h₁, tk, rfl⟩, ns, keep, fr⟩, cell, apart, above⟩ := I
  refine ⟨O.lim _ fun b o e hb => keep b o (B b o e hb), codeAny_func ?_⟩
  have H₁ : HC X F μ { s with heap := h₁, toks := tk } := H.grow keep rfl rfl
  have S₁ : Step No F μ s F μ { s with heap := h₁, toks := tk } := .grow keep
  have fresh : ∀ b, s.heap.objs.size ≤ b → s.heap.get? b = none := fun b hb => by
    cases e : s.heap.get? b with
    | none => rfl
    | some o' => exact absurd (Heap.lt_size e) (Nat.not_lt.mpr hb)
  have hL : (callEnvC fd s.heap.objs.size a).locals = s.heap.objs.size := rfl
  have rv : Reps F (ds ++ dvs.map .raw) (vs ++ dvs) := r.append (Reps.raws dvs)
  obtain ⟨b1, b2⟩ := bind_rep (names := names) (ρ := fun _ => none) (m := fun _ => none) (cm := fun _ => none) (kindOf := (callEnvC fd s.heap.objs.size a).kindOf) rv (fun x d e _ => by cases e) (fun x d e _ => by cases e)
  have hfree : ∀ b, Uses (callEnvC fd s.heap.objs.size a) b → s.heap.get? b = none := fun b hb => by
    rcases hb with rfl | ⟨x, hx⟩
    · exact fresh _ (Nat.le_refl _)
    · exact fresh _ (Nat.le_of_lt (above x b hx))
  have V₁ : VC X F μ (callEnvC fd s.heap.objs.size a) (rbind names (ds ++ dvs.map .raw) fun _ => none) { s with heap := h₁, toks := tk } := by
    refine ⟨⟨_, ns, b1⟩, fun x d e k => ?_, fun x c hx => ?_, apart, H.none_of_fresh (hfree _ (.inl rfl)), fun x c hx => ?_, O.kind⟩
    · obtain ⟨v, hv, rv⟩ := b2 x d e k
      have hs : ((cellsFrom (s.heap.objs.size + 1) fd.scope.names []).lookup x).isSome = true := cellsFrom_some (.inr (by
        have k' : fd.scope.names.lookup x = some .cell := k
        exact mem_of_lookup k'))
      obtain ⟨c, hc⟩ := Option.isSome_iff_exists.mp hs
      exact ⟨c, v, hc, hv ▸ cell x c hc, rv⟩
    · exact ⟨_, cell x c (lookup_nodup (cellsFrom_nodup O.nodup (by simp) (by simp)) hx)⟩
    · obtain ⟨h1, h2, h3⟩ := H.none_of_fresh (hfree c (.inr ⟨x, hx⟩))
      exact ⟨h1, h2, h3, Nat.ne_of_gt (above x c hx)⟩
  refine wpAny_mono (h _ _ F _ hA.deeper H₁ V₁) ?_ fun _ _ e => e.elim
  rintro f s' p
  cases f with
  | next =>
    obtain ⟨ρ', μ', F', q, H', V', S'⟩ := p
    exact ⟨.none, μ', F', q, rfl, H', S₁.drop S' fun b hb => hfree b hb.uses⟩
  | ret v =>
    obtain ⟨d, μ', F', q, rd, H', S'⟩ := p
    exact ⟨d, μ', F', q, rd, H', S₁.drop S' fun b hb => hfree b hb.uses⟩
  | brk => exact p.elim
  | cont => exact p.elim
end Lay

/- part Lay10 -/
open PySem PySem.W PyProof.Rows
set_option Elab.async false
set_option linter.unusedVariables false
set_option maxRecDepth 100000
namespace Lay
variable {X : Cx} {n : Nat} {env : Env} {ρ : Rho} {μ : Mu}

theorem Reps.ints {F : FZ} : ∀ {xs : List Int} {vs : List Value} {i : Nat} {v : Value}, Reps F (xs.map D.int) vs → vs[i]? = some v → ∃ t, v = .int (xs.getD i 0) t
  | [], vs, i, v, h, e => by cases h; simp at e
  | x :: xs, _, 0, v, ⟨u, us, q, r, rs⟩, e => by subst q; simp at e; subst e; obtain ⟨t, rfl⟩ := r; exact ⟨t, rfl⟩
  | x :: xs, _, i + 1, v, ⟨u, us, q, r, rs⟩, e => by subst q; obtain ⟨t, ht⟩ := rs.ints (by simpa using e); exact ⟨t, by simpa using ht⟩
theorem CallP.len {d : D} {l : List D} {Q : D → Mu → Prop} (hl : IsL μ d l) (hs : Small l) (h : Q (.int l.length) μ) : CallP X n (.builtin "len") [d] μ Q := by
  rintro A F s _ hA H ⟨v, _, rfl, r, rfl⟩
  obtain ⟨a, vs, rfl, hL, hr⟩ := hl.isList H r
  have hz : vs.size = l.length := by rw [← hr.length]; simp
  have hb : (l.length : Int) < 2 ^ 63 := by
    have q : l.length ≤ 1000000 := hs
    have : (2 : Int) ^ 63 = 9223372036854775808 := by decide
    omega
  exact Calls.call_len_list hL (by rw [hz]; exact hb) (Post.here H h ⟨_, by rw [hz]⟩ (fun _ _ e => e) rfl rfl)
theorem iter_pack {F : FZ} {s : Shared} {A : Around} {d : D} {l : List D} {v : Value} {Q : Value → Shared → Prop} {E : Value → Shared → Prop} (hl : IsL μ d l) (H : HC X F μ s) (r : Rep F d v)
    (h : ∀ a vs h', v = .ref a → Reps F l vs.toList → (∀ b o, s.heap.get? b = some o → h'.get? b = some o) → a ≠ s.heap.objs.size → s.heap.get? s.heap.objs.size = none → h'.objs.size = s.heap.objs.size + 1 → a < s.heap.objs.size → h'.IsListIter s.heap.objs.size a 0 ∧ h'.IsList a vs → Q (.ref s.heap.objs.size) { s with heap := h' }) : wpAny (model X.prog X.w) A (pyIter v) Q E s := by
  obtain ⟨a, vs, rfl, hL, hr⟩ := hl.isList H r
  have hlt : a < s.heap.objs.size := by obtain ⟨o, ho, _⟩ := hL; exact Heap.lt_size ho
  exact wpAny_pyIter_list hL (h a vs _ rfl hr (fun b o e => Heap.get?_push_of_some _ e) (Nat.ne_of_lt hlt) push_none (Heap.size_push ..) hlt ⟨⟨_, Heap.get?_push_size _ rfl, rfl, rfl⟩, hL.push _⟩)
theorem preSum_take (xs : List Int) : ∀ k, k ≤ xs.length → preSum (fun i => xs.getD i 0) k = (xs.take k).sum
  | 0, _ => by simp [preSum]
  | k + 1, h => by
    rw [preSum, preSum_take xs k (by omega), List.take_add_one, List.sum_append]
    have hlt : k < xs.length := by omega
    simp [List.getD, List.getElem?_eq_getElem hlt]
theorem CallP.sum {d : D} {xs : List Int} {Q : D → Mu → Prop} (hl : IsL μ d (xs.map D.int)) (h : Q (.int xs.sum) μ) : CallP X n (.builtin "sum") [d] μ Q := by
  rintro A F s _ hA H ⟨v, _, rfl, r, rfl⟩
  refine call_sum_walkG (iter_pack hl H r fun a vs h' e hr hk hne hfr hsz hlt st => ?_)
  have hz : vs.size = xs.length := by have := hr.length; simpa using this
  refine ⟨_, _, _, _, _, _, fun i => xs.getD i 0, rfl, Walks.list (A := A.in1) hA.1 _ a hne vs, st, fun b hb => ?_, fun i v hv => Reps.ints hr (by simpa using hv), fun h'' tk t' hk' => ?_⟩
  · show b < h'.objs.size
    rw [hsz]
    simp only [List.mem_cons, List.mem_nil_iff, or_false] at hb
    rcases hb with rfl | rfl
    · exact Nat.lt_succ_self _
    · exact Nat.lt_succ_of_lt hlt
  · refine Post.here H h ⟨t', ?_⟩ (fun b o e => hk' b o (by simp only [List.mem_cons, List.mem_nil_iff, or_false]; rintro rfl; rw [hfr] at e; cases e) (hk b o e)) rfl rfl
    rw [hz, preSum_take xs _ (Nat.le_refl _), List.take_of_length_le (Nat.le_refl _)]
theorem argBest_gt {val : Nat → Int} : ∀ k, argBest (fun i j => decide (val i > val j)) k ≤ k ∧ ∀ i ≤ k, val i ≤ val (argBest (fun i j => decide (val i > val j)) k)
  | 0 => ⟨Nat.le_refl _, fun i hi => by obtain rfl : i = 0 := by omega
                                        exact Int.le_refl _⟩
  | k + 1 => by
    obtain ⟨h1, h2⟩ := argBest_gt (val := val) k
    unfold argBest
    split
    · rename_i q
      have q' : val (k + 1) > val (argBest (fun i j => decide (val i > val j)) k) := by simpa using q
      refine ⟨Nat.le_refl _, fun i hi => ?_⟩
      rcases Nat.lt_or_ge i (k + 1) with hlt | hge
      · have := h2 i (by omega); omega
      · obtain rfl : i = k + 1 := by omega
        exact Int.le_refl _
    · rename_i q
      have q' : ¬ val (k + 1) > val (argBest (fun i j => decide (val i > val j)) k) := by simpa using q
      refine ⟨by omega, fun i hi => ?_⟩
      rcases Nat.lt_or_ge i (k + 1) with hlt | hge
      · exact h2 i (by omega)
      · obtain rfl : i = k + 1 := by omega
        omega
theorem CallP.max {d : D} {xs : List Int} {Q : D → Mu → Prop} (hl : IsL μ d (xs.map D.int)) (hne : xs ≠ []) (h : ∀ m, m ∈ xs → (∀ x ∈ xs, x ≤ m) → Q (.int m) μ) : CallP X n (.builtin "max") [d] μ Q := by
  rintro A F s _ hA H ⟨v, _, rfl, r, rfl⟩
  refine call_max_walk (iter_pack hl H r fun a vs h' e hr hk hnea hfr hsz hlt st => ?_)
  have hz : vs.size = xs.length := by have := hr.length; simpa using this
  have hpos : 0 < xs.length := List.length_pos_iff.mpr hne
  have hval : ∀ (i : Nat) (v : Value), vs[i]? = some v → ∃ t, v = .int (xs.getD i 0) t := fun i v hv => Reps.ints hr (by simpa using hv)
  refine ⟨_, _, _, _, _, _, _, rfl, Walks.list (A := A.in1) hA.1 _ a hnea vs, st, fun b hb => ?_, by omega, CmpOf.ints_gt (fun i => xs.getD i 0) hval, fun u h'' tk hu hk' => ?_⟩
  · show b < h'.objs.size
    rw [hsz]
    simp only [List.mem_cons, List.mem_nil_iff, or_false] at hb
    rcases hb with rfl | rfl
    · exact Nat.lt_succ_self _
    · exact Nat.lt_succ_of_lt hlt
  · obtain ⟨t, rfl⟩ := hval _ _ hu
    obtain ⟨b1, b2⟩ := argBest_gt (val := fun i => xs.getD i 0) (vs.size - 1)
    refine Post.here H (h _ ?_ fun x hx => ?_) ⟨t, rfl⟩ (fun b o e => hk' b o (by simp only [List.mem_cons, List.mem_nil_iff, or_false]; rintro rfl; rw [hfr] at e; cases e) (hk b o e)) rfl rfl
    · have hlt' : argBest (fun i j => decide (xs.getD i 0 > xs.getD j 0)) (vs.size - 1) < xs.length := by omega
      have mem : ∀ k, k < xs.length → xs.getD k 0 ∈ xs := fun k q => by
        simp only [List.getD, List.getElem?_eq_getElem q, Option.getD_some]
        exact List.getElem_mem q
      exact mem _ hlt'
    · obtain ⟨i, hi, rfl⟩ := List.getElem_of_mem hx
      have := b2 i (by omega)
      simpa [List.getD, List.getElem?_eq_getElem hi] using this
theorem CallP.min2 {a b : Int} {Q : D → Mu → Prop} (h : Q (.int (min a b)) μ) : CallP X n (.builtin "min") [.int a, .int b] μ Q := by
  rintro A F s _ hA H ⟨_, _, rfl, ⟨t, rfl⟩, _, _, rfl, ⟨u, rfl⟩, rfl⟩
  refine min_two_ints hA.1 fun h' tk hk => Post.here H h ?_ hk rfl rfl
  by_cases q : b < a
  · rw [if_pos q, Int.min_eq_right (by omega)]; exact ⟨u, rfl⟩
  · rw [if_neg q, Int.min_eq_left (by omega)]; exact ⟨t, rfl⟩
theorem CallP.range1 {k : Int} {Q : D → Mu → Prop} (h : Q (.rng 0 k) μ) : CallP X n (.type "range") [.int k] μ Q := by
  rintro A F s _ hA H ⟨_, _, rfl, ⟨t, rfl⟩, rfl⟩
  exact call_range_1 (post_freeze H push_none (Heap.get?_push_size _ rfl) (fun b o e => Heap.get?_push_of_some _ e) rfl rfl h ⟨_, _, _, _, rfl, fput_self ..⟩)
theorem CallP.range2 {a k : Int} {Q : D → Mu → Prop} (h : Q (.rng a k) μ) : CallP X n (.type "range") [.int a, .int k] μ Q := by
  rintro A F s _ hA H ⟨_, _, rfl, ⟨t, rfl⟩, _, _, rfl, ⟨u, rfl⟩, rfl⟩
  exact call_range_2 (post_freeze H push_none (Heap.get?_push_size _ rfl) (fun b o e => Heap.get?_push_of_some _ e) rfl rfl h ⟨_, _, _, _, rfl, fput_self ..⟩)
theorem CallP.list {d : D} {l : List D} {Q : D → Mu → Prop} (hl : IsL μ d l) (hs : Small l) (h : Q (.lst l) μ) : CallP X n (.type "list") [d] μ Q := by
  rintro A F s _ hA H ⟨v, _, rfl, r, rfl⟩
  obtain ⟨a, vs, rfl, ⟨o, ho, hc, k, hd⟩, hr⟩ := hl.isList H r
  refine call_list_seq a (.inl rfl) ho hc hd (fun h' c' hk hn => ?_) (by rw [← Array.length_toList]; exact hs.fits hr)
  exact post_freeze H push_none hn hk rfl rfl h ⟨_, _, vs, c', rfl, fput_self .., rfl, rfl, hr.mono (fput_le (H.none_of_fresh push_none).1)⟩
theorem Bin.concat {d e : D} {l l' : List D} {Q : D → Mu → Prop} (hl : IsL μ d l) (hl' : IsL μ e l') (hs : Small (l ++ l')) (h : Q (.lst (l ++ l')) μ) : Bin X n .Add d e μ Q := by
  rintro A F s _ _ hA H r r'
  obtain ⟨a, vs, rfl, ⟨o, ho, hc, k, hd⟩, hr⟩ := hl.isList H r
  obtain ⟨b, us, rfl, ⟨o', ho', hc', k', hd'⟩, hr'⟩ := hl'.isList H r'
  obtain ⟨cls, dd, data, sl⟩ := o
  obtain ⟨cls2, dd2, data2, sl2⟩ := o'
  simp only at hc hd hc' hd'
  subst hc hd hc' hd'
  have hz : vs.size + us.size ≤ sizeLine := by
    have e := hs.fits (hr.append hr')
    simpa using e
  refine concat_meets ⟨_, ho, rfl⟩ ⟨_, ho', rfl⟩ noFill_list_add seq_list_add PySem.F.slot_list_add PySem.F.entry_list_add (PySem.F.args_list_add_2 _ _) (list_addW a b vs us k k' dd dd2 sl sl2 hz) ⟨ho, ho', ?_⟩
  exact post_freeze H push_none (Heap.get?_push_size _ rfl) (fun b o e => Heap.get?_push_of_some _ e) rfl rfl h ⟨_, _, _, _, rfl, fput_self .., rfl, rfl, (by simpa using (hr.append hr').mono (fput_le (H.none_of_fresh push_none).1))⟩
end Lay

/- part Lay11 -/
open PySem PySem.W PyProof.Rows
set_option Elab.async false
set_option linter.unusedVariables false
set_option maxRecDepth 100000
namespace Lay
variable {X : Cx} {n : Nat} {env : Env} {ρ : Rho} {μ : Mu}

/- equality of data -/
mutual
def D.dat : D → PySem.W.Dat
  | .none => .none
  | .bool b => .bool b
  | .int i => .int i
  | .tup l => .tuple (D.dats l)
  | .lst l => .list (D.dats l)
  | .rng _ _ => .bytes #[]
  | .raw _ => .bytes #[]
  | .kcl .. => .bytes #[]
  | .inst .. => .bytes #[]
def D.dats : List D → List PySem.W.Dat
  | [] => []
  | d :: ds => d.dat :: D.dats ds
end
theorem D.dats_eq : ∀ l : List D, D.dats l = l.map D.dat
  | [] => by simp [D.dats]
  | d :: ds => by simp [D.dats, D.dats_eq ds]
mutual
theorem Rep.reads {F : FZ} {h : Heap} (fz : Froz F h) : ∀ {d : D} {v : Value} (n : Nat), Rep F d v → kqdOk n d.dat = true → ∃ as, Reads h v (kqdP d.dat) as
  | .none, _, _, h, _ => by
    have e : _ = Value.none := h
    subst e; exact ⟨_, Reads.none⟩
  | .bool b, _, n, h, hk => by
    cases n <;> simp [D.dat, kqdOk] at hk
  | .int i, _, _, h, _ => by
    obtain ⟨t, rfl⟩ := h
    exact ⟨_, Reads.int i t⟩
  | .raw _, _, n, _, hk => by cases n <;> simp [D.dat, kqdOk] at hk
  | .rng _ _, _, n, _, hk => by cases n <;> simp [D.dat, kqdOk] at hk
  | .kcl .., _, n, _, hk => by cases n <;> simp [D.dat, kqdOk] at hk
  | .inst .., _, n, _, hk => by cases n <;> simp [D.dat, kqdOk] at hk
  | .tup l, _, 0, _, hk => by simp [D.dat, kqdOk] at hk
  | .lst l, _, 0, _, hk => by simp [D.dat, kqdOk] at hk
  | .tup l, _, n + 1, h, hk => by
    obtain ⟨a, o, vs, k, rfl, hf, hc, hd, hr⟩ := h
    obtain ⟨as, q⟩ := Reps.reads fz n hr (by simpa [D.dat, kqdOk, D.dats_eq] using hk)
    rw [D.dat, kqdP]
    exact ⟨as, reads_tuple_at (fz a o hf) hc hd q⟩
  | .lst l, _, n + 1, h, hk => by
    obtain ⟨a, o, vs, k, rfl, hf, hc, hd, hr⟩ := h
    obtain ⟨as, q⟩ := Reps.reads fz n hr (by simpa [D.dat, kqdOk, D.dats_eq] using hk)
    rw [D.dat, kqdP]
    exact ⟨_, reads_list_at (fz a o hf) hc hd q⟩
theorem Reps.reads {F : FZ} {h : Heap} (fz : Froz F h) : ∀ {l : List D} {vs : List Value} (n : Nat), Reps F l vs → (∀ d ∈ l, kqdOk n d.dat = true) → ∃ as, ReadsAll h vs (kqdPs (D.dats l)) as
  | [], _, _, h, _ => by
    have e : _ = [] := h
    subst e; rw [D.dats, kqdPs]; exact ⟨_, ReadsAll.nil⟩
  | d :: ds, _, n, h, hk => by
    obtain ⟨v, vs', rfl, r, rs⟩ := h
    obtain ⟨as, q⟩ := Rep.reads fz n r (hk _ (.head _))
    obtain ⟨bs, p⟩ := Reps.reads fz n rs fun d hm => hk d (.tail _ hm)
    rw [D.dats, kqdPs]
    exact ⟨_, ReadsAll.cons q p⟩
end
def D.ok (d : D) : Prop := kqdOk 8 d.dat = true
mutual
theorem D.dat_inj : ∀ (d e : D) (n m : Nat), kqdOk n d.dat = true → kqdOk m e.dat = true → d.dat = e.dat → d = e
  | .none, e, n, m, h, k, q => by cases e <;> simp_all [D.dat]
  | .bool b, e, n, m, h, k, q => by cases n <;> simp [D.dat, kqdOk] at h
  | .int i, e, n, m, h, k, q => by cases e <;> simp_all [D.dat]
  | .raw _, e, n, m, h, k, q => by cases n <;> simp [D.dat, kqdOk] at h
  | .rng _ _, e, n, m, h, k, q => by cases n <;> simp [D.dat, kqdOk] at h
  | .kcl .., e, n, m, h, k, q => by cases n <;> simp [D.dat, kqdOk] at h
  | .inst .., e, n, m, h, k, q => by cases n <;> simp [D.dat, kqdOk] at h
  | .tup l, e, 0, m, h, k, q => by simp [D.dat, kqdOk] at h
  | .lst l, e, 0, m, h, k, q => by simp [D.dat, kqdOk] at h
  | .tup l, e, n + 1, m, h, k, q => by
    cases e <;> simp [D.dat] at q
    rename_i l'
    cases m with
    | zero => simp [D.dat, kqdOk] at k
    | succ m => rw [D.dats_inj l l' n m (by simpa [D.dat, kqdOk, D.dats_eq] using h) (by simpa [D.dat, kqdOk, D.dats_eq] using k) q]
  | .lst l, e, n + 1, m, h, k, q => by
    cases e <;> simp [D.dat] at q
    rename_i l'
    cases m with
    | zero => simp [D.dat, kqdOk] at k
    | succ m => rw [D.dats_inj l l' n m (by simpa [D.dat, kqdOk, D.dats_eq] using h) (by simpa [D.dat, kqdOk, D.dats_eq] using k) q]
theorem D.dats_inj : ∀ (l l' : List D) (n m : Nat), (∀ d ∈ l, kqdOk n d.dat = true) → (∀ d ∈ l', kqdOk m d.dat = true) → D.dats l = D.dats l' → l = l'
  | [], l', n, m, h, k, q => by cases l' <;> simp_all [D.dats]
  | d :: ds, l', n, m, h, k, q => by
    cases l' with
    | nil => simp [D.dats] at q
    | cons e es =>
      simp only [D.dats, List.cons.injEq] at q
      rw [D.dat_inj d e n m (h _ (.head _)) (k _ (.head _)) q.1, D.dats_inj ds es n m (fun x hx => h x (.tail _ hx)) (fun x hx => k x (.tail _ hx)) q.2]
end
theorem AOk.cmp {A : Around} (h : AOk n A) : A.units + 64 < cLine := by have := h.2.2; unfold cLine; omega
theorem shaped_dat {e : PySem.W.Dat} {n : Nat} (h : kqdOk n e = true) (hn : n ≤ 64) : SeqAt.shaped (kqdP e) = true := by
  have la := kqd_lay n e h
  unfold SeqAt.shaped; rw [la.1, Bool.true_and]; exact decide_eq_true (Nat.le_trans la.2 hn)
/-- equality of plain data -/
theorem Cmp.eqD {d e : D} {Q : D → Mu → Prop} (hd : kqdOk 9 d.dat = true) (he : kqdOk 9 e.dat = true) (h : ∀ b, (b = true ↔ d = e) → Q (.bool b) μ) : Cmp X n .Eq d e μ Q := by
  rintro A F s va vb hA H r r'
  obtain ⟨as, ra⟩ := r.reads (fun a o q => H.fz a o q) 9 hd
  obtain ⟨bs, rb⟩ := r'.reads (fun a o q => H.fz a o q) 9 he
  exact eq_dataH ra rb (shaped_dat hd (by decide)) (shaped_dat he (by decide)) hA.cmp (Post.now H (h _ ((kqd_eqv 9 _ _ 9 hd he).trans ⟨D.dat_inj d e 9 9 hd he, fun q => by rw [q]⟩)) rfl)
theorem Cmp.neD {d e : D} {Q : D → Mu → Prop} (hd : kqdOk 9 d.dat = true) (he : kqdOk 9 e.dat = true) (h : ∀ b, (b = true ↔ d ≠ e) → Q (.bool b) μ) : Cmp X n .NotEq d e μ Q := by
  rintro A F s va vb hA H r r'
  obtain ⟨as, ra⟩ := r.reads (fun a o q => H.fz a o q) 9 hd
  obtain ⟨bs, rb⟩ := r'.reads (fun a o q => H.fz a o q) 9 he
  refine ne_dataH ra rb (shaped_dat hd (by decide)) (shaped_dat he (by decide)) hA.cmp (Post.now H (h _ ?_) rfl)
  have q := (kqd_eqv 9 _ _ 9 hd he).trans ⟨D.dat_inj d e 9 9 hd he, fun q => by rw [q]⟩
  rw [Bool.not_eq_true', ← Bool.not_eq_true, q]
/-- lists of plain data, frozen or own -/
theorem IsL.readsL {F : FZ} {s : Shared} {d : D} {l : List D} {v : Value} (hl : IsL μ d l) (H : HC X F μ s) (r : Rep F d v) (hk : ∀ x ∈ l, kqdOk 8 x.dat = true) : ∃ as, Reads s.heap v (kqdP (D.lst l).dat) as := by
  obtain ⟨a, vs, rfl, ⟨o, ho, hc, k, hd⟩, hr⟩ := hl.isList H r
  obtain ⟨as, q⟩ := hr.reads (fun a o q => H.fz a o q) 8 hk
  exact ⟨_, by rw [D.dat, kqdP]; exact reads_list_at ho hc hd q⟩
theorem Cmp.neL {d e : D} {l l' : List D} {Q : D → Mu → Prop} (hd : IsL μ d l) (he : IsL μ e l') (hk : ∀ x ∈ l, kqdOk 8 x.dat = true) (hk' : ∀ x ∈ l', kqdOk 8 x.dat = true) (h : ∀ b, (b = true ↔ l ≠ l') → Q (.bool b) μ) : Cmp X n .NotEq d e μ Q := by
  rintro A F s va vb hA H r r'
  obtain ⟨as, ra⟩ := hd.readsL H r hk
  obtain ⟨bs, rb⟩ := he.readsL H r' hk'
  have hd9 : kqdOk 9 (D.lst l).dat = true := by simpa [D.dat, kqdOk, D.dats_eq] using hk
  have he9 : kqdOk 9 (D.lst l').dat = true := by simpa [D.dat, kqdOk, D.dats_eq] using hk'
  refine ne_dataH ra rb (shaped_dat hd9 (by decide)) (shaped_dat he9 (by decide)) hA.cmp (Post.now H (h _ ?_) rfl)
  have q := (kqd_eqv 9 _ _ 9 hd9 he9).trans ⟨fun q => D.lst.inj (D.dat_inj _ _ 9 9 hd9 he9 q), fun q => by rw [q]⟩
  rw [Bool.not_eq_true', ← Bool.not_eq_true, q]

/- is -/
theorem Cmp.isSelf {a : Addr} {Q : D → Mu → Prop} (h : Q (.bool true) μ) : Cmp X n .Is (.raw (.ref a)) (.raw (.ref a)) μ Q := by
  rintro A F s _ _ hA H rfl rfl; exact wpAny_is_ref_self (Post.now H h rfl)
/-- a tuple or list against another object of the module -/
theorem Cmp.isOther {d : D} {b : Addr} {ob : Obj} {Q : D → Mu → Prop} (hd : (∃ l, d = .tup l) ∨ ∃ l, d = .lst l) (hb : X.h₁.get? b = some ob) (ht : b ≠ X.tb) (hc : ob.cls ≠ .type "tuple") (hc' : ob.cls ≠ .type "list") (h : Q (.bool false) μ) :
    Cmp X n .Is d (.raw (.ref b)) μ Q := by
  rintro A F s _ _ hA H r rfl
  have hob := H.fz b ob (H.base b ob hb ht)
  have key : ∀ a oa, s.heap.get? a = some oa → oa.cls ≠ ob.cls → wpAny (model X.prog X.w) A (compareOp .Is (.ref a) (.ref b)) (Post X Q F μ s) Never s := fun a oa ha hne => by
    have hab : a ≠ b := by rintro rfl; rw [ha] at hob; cases hob; exact hne rfl
    show wpAny _ A (do return Value.bool (← isSame (.ref a) (.ref b))) _ _ s
    exact wpAny_bind (SeqAt.wpAny_isSame_ref_other' hab ha hob hc (wpAny_pure (Post.now H h rfl)))
  rcases hd with ⟨l, rfl⟩ | ⟨l, rfl⟩
  · obtain ⟨a, o, vs, k, rfl, hf, hcl, _⟩ := r
    exact key a o (H.fz a o hf) (by rw [hcl]; exact Ne.symm hc)
  · obtain ⟨a, o, vs, k, rfl, hf, hcl, _⟩ := r
    exact key a o (H.fz a o hf) (by rw [hcl]; exact Ne.symm hc')
theorem Cmp.isNone {Q : D → Mu → Prop} (h : Q (.bool true) μ) : Cmp X n .Is .none .none μ Q := by
  rintro A F s _ _ hA H rfl rfl; exact wpAny_is_self rfl (Post.now H h rfl)
theorem Cmp.isNoneInt {i : Int} {Q : D → Mu → Prop} (h : Q (.bool false) μ) : Cmp X n .Is (.int i) .none μ Q := by
  rintro A F s _ _ hA H ⟨t, rfl⟩ rfl; exact wpAny_is_other rfl (by intro q; cases q) (Post.now H h rfl)
theorem Cmp.isNotNone {Q : D → Mu → Prop} (h : Q (.bool false) μ) : Cmp X n .IsNot .none .none μ Q := by
  rintro A F s _ _ hA H rfl rfl; exact wpAny_isNot_self rfl (Post.now H h rfl)
theorem Cmp.isNotNoneInt {i : Int} {Q : D → Mu → Prop} (h : Q (.bool true) μ) : Cmp X n .IsNot (.int i) .none μ Q := by
  rintro A F s _ _ hA H ⟨t, rfl⟩ rfl; exact wpAny_isNot_other rfl (by intro q; cases q) (Post.now H h rfl)
end Lay

/- part Lay12 -/
open PySem PySem.W PyProof.Rows
set_option Elab.async false
set_option linter.unusedVariables false
set_option maxRecDepth 100000
namespace Lay
variable {X : Cx} {n : Nat} {env : Env} {ρ : Rho} {μ : Mu}

theorem Itr.listAt {F : FZ} {it la : Addr} {ol : Obj} {vs : Array Value} {k i₀ : Nat} {ds : List D} (hF : F la = some ol) (hc : ol.cls = .type "list") (hd : ol.data = .seq vs k) (hne : F it = none) (hr : Reps F ds (vs.toList.drop i₀)) :
    Itr X F it ds (fun i h => h.IsListIter it la (i₀ + i) ∧ h.IsList la vs) where
  live := fun i h ⟨⟨o, ho, _⟩, _⟩ => ⟨o, ho⟩
  frame := fun i h h' ⟨⟨o, ho, r⟩, _⟩ hk hf => ⟨⟨o, hk o ho, r⟩, ⟨ol, hf la ol hF, hc, k, hd⟩⟩
  item := fun A i s d Q E hA st hf hi hQ => by
    obtain ⟨v, hv, rv⟩ := hr.get hi
    rw [List.getElem?_drop] at hv
    refine wpAny_pyNext_list_item st.1 st.2 (x := v) (by simpa using hv) fun h' hit hs => ?_
    have hk : ∀ b o, b ≠ it → s.heap.get? b = some o → h'.get? b = some o := fun b o hb e => hs.extBut b o hb e
    exact hQ v h' s.toks rv ⟨hit, ⟨ol, hk la ol (by rintro rfl; rw [hne] at hF; cases hF) (hf la ol hF), hc, k, hd⟩⟩ hk
  done := fun A s Q E hA st hf hQ => wpAny_pyNext_list_end hA st.1 st.2 (by
    have e := hr.length
    rw [List.length_drop, Array.length_toList] at e
    rw [Array.getElem?_eq_none_iff]; omega) fun h' he => hQ h' s.toks fun b o hb e => he b o hb e
  self := fun A i s Q E st hQ => wpAny_pyIter_listiter st.1 hQ
  go := fun A i s t v Q E st hQ => by obtain ⟨⟨o, ho, hcc, hdd⟩, _⟩ := st; exact go_quiet ho hcc hdd (by decide) hQ
theorem CellRep.itr {F : FZ} {s : Shared} {a : Addr} {l : List D} {o : Obj} (H : HC X F μ s) (hF : F a = none) (ho : s.heap.get? a = some o) (h : CellRep F (.iter l) o) : ∃ St, Itr X F a l St ∧ St 0 s.heap := by
  rcases h with ⟨la, ol, i, vs, k, h1, h2, h3, h4, h5, h6⟩ | ⟨x, k, rfl, rfl⟩
  · exact ⟨_, Itr.listAt h3 h4 h5 hF h6, ⟨o, ho, h1, h2⟩, ⟨ol, H.fz la ol h3, h4, k, h5⟩⟩
  · refine ⟨_, Itr.range, Nat.zero_le _, ?_⟩
    show Heap.get? _ _ = _
    rw [ho]; simp [rawInt]
theorem HC.del {F : FZ} {s : Shared} (H : HC X F μ s) (a : Addr) : HC X F (mdel μ a) s := by
  refine ⟨H.fz, H.base, fun b c e => H.cell b c ?_, H.old, H.gens, H.os⟩
  unfold mdel at e
  split at e
  · cases e
  · exact e
theorem Step.del {W : Addr → Prop} (F : FZ) (μ : Mu) (s : Shared) (a : Addr) : Step W F μ s F (mdel μ a) s :=
  ⟨.refl F, fun _ _ e _ _ => e, fun _ o e _ => ⟨o, e⟩, fun _ _ e => .inl e, fun b e => .inl (by unfold mdel at e; split at e <;> first | exact absurd rfl e | exact e)⟩
theorem VC.del {F : FZ} {s : Shared} (V : VC X F μ env ρ s) (a : Addr) : VC X F (mdel μ a) env ρ s := by
  have key : ∀ b, μ b = none → mdel μ a b = none := fun b e => by unfold mdel; split <;> first | rfl | exact e
  exact ⟨V.ns, V.cv, V.here, V.apart, ⟨V.lf.1, key _ V.lf.2.1, V.lf.2.2⟩, fun x c hx => ⟨(V.cf x c hx).1, key _ (V.cf x c hx).2.1, (V.cf x c hx).2.2⟩, V.kind⟩
/-- a for over an iterator that a name holds -/
theorem Ex1.forCell {target iter : Expr} {body : List Stmt} {pos : Pos} {N : Rho → Mu → Prop} {R : D → Mu → Prop}
    (h : Ev X n env iter ρ μ fun d μ₁ => ∃ a l, d = .raw (.ref a) ∧ μ₁ a = some (.iter l) ∧ a ≠ X.tb ∧ ForP X n env target body l ρ (mdel μ₁ a) N R) (hs : ∀ x, foldedSetIterable iter env x = pure x := by intro _; rfl) :
    Ex1 X n env (.For target iter body [] pos) ρ μ N R := fun A F s hA H V => by
  refine wpAny_For (wpAny_mono (h A F s hA H V) ?_ fun _ _ e => e) hs
  rintro v s₁ ⟨d, μ₁, F₁, ⟨a, l, rfl, hm, htb, hP⟩, rfl, H₁, S₁⟩
  have V₁ := V.step S₁
  obtain ⟨hF, hB, o, ho, hc⟩ := H₁.cell a _ hm
  have hB := hB.resolve_left htb
  obtain ⟨St, I, hst⟩ := hc.itr H₁ hF ho
  refine I.self A 0 s₁ _ _ hst ?_
  have hown : ∀ b, Uses env b → b ≠ a := fun b hb q => by
    subst q
    rcases hb with rfl | ⟨x, hx⟩
    · rw [V₁.lf.2.1] at hm; cases hm
    · rw [(V₁.cf x _ hx).2.1] at hm; cases hm
  exact For_run (Rc := fun r s' => match r with | .ok f => PostS X env N R F μ s f s' | .error e => cameBackBy (model X.prog X.w) A env Never e s') hA I (.inr (by rw [hm]; simp)) hown hB (fun f s' p => p.after S₁.own) (Nat.zero_le _) hP
    (H₁.del a) (V₁.del a) hst hF (by simp [mdel]) (.del ..)

/-- what iter() makes an own iterator of -/
def IterC (X : Cx) (μ : Mu) (d : D) (ds : List D) : Prop :=
  ∀ (A : Around) (F : FZ) (s : Shared) (v : Value) (Q : Value → Shared → Prop) (E : Value → Shared → Prop), A.handled = none → HC X F μ s → Rep F d v →
    (∀ h' o, (∀ b o, s.heap.get? b = some o → h'.get? b = some o) → h'.get? s.heap.objs.size = some o → CellRep F (.iter ds) o → Q (.ref s.heap.objs.size) { s with heap := h' }) → wpAny (model X.prog X.w) A (pyIter v) Q E s
theorem IterC.lst (l : List D) : IterC X μ (.lst l) l := fun A F s v Q E hA H r hQ => by
  obtain ⟨a, o, vs, k, rfl, hf, hc, hd, hr⟩ := r
  have hL : s.heap.IsList a vs := ⟨o, H.fz a o hf, hc, k, hd⟩
  exact wpAny_pyIter_list hL (hQ _ _ (fun b o e => Heap.get?_push_of_some _ e) (Heap.get?_push_size _ rfl) (.inl ⟨a, o, 0, vs, k, rfl, rfl, hf, hc, hd, hr⟩))
theorem IterC.rng {lo hi : Int} (h0 : -(2 ^ 60) ≤ lo) (h1 : hi ≤ 2 ^ 60) (h2 : lo ≤ 2 ^ 60) (h3 : -(2 ^ 60) ≤ hi) : IterC X μ (.rng lo hi) (intsFrom lo (hi - lo).toNat) := fun A F s v Q E hA H r hQ => by
  obtain ⟨a, t, u, k, rfl, hf⟩ := r
  have hz : Builtin.Range.rangeSize lo hi 1 = ((hi - lo).toNat : Int) := rangeSize_nat lo hi
  refine wpAny_pyIter_range (H.fz a _ hf) ?_ ?_
  · unfold Builtin.Range.small
    rw [hz]
    have fit : ∀ x : Int, -(2 ^ 62) ≤ x → x ≤ 2 ^ 62 → Builtin.Range.rangeFitsLong x = true := fun x q1 q2 => by
      unfold Builtin.Range.rangeFitsLong
      simp only [Bool.and_eq_true, decide_eq_true_eq]
      omega
    rw [fit lo (by omega) (by omega), fit hi (by omega) (by omega), fit 1 (by omega) (by omega), fit ((hi - lo).toNat : Int) (by omega) (by omega)]
    simp [fit hi (by omega) (by omega)]
  · rw [hz]
    exact hQ _ _ (fun b o e => Heap.get?_push_of_some _ e) (Heap.get?_push_size _ rfl) (.inr ⟨lo, _, rfl, rfl⟩)
theorem CallP.iter {d : D} {ds : List D} {Q : D → Mu → Prop} (hi : IterC X μ d ds) (htb : ∃ o, X.h₁.get? X.tb = some o) (h : ∀ a, μ a = none → a ≠ X.tb → Q (.raw (.ref a)) (mput μ a (.iter ds))) : CallP X n (.builtin "iter") [d] μ Q := by
  rintro A F s _ hA H ⟨v, _, rfl, r, rfl⟩
  refine Calls.call_function_entry (by decide +kernel) (by decide +kernel) kdk_entry_iter (kdk_args_iter _) ?_
  unfold Builtin.«iter»
  refine wpAny_bind (m := someArgs "iter" 1 2 _) (wpAny_of_eq (a := [v]) (by first | rfl | kernel_rfl!) ?_)
  show wpAny _ _ (pyIter v >>= _) _ _ _
  refine wpAny_bind (hi A.in1 F s v _ _ hA.1 H r fun h' o hk ho hc => ?_)
  obtain ⟨hF, hM, hB⟩ := H.none_of_fresh push_none
  obtain ⟨H', S'⟩ := H.cellNew (s' := { s with heap := h' }) (c := .iter ds) push_none ho hc hk rfl rfl
  exact wpAny_pure ⟨_, rfl, _, _, F, h _ hM (fun e => by obtain ⟨o, ho⟩ := htb; rw [e, ho] at hB; cases hB), rfl, H', S'⟩
theorem special_list {A : Around} {s : Shared} {it l : Addr} {i : Nat} {items : Array Value} {x : Value} {Q : Option Value → Shared → Prop} {E : Value → Shared → Prop} {prog : Program} {w : World} (hit : s.heap.IsListIter it l i)
    (hl : s.heap.IsList l items) (hx : items[i]? = some x) (hQ : ∀ h', h'.IsListIter it l (i + 1) → Heap.SameBut it s.heap h' → Q (some x) { s with heap := h' }) :
    wpAny (model prog w) A (callSpecial? (.ref it) (Str.ofString "__next__")) Q E s := by
  obtain ⟨o, ho, hc, hd⟩ := id hit
  obtain ⟨ol, hol, _, nl, hdl⟩ := hl
  refine wpAny_callSpecial?_slot (name := Str.ofString "__next__") hit.typeIs slot_listiter_next (wpAny_call_entry slot_listiter_next hit.typeIs entry_listiter_next ?_ (args_listiter_next _))
  show wpAny _ _ (field (.ref it) 0 >>= _) _ _ s
  refine wpAny_bind (wpAny_field ho hd (x := .ref l) rfl ?_)
  show wpAny _ _ (if (Value.ref l == Value.none) = true then _ else _) _ _ s
  rw [if_neg (show ¬ ((Value.ref l == Value.none) = true) from Bool.false_ne_true)]
  show wpAny _ _ (field (.ref it) 1 >>= _) _ _ s
  refine wpAny_bind (wpAny_field ho hd (x := .int i 0) rfl ?_)
  show wpAny _ _ (seqItems? (.ref l) >>= _) _ _ s
  refine wpAny_bind (wpAny_seqItems hol hdl ?_)
  simp only [Int.toNat_natCast, hx]
  refine wpAny_bind (wpAny_setField ho hd (by simp) (wpAny_pure ⟨x, rfl, hQ _ ?_ (Heap.SameBut.update ..)⟩))
  exact ⟨_, Heap.get?_update_self _ ho (Obj.isFreed_of_fields (Obj.data_mapFields hd _)), (Obj.cls_mapFields ..).trans hc, by rw [Obj.data_mapFields hd]; simp [rawInt]⟩
/-- next() of an own iterator over a list -/
theorem CallP.next {a : Addr} {d : D} {l : List D} {Q : D → Mu → Prop} (hm : μ a = some (.iter (d :: l))) (htb : a ≠ X.tb) (hlst : ∀ x, d ≠ .int x) (h : Q d (mput μ a (.iter l))) : CallP X n (.builtin "next") [.raw (.ref a)] μ Q := by
  rintro A F s _ hA H ⟨_, _, rfl, rfl, rfl⟩
  obtain ⟨hF, hB, o, ho, hc⟩ := H.cell a _ hm
  rcases hc with ⟨la, ol, i, vs, k, h1, h2, h3, h4, h5, h6⟩ | ⟨x, k, rfl, e⟩
  · have hit : s.heap.IsListIter a la i := ⟨o, ho, h1, h2⟩
    have hL : s.heap.IsList la vs := ⟨ol, H.fz la ol h3, h4, k, h5⟩
    obtain ⟨v, hv, rv⟩ := h6.get (i := 0) rfl
    rw [List.getElem?_drop] at hv
    refine Calls.call_function_entry (by decide +kernel) (by decide +kernel) kdk_entry_next (kdk_args_next _) ?_
    unfold Builtin.«next»
    refine wpAny_bind (m := someArgs "next" 1 2 _) (wpAny_of_eq (a := [Value.ref a]) (by first | rfl | kernel_rfl!) ?_)
    dsimp only
    refine wpAny_bind (wpAny_specialOf (name := Str.ofString "__next__") hit.typeIs slot_listiter_next.lookup ?_)
    refine wpAny_ite_split (fun hab => absurd hab (by decide)) (fun _ => ?_)
    refine wpAny_bind (special_list hit hL (x := v) (by simpa using hv) fun h' hit' hs => ?_)
    obtain ⟨o', ho', hc', hd'⟩ := hit'
    have hrep : CellRep F (.iter l) o' := .inl ⟨la, ol, i + 1, vs, k, hc', hd', h3, h4, h5, by have := h6.drop 1; simpa [List.drop_drop, Nat.add_comm] using this⟩
    obtain ⟨H', S'⟩ := H.cellSet (s' := { s with heap := h' }) hm htb ho' hrep (fun b o hb e => hs.extBut b o hb e) rfl rfl
    exact wpAny_pure ⟨_, rfl, d, _, F, h, rv, H', S'⟩
  · cases k with
    | zero => cases e
    | succ k => rw [intsFrom] at e; exact absurd (List.cons.inj e).1 (hlst x)

/- try, when nothing is raised -/
theorem Ex1.try {body : List Stmt} {h₀ : ExceptHandler} {hs : List ExceptHandler} {pos : Pos} {N : Rho → Mu → Prop} {R : D → Mu → Prop} (h : Ex X n env body ρ μ N R) : Ex1 X n env (.Try body (h₀ :: hs) [] [] pos) ρ μ N R := fun A F s hA H V => by
  refine wpAny_Try_except (wpAny_mono (h A F s hA H V) ?_ fun _ _ e => e.elim)
  rintro f s' p
  cases f with
  | next => exact wpAny_execs_nil p
  | ret v => exact p
  | brk => exact p.elim
  | cont => exact p.elim
end Lay

/- part Lay13 -/
open PySem PySem.W PyProof.Rows
set_option Elab.async false
set_option linter.unusedVariables false
set_option maxRecDepth 100000
namespace Lay
variable {X : Cx} {n : Nat} {env : Env} {ρ : Rho} {μ : Mu}

/-- a name of the module or of the builtins, seen from a function -/
def GloF (X : Cx) (x : Str) (v : Value) : Prop := ∀ (env : Env) (A : Around) (s : Shared) (Q : Value → Shared → Prop) (E : Value → Shared → Prop), env.globals = mainGlobals → env.builtins = builtinsNs → Based X s.heap → Q v s → wpAny (model X.prog X.w) A (loadGlobal env x) Q E s
theorem Ns_based {m : Str → Option Value} {a : Addr} {h : Heap} (hn : X.h₁.Ns a m) (ht : a ≠ X.tb) (B : Based X h) : h.Ns a m := hn.at' fun o e => B a o e ht
theorem GloF.mod {x : Str} {v : Value} {mg : Str → Option Value} (hn : X.h₁.Ns mainGlobals mg) (ht : mainGlobals ≠ X.tb) (hv : mg x = some v) : GloF X x v := fun env A s Q E hg _ B h =>
  Calls.loadGlobal_global (by rw [hg]; exact Ns_based hn ht B) hv h
theorem GloF.boot {x : Str} {v : Value} {mg mb : Str → Option Value} (hn : X.h₁.Ns mainGlobals mg) (ht : mainGlobals ≠ X.tb) (hv : mg x = none) (hn' : X.h₁.Ns builtinsNs mb) (ht' : builtinsNs ≠ X.tb) (hv' : mb x = some v) : GloF X x v := fun env A s Q E hg hb B h =>
  Calls.loadGlobal_builtin (by rw [hg]; exact Ns_based hn ht B) hv (by rw [hb]; exact Ns_based hn' ht' B) hv' h
theorem Ev.glo {x : Str} {pos : Pos} {v : Value} {Q : D → Mu → Prop} (G : GloF X x v) (h : Q (.raw v) μ) (hk : env.kindOf x = some .globalImplicit := by rfl) (hs : env.scope.kind = .function := by rfl) (hg : env.globals = mainGlobals := by rfl)
    (hb : env.builtins = builtinsNs := by rfl) (hd : (x == ("__debug__" : Str)) = false := by decide) : Ev X n env (.Name x pos) ρ μ Q := fun A F s _ H V =>
  wpAny_Name (by rw [loadName_read hs hk]; exact G env A s _ _ hg hb H.based (Post.now H h rfl)) hd
def FoldP (X : Cx) (n : Nat) (f : Value) : List D → D → Mu → (D → Mu → Prop) → Prop
  | [], acc, μ, Q => Q acc μ
  | d :: ds, acc, μ, Q => CallP X n f [acc, d] μ fun acc' μ' => FoldP X n f ds acc' μ' Q
theorem mdel_mput {μ : Mu} {a : Addr} {c : Cell} (h : μ a = none) : mdel (mput μ a c) a = μ := by
  funext b
  unfold mdel mput
  split
  · rename_i q; subst q; exact h.symm
  · rfl
theorem mput_mput {μ : Mu} {a : Addr} {c c' : Cell} : mput (mput μ a c) a c' = mput μ a c' := by
  funext b
  unfold mput
  split <;> rfl
theorem mput_self {μ : Mu} {a : Addr} {c : Cell} : mput μ a c a = some c := by unfold mput; rw [if_pos rfl]
theorem mput_ne {μ : Mu} {a b : Addr} {c : Cell} (h : b ≠ a) : mput μ a c b = μ b := by unfold mput; rw [if_neg h]
theorem AsgL.more {t : Expr} {ts : List Expr} {d : D} {ds : List D} {Q : Rho → Mu → Prop} (h : AsgP X n env t d ρ μ fun ρ' μ' => AsgL X n env ts ds ρ' μ' Q) : AsgL X n env (t :: ts) (d :: ds) ρ μ Q := h
theorem AsgL.done {Q : Rho → Mu → Prop} (h : Q ρ μ) : AsgL X n env [] [] ρ μ Q := h
def isNm : Expr → Bool
  | .Name _ _ => true
  | _ => false
theorem names_each {ts : List Expr} (h : ts.all isNm = true) : ∀ t ∈ ts, ∀ rest, assignEach (t :: rest) env = (false, assign t env) :: assignEach rest env := fun t ht rest => by
  have q := List.all_eq_true.mp h t ht
  cases t <;> first | rfl | cases q
theorem Sub.ints {value slice : Expr} {o : D} {xs : List Int} {i : Int} {Q : D → Mu → Prop} (hl : IsL μ o (xs.map D.int)) (h0 : 0 ≤ i) (h1 : i < xs.length) (hz : xs.length ≤ 1000000) (h : Q (.int (xs.getD i.toNat 0)) μ)
    (hs : ∀ o i, subscripted slice false o i = operate [o, i] (getItem o i) := by intro _ _; with_unfolding_all rfl) : Sub X n value slice o (.int i) μ Q := by
  have hlt : i.toNat < xs.length := by omega
  have h2 : (2 : Int) ^ 63 = 9223372036854775808 := by decide
  exact Sub.list hl h0 (by omega) (d := .int (xs.getD i.toNat 0)) (by simp [List.getElem?_map, List.getElem?_eq_getElem hlt, List.getD]) h hs
theorem AsgP.mono {t : Expr} {d : D} {Q Q' : Rho → Mu → Prop} (x : AsgP X n env t d ρ μ Q) (h : ∀ ρ' μ', Q ρ' μ' → Q' ρ' μ') : AsgP X n env t d ρ μ Q' := fun A F s v hA H V r =>
  wpAny_mono (x A F s v hA H V r) (fun _ _ ⟨ρ', μ', F', q, r⟩ => ⟨ρ', μ', F', h _ _ q, r⟩) fun _ _ e => e
theorem Tr.mono {e : Expr} {Q Q' : Bool → Mu → Prop} (x : Tr X n env e ρ μ Q) (h : ∀ b μ', Q b μ' → Q' b μ') : Tr X n env e ρ μ Q' := fun A F s hA H V =>
  wpAny_mono (x A F s hA H V) (fun _ _ ⟨μ', F', q, r⟩ => ⟨μ', F', h _ _ q, r⟩) fun _ _ e => e
theorem TrA.mono {Q Q' : Bool → Mu → Prop} (h : ∀ b μ', Q b μ' → Q' b μ') : ∀ {cs : List Expr} {μ : Mu}, TrA X n env cs ρ μ Q → TrA X n env cs ρ μ Q'
  | [], μ, x => h _ _ x
  | c :: cs, μ, x => Tr.mono x fun b μ' q => by
    cases b with
    | true => simpa using TrA.mono h (by simpa using q)
    | false => simpa using h _ _ (by simpa using q)
theorem TrA.none {Q : Bool → Mu → Prop} (h : Q true μ) : TrA X n env [] ρ μ Q := h
theorem TrA.one {c : Expr} {Q : Bool → Mu → Prop} (h : Tr X n env c ρ μ Q) : TrA X n env [c] ρ μ Q := Tr.mono h fun b μ' q => by cases b <;> simpa [TrA] using q
/-- a comprehension whose turns write nothing -/
theorem CompP.pure {target elt : Expr} {ifs : List Expr} {Q : List D → Mu → Prop} (g : D → Option D) : ∀ {ds acc : List D}, (∀ d ∈ ds, AsgP X n env target d ρ μ fun ρ₁ μ₁ => TrA X n env ifs ρ₁ μ₁ fun b μ₂ =>
      if b = true then Ev X n env elt ρ₁ μ₂ fun y μ₃ => g d = some y ∧ μ₃ = μ else g d = .none ∧ μ₂ = μ) → acc.length + ds.length ≤ 1000000 → Q (acc ++ ds.filterMap g) μ → CompP X n env target ifs elt ρ ds acc μ Q
  | [], acc, _, _, q => by simpa [CompP] using q
  | d :: ds, acc, h, hz, q => by
    rw [List.length_cons] at hz
    refine (h d (.head _)).mono fun ρ₁ μ₁ h₁ => TrA.mono (fun b μ₂ h₂ => ?_) h₁
    cases b with
    | true =>
      simp only [if_true] at h₂ ⊢
      refine h₂.mono fun y μ₃ ⟨e, hm⟩ => ?_
      rw [hm]
      refine ⟨by show acc.length ≤ _; omega, CompP.pure g (fun d hd => h d (.tail _ hd)) (by simp only [List.length_append, List.length_singleton]; omega) ?_⟩
      rw [List.filterMap_cons, e] at q
      simpa using q
    | false =>
      simp only [Bool.false_eq_true, if_false] at h₂ ⊢
      obtain ⟨e, hm⟩ := h₂
      rw [hm]
      refine CompP.pure g (fun d hd => h d (.tail _ hd)) (by omega) ?_
      rw [List.filterMap_cons, e] at q
      simpa using q
def onInt (f : Int → Int) : D → Option D
  | .int x => some (.int (f x))
  | _ => .none
theorem onInt_map (f : Int → Int) : ∀ xs : List Int, (xs.map D.int).filterMap (onInt f) = (xs.map f).map D.int
  | [] => rfl
  | x :: xs => by rw [List.map_cons, List.filterMap_cons]; simp [onInt, onInt_map f xs]
/-- a check that a comprehension's scope fits its function's -/
def compChk (sc scope : Scope) : Bool := (scope.kind == .function) && scope.names.all (fun x => x.2 != .cell && (x.2 != .free || sc.names.any fun y => y.1 == x.1 && y.2 == .cell) && (x.2 != .local || scope.names.lookup x.1 == some .local)) && decide (scope.names.map (·.1)).Nodup
theorem compOk {fd : FuncData} {L a : Addr} {scope : Scope} (h : compChk fd.scope scope = true) : CompOk (callEnvC fd L a) scope := by
  simp only [compChk, Bool.and_eq_true, beq_iff_eq, List.all_eq_true, decide_eq_true_eq] at h
  obtain ⟨⟨h1, h2⟩, h3⟩ := h
  refine ⟨h1, fun x hx hf => ?_, fun x hx => ?_, h3, fun x hx hl => ?_⟩
  · have q := (h2 x hx).1.2
    rw [hf] at q
    simp only [bne_self_eq_false, Bool.false_or, List.any_eq_true, Bool.and_eq_true, beq_iff_eq] at q
    obtain ⟨y, hy, e1, e2⟩ := q
    exact cellsFrom_some (.inr (by rw [← e1, ← e2]; exact hy))
  · have q := (h2 x hx).1.1
    simpa using q
  · have q := (h2 x hx).2
    rw [hl] at q
    simpa using q
theorem keptC {fd : FuncData} {L a : Addr} {x : Str} (h : fd.scope.names.lookup x = some .cell) : Kept (callEnvC fd L a) x := .inr ⟨h, cellsFrom_some (.inr (mem_of_lookup h)), rfl⟩
end Lay

/- part Lay14 -/
open PySem PySem.W PyProof.Rows
set_option Elab.async false
set_option linter.unusedVariables false
set_option maxRecDepth 100000
namespace Lay
variable {X : Cx} {n : Nat} {env : Env} {ρ : Rho} {μ : Mu}

theorem ForP.range {target : Expr} {body : List Stmt} {x : Int} {N : Nat} {Nx : Rho → Mu → Prop} {R : D → Mu → Prop} (I : Nat → Rho → Mu → Prop)
    (turn : ∀ k, k < N → ∀ ρ μ, I k ρ μ → AsgP X n env target (.int (x + k)) ρ μ fun ρ₁ μ₁ => Ex X n env body ρ₁ μ₁ (fun ρ₂ μ₂ => I (k + 1) ρ₂ μ₂) R) (fin : ∀ ρ μ, I N ρ μ → Nx ρ μ) (h₀ : I 0 ρ μ) : ForP X n env target body (intsFrom x N) ρ μ Nx R := by
  refine ForP.inv (fun pre post ρ μ => I pre.length ρ μ ∧ pre.length + post.length = N ∧ post = intsFrom (x + pre.length) (N - pre.length)) (fun pre d post ρ μ ⟨h, hz, hp⟩ => ?_) (fun pre ρ μ ⟨h, hz, _⟩ => fin _ _ (by simpa using (show pre.length = N by simpa using hz) ▸ h)) _ [] ρ μ ⟨h₀, by simp [intsFrom_length], by simp⟩
  rw [List.length_cons] at hz
  obtain ⟨j, hj⟩ : ∃ j, N - pre.length = j + 1 := ⟨N - pre.length - 1, by omega⟩
  rw [hj, intsFrom] at hp
  obtain ⟨rfl, hp'⟩ := List.cons.inj hp
  clear hp
  refine (turn pre.length (by omega) ρ μ h).mono fun ρ₁ μ₁ h₁ => h₁.mono (fun ρ₂ μ₂ h₂ => ⟨by simpa using h₂, by simp only [List.length_append, List.length_singleton]; omega, ?_⟩) fun _ _ q => q
  rw [hp', List.length_append, List.length_singleton]
  have e1 : N - (pre.length + 1) = j := by omega
  rw [e1]
  congr 1
  push_cast; omega
theorem ForP.range0 {target : Expr} {body : List Stmt} {N : Nat} {Nx : Rho → Mu → Prop} {R : D → Mu → Prop} (I : Nat → Rho → Mu → Prop)
    (turn : ∀ k, k < N → ∀ ρ μ, I k ρ μ → AsgP X n env target (.int k) ρ μ fun ρ₁ μ₁ => Ex X n env body ρ₁ μ₁ (fun ρ₂ μ₂ => I (k + 1) ρ₂ μ₂) R) (fin : ∀ ρ μ, I N ρ μ → Nx ρ μ) (h₀ : I 0 ρ μ) : ForP X n env target body (intsFrom 0 N) ρ μ Nx R :=
  .range I (fun k hk ρ μ h => by rw [Int.zero_add]; exact turn k hk ρ μ h) fin h₀
theorem ForP.each {target : Expr} {body : List Stmt} {l : List D} {Nx : Rho → Mu → Prop} {R : D → Mu → Prop} (I : List D → Rho → Mu → Prop)
    (turn : ∀ pre d post, l = pre ++ d :: post → ∀ ρ μ, I pre ρ μ → AsgP X n env target d ρ μ fun ρ₁ μ₁ => Ex X n env body ρ₁ μ₁ (fun ρ₂ μ₂ => I (pre ++ [d]) ρ₂ μ₂) R) (fin : ∀ ρ μ, I l ρ μ → Nx ρ μ) (h₀ : I [] ρ μ) : ForP X n env target body l ρ μ Nx R := by
  refine ForP.inv (fun pre post ρ μ => I pre ρ μ ∧ l = pre ++ post) (fun pre d post ρ μ ⟨h, hp⟩ => ?_) (fun pre ρ μ ⟨h, hp⟩ => fin _ _ (by rw [hp, List.append_nil]; exact h)) l [] ρ μ ⟨h₀, rfl⟩
  exact (turn pre d post hp ρ μ h).mono fun ρ₁ μ₁ h₁ => h₁.mono (fun ρ₂ μ₂ h₂ => ⟨h₂, by simpa using hp⟩) fun _ _ q => q
theorem ForP.eachM {α : Type} (f : α → D) {target : Expr} {body : List Stmt} {l : List α} {Nx : Rho → Mu → Prop} {R : D → Mu → Prop} (I : List α → Rho → Mu → Prop)
    (turn : ∀ pre x post, l = pre ++ x :: post → ∀ ρ μ, I pre ρ μ → AsgP X n env target (f x) ρ μ fun ρ₁ μ₁ => Ex X n env body ρ₁ μ₁ (fun ρ₂ μ₂ => I (pre ++ [x]) ρ₂ μ₂) R) (fin : ∀ ρ μ, I l ρ μ → Nx ρ μ) (h₀ : I [] ρ μ) : ForP X n env target body (l.map f) ρ μ Nx R := by
  have key : ∀ (post pre : List α) (ρ : Rho) (μ : Mu), l = pre ++ post → I pre ρ μ → ForP X n env target body (post.map f) ρ μ Nx R := by
    intro post
    induction post with
    | nil => exact fun pre ρ μ e h => fin _ _ (by rw [e, List.append_nil]; exact h)
    | cons x post ih =>
      intro pre ρ μ e h
      rw [List.map_cons]
      exact (turn pre x post e ρ μ h).mono fun ρ₁ μ₁ h₁ => h₁.mono (fun ρ₂ μ₂ h₂ => ih (pre ++ [x]) ρ₂ μ₂ (by simpa using e) h₂) fun _ _ q => q
  exact key l [] ρ μ rfl h₀
theorem Ex.del {ss : List Stmt} {N : Rho → Mu → Prop} {R : D → Mu → Prop} (a : Addr) (h : Ex X n env ss ρ (mdel μ a) N R) : Ex X n env ss ρ μ N R := fun A F s hA H V =>
  wpAny_mono (h A F s hA (H.del a) (V.del a)) (fun _ _ p => p.after (.del ..)) fun _ _ e => e
end Lay

/- part S1 -/
open PySem PySem.W PyProof.Rows
set_option Elab.async false
set_option linter.unusedVariables false
namespace Lay

/-- a strict weak order -/
structure SWO (lt : Nat → Nat → Bool) : Prop where
  asym : ∀ i j, lt i j = true → lt j i = false
  ntr : ∀ i j k, lt i j = false → lt j k = false → lt i k = false
variable {lt : Nat → Nat → Bool} {N : Nat}
theorem SWO.irr (O : SWO lt) (i : Nat) : lt i i = false := by
  cases h : lt i i with
  | false => rfl
  | true => rw [O.asym i i h] at h; cases h
theorem SWO.lt_le (O : SWO lt) {i j k : Nat} (h : lt i j = true) (h' : lt k j = false) : lt i k = true := by
  cases q : lt i k with
  | true => rfl
  | false => rw [O.ntr i k j q h'] at h; cases h
theorem SWO.le_lt (O : SWO lt) {i j k : Nat} (h : lt j i = false) (h' : lt j k = true) : lt i k = true := by
  cases q : lt i k with
  | true => rfl
  | false => rw [O.ntr j i k h q] at h'; cases h'
/-- the order, ties by place -/
def Lx (lt : Nat → Nat → Bool) (i j : Nat) : Prop := lt i j = true ∨ (lt j i = false ∧ i < j)
theorem Lx.le (O : SWO lt) {i j : Nat} (h : Lx lt i j) : lt j i = false := h.elim (O.asym i j) (·.1)
theorem Lx.asym (O : SWO lt) {i j : Nat} (h : Lx lt i j) (h' : Lx lt j i) : False := by
  have a := h.le O
  have b := h'.le O
  rcases h with h | h
  · rw [b] at h; cases h
  · rcases h' with h' | h'
    · rw [a] at h'; cases h'
    · omega

/-- what a run of questions comes to -/
def wl (lt : Nat → Nat → Bool) (N : Nat) {α : Type} : KasT α → (α → Prop) → Prop
  | .ret a, Q => Q a
  | .ask i j k, Q => i < N ∧ j < N ∧ wl lt N (k (lt i j)) Q
theorem wl_bind {α β : Type} {f : α → KasT β} {Q : β → Prop} : ∀ {t : KasT α}, wl lt N t (fun a => wl lt N (f a) Q) → wl lt N (t.bind f) Q
  | .ret _, h => h
  | .ask i j k, ⟨h1, h2, h3⟩ => ⟨h1, h2, wl_bind h3⟩
theorem wl_mono {α : Type} {Q Q' : α → Prop} (hq : ∀ a, Q a → Q' a) : ∀ {t : KasT α}, wl lt N t Q → wl lt N t Q'
  | .ret _, h => hq _ h
  | .ask i j k, ⟨h1, h2, h3⟩ => ⟨h1, h2, wl_mono hq h3⟩
theorem wl_run {α : Type} {cmp : Nat → Nat → (Bool → Shared → Prop) → Shared → Prop} {I : Shared → Prop} (hc : ∀ i j C s, i < N → j < N → I s → (∀ s', I s' → C (lt i j) s') → cmp i j C s) {Q₀ : α → Prop} :
    ∀ {t : KasT α} {Q : α → Shared → Prop} {s : Shared}, wl lt N t Q₀ → I s → (∀ a s', Q₀ a → I s' → Q a s') → t.kasWp cmp Q s
  | .ret _, Q, s, h, hi, hq => hq _ _ h hi
  | .ask i j k, Q, s, ⟨h1, h2, h3⟩, hi, hq => hc i j _ s h1 h2 hi fun s' hi' => wl_run hc h3 hi' hq

def G (p : Array Nat) (k : Nat) : Nat := p.getD k 0
theorem G_eq {p p' : Array Nat} {k k' : Nat} (h : p[k]? = p'[k']?) : G p k = G p' k' := by
  simp only [G, Array.getD_eq_getD_getElem?, h]
theorem rev_get {p : Array Nat} {i j : Nat} (hj : j ≤ p.size) (k : Nat) : G (kas_rev p i j) k = if i ≤ k ∧ k < j then G p (i + j - 1 - k) else G p k := by
  have e := getElem?_mirror_all (xs := p) (i := i) hj k
  unfold kas_rev
  split
  · rename_i h; rw [if_pos h] at e; exact G_eq e
  · rename_i h; rw [if_neg h] at e; exact G_eq e
theorem bub_get {p : Array Nat} {k l : Nat} (hk : k < p.size) (hl : l ≤ k) (i : Nat) : G (bubble p k (k - l)) i = if i = l then G p k else if l < i ∧ i ≤ k then G p (i - 1) else G p i := by
  have e := getElem?_bubble (xs := p) hk (k - l) (by omega) i
  have e1 : k - (k - l) = l := by omega
  rw [e1] at e
  by_cases h : i = l
  · rw [if_pos h] at e ⊢; exact G_eq e
  · rw [if_neg h] at e ⊢
    by_cases h' : l < i ∧ i ≤ k
    · rw [if_pos h'] at e ⊢; exact G_eq e
    · rw [if_neg h'] at e ⊢; exact G_eq e
/-- what lies behind n is untouched -/
structure Idt (N : Nat) (p : Array Nat) (n : Nat) : Prop where
  le : n ≤ N
  size : p.size = N
  perm : p.toList.Perm (List.range N)
  far : ∀ k, n ≤ k → k < N → G p k = k
  near : ∀ k, k < n → G p k < n
theorem Idt.lt' {p : Array Nat} {n : Nat} (h : Idt N p n) {k : Nat} (hk : k < N) : G p k < N := by
  rcases Nat.lt_or_ge k n with q | q
  · exact Nat.lt_of_lt_of_le (h.near k q) h.le
  · rw [h.far k q hk]; exact hk
theorem Idt.up {p : Array Nat} {n m : Nat} (h : Idt N p n) (hm : n ≤ m) (hN : m ≤ N) : Idt N p m := by
  refine ⟨hN, h.size, h.perm, fun k q => h.far k (by omega), fun k q => ?_⟩
  rcases Nat.lt_or_ge k n with q' | q'
  · exact Nat.lt_of_lt_of_le (h.near k q') hm
  · rw [h.far k q' (by omega)]; exact q
theorem Idt.rev {p : Array Nat} {n i : Nat} (h : Idt N p n) : Idt N (kas_rev p i n) n := by
  have hj : n ≤ p.size := by rw [h.size]; exact h.le
  refine ⟨h.le, (kas_rev_size i n).trans h.size, ((mirror_perm _ _ _ _).toList).trans h.perm, fun k q hk => ?_, fun k q => ?_⟩
  · rw [rev_get hj, if_neg (by omega)]; exact h.far k q hk
  · rw [rev_get hj]
    split
    · exact h.near _ (by omega)
    · exact h.near k q
def Srt (lt : Nat → Nat → Bool) (p : Array Nat) (n : Nat) : Prop := ∀ i j, i < j → j < n → Lx lt (G p i) (G p j)
def Dsc (lt : Nat → Nat → Bool) (p : Array Nat) (n : Nat) : Prop := ∀ i j, i < j → j < n → Lx lt (G p j) (G p i)
theorem asc_wl {p : Array Nat} (hb : ∀ k, k < N → G p k < N) : ∀ {f n : Nat} {Q : Nat → Prop}, 1 ≤ n → n + f ≤ N →
    (∀ m, n ≤ m → m ≤ n + f → (∀ i, n ≤ i → i < m → lt (G p i) (G p (i - 1)) = false) → (m = n + f ∨ lt (G p m) (G p (m - 1)) = true) → Q m) → wl lt N (kas_asc p f n) Q
  | 0, n, Q, h1, hn, h => h n (Nat.le_refl _) (Nat.le_refl _) (fun i a b => by omega) (.inl rfl)
  | f + 1, n, Q, h1, hn, h => by
    refine ⟨hb n (by omega), hb (n - 1) (by omega), ?_⟩
    cases q : lt (p.getD n 0) (p.getD (n - 1) 0) with
    | true =>
      simp only [if_true]
      exact h n (Nat.le_refl _) (by omega) (fun i a b => by omega) (.inr q)
    | false =>
      simp only [Bool.false_eq_true, if_false]
      refine asc_wl hb (by omega) (by omega) fun m a b c d => h m (by omega) (by omega) (fun i hi hm => ?_) (d.elim (fun e => .inl (by omega)) .inr)
      rcases Nat.lt_or_ge n i with hlt | hge
      · exact c i hlt hm
      · obtain rfl : i = n := by omega
        exact q
theorem Srt.ext (O : SWO lt) {p : Array Nat} {n m : Nat} (hI : Idt N p n) (h1 : 1 ≤ n) (hS : Srt lt p n) (hm : n ≤ m) (hmN : m ≤ N) (hadj : ∀ i, n ≤ i → i < m → lt (G p i) (G p (i - 1)) = false) : Srt lt p m := by
  have le : ∀ d i, n ≤ i + d + 1 → i + d + 1 < m → lt (G p (i + d + 1)) (G p i) = false := by
    intro d
    induction d with
    | zero => exact fun i a b => hadj (i + 1) a b
    | succ d ih =>
      intro i a b
      have s1 := hadj (i + (d + 1) + 1) a b
      have e : i + (d + 1) + 1 - 1 = i + d + 1 := by omega
      rw [e] at s1
      rcases Nat.lt_or_ge (i + d + 1) n with q | q
      · have := (hS i (i + d + 1) (by omega) q).le O
        exact O.ntr _ _ _ s1 this
      · exact O.ntr _ _ _ s1 (ih i q (by omega))
  intro i j hij hj
  rcases Nat.lt_or_ge j n with q | q
  · exact hS i j hij q
  · have hjj := hI.far j q (by omega)
    have hlt : G p i < G p j := by
      rw [hjj]
      rcases Nat.lt_or_ge i n with q' | q'
      · have := hI.near i q'; omega
      · rw [hI.far i q' (by omega)]; exact hij
    have := le (j - i - 1) i (by omega) (by omega)
    have e : i + (j - i - 1) + 1 = j := by omega
    rw [e] at this
    exact .inr ⟨this, hlt⟩

/-- while the run falls -/
structure Fal (lt : Nat → Nat → Bool) (N : Nat) (p : Array Nat) (n q : Nat) : Prop where
  id : Idt N p n
  hq : q + 1 ≤ n
  a : ∀ i j, i < j → j < n - (q + 1) → Lx lt (G p j) (G p i)
  b : ∀ i j, i < n - (q + 1) → n - (q + 1) ≤ j → j < n → lt (G p j) (G p i) = true
  c : ∀ i j, n - (q + 1) ≤ i → i < j → j < n → lt (G p i) (G p j) = false ∧ lt (G p j) (G p i) = false ∧ G p i < G p j
theorem Fal.dsc0 {p : Array Nat} {n : Nat} (h : Fal lt N p n 0) : Dsc lt p n := fun i j hij hj => by
  have := h.hq
  rcases Nat.lt_or_ge j (n - 1) with q | q
  · exact h.a i j hij (by omega)
  · exact .inl (h.b i j (by omega) (by omega) hj)
theorem Fal.dscR {p : Array Nat} {n q : Nat} (h : Fal lt N p n q) : Dsc lt (kas_rev p (n - (q + 1)) n) n := fun i j hij hj => by
  have hz : n ≤ p.size := by rw [h.id.size]; exact h.id.le
  have hq := h.hq
  rw [rev_get hz, rev_get hz]
  by_cases hi : n - (q + 1) ≤ i
  · rw [if_pos ⟨by omega, hj⟩, if_pos ⟨hi, by omega⟩]
    have := h.c (n - (q + 1) + n - 1 - j) (n - (q + 1) + n - 1 - i) (by omega) (by omega) (by omega)
    exact .inr ⟨this.2.1, this.2.2⟩
  · rw [if_neg (by omega : ¬ (n - (q + 1) ≤ i ∧ i < n))]
    split
    · exact .inl (h.b i _ (by omega) (by omega) (by omega))
    · exact h.a i j hij (by omega)
theorem Fal.low (O : SWO lt) {p : Array Nat} {n q : Nat} (h : Fal lt N p n q) {i : Nat} (hi : i < n) : lt (G p i) (G p (n - 1)) = false := by
  have hq := h.hq
  by_cases hb : i < n - (q + 1)
  · exact O.asym _ _ (h.b i (n - 1) hb (by omega) (by omega))
  · rcases Nat.lt_or_ge i (n - 1) with q' | q'
    · exact (h.c i (n - 1) (by omega) q' (by omega)).1
    · obtain rfl : i = n - 1 := by omega
      exact O.irr _
theorem Fal.next (O : SWO lt) {p p' : Array Nat} {n q : Nat} (h : Fal lt N p n q) (hn : n < N) (hlt : lt (G p n) (G p (n - 1)) = true) (hI : Idt N p' n) (hD : Dsc lt p' n) (hp : ∀ i, i < n → ∃ i', i' < n ∧ G p' i = G p i') : Fal lt N p' (n + 1) 0 := by
  refine ⟨hI.up (by omega) (by omega), by omega, fun i j hij hj => hD i j hij (by omega), fun i j hi hj hj' => ?_, fun i j hi hij hj => by omega⟩
  obtain rfl : j = n := by omega
  obtain ⟨i', hi', e⟩ := hp i (by omega)
  rw [e, hI.far _ (Nat.le_refl _) hn, ← h.id.far _ (Nat.le_refl _) hn]
  exact O.lt_le hlt (h.low O hi')
theorem rev_src {p : Array Nat} {n b : Nat} (hz : n ≤ p.size) : ∀ i, i < n → ∃ i', i' < n ∧ G (kas_rev p b n) i = G p i' := fun i hi => by
  rw [rev_get hz]
  split
  · exact ⟨_, by omega, rfl⟩
  · exact ⟨i, hi, rfl⟩
theorem desc_wl (O : SWO lt) : ∀ {f : Nat} {p : Array Nat} {n q : Nat} {Q : Array Nat × Nat × Nat → Prop}, Fal lt N p n q → n + f = N → (∀ p' n' q', Fal lt N p' n' q' → Q (p', n', q')) → wl lt N (kas_desc f p n q) Q
  | 0, p, n, q, Q, h, hf, hq => hq p n q h
  | f + 1, p, n, q, Q, h, hf, hq => by
    have hz : n ≤ p.size := by rw [h.id.size]; exact h.id.le
    have h1 := h.hq
    refine ⟨h.id.lt' (by omega), h.id.lt' (by omega), ?_⟩
    cases e : lt (p.getD n 0) (p.getD (n - 1) 0) with
    | true =>
      simp only [if_true]
      split
      · exact desc_wl O (h.next O (by omega) e h.id.rev h.dscR (rev_src hz)) (by omega) hq
      · rename_i hq0
        obtain rfl : q = 0 := by omega
        exact desc_wl O (h.next O (by omega) e h.id h.dsc0 fun i hi => ⟨i, hi, rfl⟩) (by omega) hq
    | false =>
      simp only [Bool.false_eq_true, if_false]
      refine ⟨h.id.lt' (by omega), h.id.lt' (by omega), ?_⟩
      cases e' : lt (p.getD (n - 1) 0) (p.getD n 0) with
      | true =>
        simp only [if_true]
        exact hq p n q h
      | false =>
        simp only [Bool.false_eq_true, if_false]
        refine desc_wl O ⟨h.id.up (by omega) (by omega), by omega, fun i j hij hj => h.a i j hij (by omega), fun i j hi hj hj' => ?_, fun i j hi hij hj => ?_⟩ (by omega) hq
        · rcases Nat.lt_or_ge j n with hlt | hge
          · exact h.b i j (by omega) (by omega) hlt
          · obtain rfl : j = n := by omega
            exact O.le_lt e' (h.b i (j - 1) (by omega) (by omega) (by omega))
        · rcases Nat.lt_or_ge j n with hlt | hge
          · exact h.c i j (by omega) hij hlt
          · obtain rfl : j = n := by omega
            have hj := h.id.far j (Nat.le_refl _) (by omega)
            have hi' := h.id.near i hij
            have low := h.low O hij
            have high : lt (G p (j - 1)) (G p i) = false := by
              rcases Nat.lt_or_ge i (j - 1) with a | a
              · exact (h.c i (j - 1) (by omega) a (by omega)).2.1
              · obtain rfl : i = j - 1 := by omega
                exact O.irr _
            exact ⟨O.ntr _ _ _ low e', O.ntr _ _ _ e high, by omega⟩
def Run (lt : Nat → Nat → Bool) (N : Nat) (r : Nat × Array Nat) : Prop := 1 ≤ r.1 ∧ r.1 ≤ N ∧ Idt N r.2 r.1 ∧ Srt lt r.2 r.1
theorem tail3_wl (O : SWO lt) {n : Nat} {p : Array Nat} (h1 : 1 ≤ n) (hI : Idt N p n) (hD : Dsc lt p n) : wl lt N (kas_tail3 n N p) (Run lt N) := by
  have hz : n ≤ p.size := by rw [hI.size]; exact hI.le
  have hI' := hI.rev (i := 0)
  have hS : Srt lt (kas_rev p 0 n) n := fun i j hij hj => by
    rw [rev_get hz, rev_get hz, if_pos (by omega), if_pos (by omega)]
    exact hD _ _ (by omega) (by omega)
  have hle := hI.le
  refine wl_bind (asc_wl (fun k hk => hI'.lt' hk) h1 (by omega) fun m a b c _ => ?_)
  exact ⟨by show 1 ≤ m; omega, by show m ≤ N; omega, hI'.up a (by omega), hS.ext O hI' h1 a (by omega) c⟩
theorem descPart_wl (O : SWO lt) {n : Nat} {p : Array Nat} (h : Fal lt N p (n + 1) 0) : wl lt N (kas_descPart n N p) (Run lt N) := by
  have hle := h.id.le
  refine wl_bind (desc_wl O h (by omega) fun p' n' q' h' => ?_)
  have hq := h'.hq
  show wl lt N (if q' > 0 then _ else _) _
  split
  · exact tail3_wl O (by show 1 ≤ n'; omega) h'.id.rev h'.dscR
  · rename_i q0
    obtain rfl : q' = 0 := by omega
    exact tail3_wl O (by show 1 ≤ n'; omega) h'.id h'.dsc0
theorem range_G {k : Nat} (hk : k < N) : G (List.toArray (List.range N)) k = k := by
  simp [G, hk]
theorem count_wl (O : SWO lt) (h1 : 1 ≤ N) : wl lt N (kas_count N (List.toArray (List.range N))) (Run lt N) := by
  have hid : Idt N (List.toArray (List.range N)) 1 := ⟨h1, by simp, by simp, fun k _ hk => range_G hk, fun k hk => by
    obtain rfl : k = 0 := by omega
    rw [range_G h1]; omega⟩
  refine wl_bind (asc_wl (fun k hk => by rw [range_G hk]; exact hk) (Nat.le_refl _) (by omega) fun m a b c d => ?_)
  have hS : Srt lt (List.toArray (List.range N)) m := Srt.ext O hid (Nat.le_refl _) (fun i j hij hj => by omega) a (by omega) c
  have hI := hid.up a (by omega)
  split
  · rename_i e
    exact ⟨by show 1 ≤ m; omega, by show m ≤ N; omega, hI, hS⟩
  · rename_i hne
    have hne' : m ≠ N := by simpa using hne
    have hstop : lt m (m - 1) = true := by
      rcases d with d | d
      · omega
      · rwa [range_G (by omega), range_G (by omega)] at d
    split
    · rename_i hm1
      refine ⟨hI.lt' (by omega), hI.lt' (by omega), ?_⟩
      cases e : lt ((List.toArray (List.range N)).getD 0 0) ((List.toArray (List.range N)).getD (m - 1) 0) with
      | true =>
        simp only [if_true]
        exact ⟨by show 1 ≤ m; omega, by show m ≤ N; omega, hI, hS⟩
      | false =>
        simp only [Bool.false_eq_true, if_false]
        have e' : lt 0 (m - 1) = false := by
          have r1 := range_G (N := N) (k := 0) (by omega)
          have r2 := range_G (N := N) (k := m - 1) (by omega)
          simp only [G] at r1 r2
          rw [r1, r2] at e; exact e
        have le : ∀ i j, i < j → j < m → lt j i = false := fun i j hij hj => by
          have := (hS i j hij hj).le O
          rwa [range_G (by omega), range_G (by omega)] at this
        have le' : ∀ i j, i ≤ j → j < m → lt j i = false := fun i j hij hj => by
          rcases Nat.lt_or_ge i j with q | q
          · exact le i j q hj
          · obtain rfl : i = j := by omega
            exact O.irr _
        have eq : ∀ i j, i < m → j < m → lt i j = false := fun i j hi hj => O.ntr _ _ _ (le' 0 i (by omega) hi) (O.ntr _ _ _ e' (le' j (m - 1) (by omega) (by omega)))
        have hz : m ≤ (List.toArray (List.range N)).size := by simp; omega
        have g : ∀ i, i < m → G (kas_rev (List.toArray (List.range N)) 0 m) i = m - 1 - i := fun i hi => by
          rw [rev_get hz, if_pos (by omega), range_G (by omega)]; omega
        have g' : G (kas_rev (List.toArray (List.range N)) 0 m) m = m := by rw [rev_get hz, if_neg (by omega), range_G (by omega)]
        refine descPart_wl O ⟨(hI.rev).up (by omega) (by omega), by omega, fun i j hij hj => ?_, fun i j hi hj hj' => ?_, fun i j hi hij hj => by omega⟩
        · rw [g i (by omega), g j (by omega)]
          exact .inr ⟨eq _ _ (by omega) (by omega), by omega⟩
        · obtain rfl : j = m := by omega
          rw [g', g i (by omega)]
          exact O.lt_le hstop (eq _ _ (by omega) (by omega))
    · obtain rfl : m = 1 := by omega
      refine descPart_wl O ⟨hI.up (by omega) (by omega), by omega, fun i j hij hj => by omega, fun i j hi hj hj' => ?_, fun i j hi hij hj => by omega⟩
      obtain rfl : j = 1 := by omega
      obtain rfl : i = 0 := by omega
      rw [range_G (by omega), range_G (by omega)]
      exact hstop
theorem place_wl (O : SWO lt) {p : Array Nat} {k : Nat} (hk : k < N) (hI : Idt N p k) (hS : Srt lt p k) : ∀ {f l r : Nat} {Q : Nat → Prop}, l ≤ r → r ≤ k → r - l ≤ f → (∀ i, i < l → lt (G p k) (G p i) = false) → (∀ i, r ≤ i → i < k → lt (G p k) (G p i) = true) →
    (∀ m, m ≤ k → (∀ i, i < m → lt (G p k) (G p i) = false) → (∀ i, m ≤ i → i < k → lt (G p k) (G p i) = true) → Q m) → wl lt N (kas_place p k f l r) Q
  | 0, l, r, Q, hlr, hrk, hf, ha, hb, hQ => by
    obtain rfl : l = r := by omega
    exact hQ l hrk ha hb
  | f + 1, l, r, Q, hlr, hrk, hf, ha, hb, hQ => by
    unfold kas_place
    split
    · obtain rfl : l = r := by omega
      exact hQ l hrk ha hb
    · refine ⟨hI.lt' hk, hI.lt' (by omega), ?_⟩
      cases e : lt (p.getD k 0) (p.getD ((l + r) / 2) 0) with
      | true =>
        simp only [if_true]
        refine place_wl O hk hI hS (by omega) (by omega) (by omega) ha (fun i hi hi' => ?_) hQ
        rcases Nat.lt_or_ge ((l + r) / 2) i with q | q
        · exact O.lt_le e ((hS _ _ q hi').le O)
        · obtain rfl : i = (l + r) / 2 := by omega
          exact e
      | false =>
        simp only [Bool.false_eq_true, if_false]
        refine place_wl O hk hI hS (by omega) (by omega) (by omega) (fun i hi => ?_) hb hQ
        rcases Nat.lt_or_ge i ((l + r) / 2) with q | q
        · exact O.ntr _ _ _ e ((hS _ _ q (by omega)).le O)
        · obtain rfl : i = (l + r) / 2 := by omega
          exact e
theorem bin_wl (O : SWO lt) : ∀ {f : Nat} {p : Array Nat} {k : Nat}, k + f = N → Idt N p k → Srt lt p k → wl lt N (kas_bin f p k) (fun p' => Idt N p' N ∧ Srt lt p' N)
  | 0, p, k, hf, hI, hS => by
    obtain rfl : k = N := by omega
    exact ⟨hI, hS⟩
  | f + 1, p, k, hf, hI, hS => by
    have hk : k < N := by omega
    have hz : k < p.size := by rw [hI.size]; exact hk
    refine wl_bind (place_wl O hk hI hS (Nat.zero_le _) (Nat.le_refl _) (by omega) (fun i hi => by omega) (fun i hi hi' => by omega) fun m hm ha hb => ?_)
    have hkk := hI.far k (Nat.le_refl _) hk
    refine bin_wl O (by omega) ⟨by omega, (bubble_size _ _ _).trans hI.size, ((bubble_perm _ _ _).toList).trans hI.perm, fun i hi hi' => ?_, fun i hi => ?_⟩ fun i j hij hj => ?_
    · rw [bub_get hz hm, if_neg (by omega), if_neg (by omega)]
      exact hI.far i (by omega) hi'
    · rw [bub_get hz hm]
      split
      · rw [hkk]; omega
      · split
        · have := hI.near (i - 1) (by omega); omega
        · have := hI.near i (by omega); omega
    · rw [bub_get hz hm, bub_get hz hm]
      by_cases hjm : j = m
      · rw [if_pos hjm, if_neg (by omega), if_neg (by omega)]
        exact .inr ⟨ha i (by omega), by rw [hkk]; exact hI.near i (by omega)⟩
      · rw [if_neg hjm]
        by_cases him : i = m
        · rw [if_pos him, if_pos (by omega)]
          exact .inl (hb (j - 1) (by omega) (by omega))
        · rw [if_neg him]
          by_cases hj2 : m < j
          · rw [if_pos (show m < j ∧ j ≤ k from ⟨hj2, by omega⟩)]
            by_cases hi2 : m < i
            · rw [if_pos (show m < i ∧ i ≤ k from ⟨hi2, by omega⟩)]; exact hS _ _ (by omega) (by omega)
            · rw [if_neg (show ¬ (m < i ∧ i ≤ k) from fun q => hi2 q.1)]; exact hS _ _ (by omega) (by omega)
          · rw [if_neg (show ¬ (m < j ∧ j ≤ k) from fun q => hj2 q.1), if_neg (show ¬ (m < i ∧ i ≤ k) by omega)]; exact hS _ _ hij (by omega)
/-- the sort is stable -/
theorem sort_wl (O : SWO lt) (h1 : 1 ≤ N) : wl lt N (kas_sort N) (fun p => p.toList.Perm (List.range N) ∧ p.toList.Pairwise (Lx lt)) := by
  have fin : ∀ p : Array Nat, Idt N p N → Srt lt p N → p.toList.Perm (List.range N) ∧ p.toList.Pairwise (Lx lt) := fun p hI hS => by
    refine ⟨hI.perm, List.pairwise_iff_getElem.mpr fun i j hi hj hij => ?_⟩
    have hz := hI.size
    simp only [Array.length_toList] at hi hj
    have := hS i j hij (by omega)
    simpa [G, hi, hj] using this
  refine wl_bind (wl_mono (fun r hr => ?_) (count_wl O h1))
  obtain ⟨m, p⟩ := r
  obtain ⟨a, b, c, d⟩ := hr
  dsimp only at a b c d ⊢
  split
  · have e : max m 1 = m := by omega
    rw [e]
    exact wl_mono (fun p hp => fin p hp.1 hp.2) (bin_wl O (by omega) c d)
  · obtain rfl : m = N := by omega
    exact fin p c d
end Lay

/- part S2 -/
open PySem PySem.W PyProof.Rows
set_option Elab.async false
set_option linter.unusedVariables false
set_option maxRecDepth 100000
namespace Lay
variable {X : Cx} {n : Nat} {env : Env} {ρ : Rho} {μ : Mu}

/-- an object of a builtin that runs -/
structure Tmp (X : Cx) (F : FZ) (μ : Mu) (s : Shared) (a : Addr) (o : Obj) : Prop where
  F : F a = none
  M : μ a = none
  B : X.h₁.get? a = none
  at' : s.heap.get? a = some o
theorem Tmp.step {F F' : FZ} {μ' : Mu} {s s' : Shared} {a : Addr} {o : Obj} (T : Tmp X F μ s a o) (S : Step No F μ s F' μ' s') : Tmp X F' μ' s' a o :=
  let ⟨h1, h2⟩ := S.apart T.at' T.F T.M; ⟨h1, h2, T.B, S.keep a o T.at' T.M id⟩
theorem Tmp.other {F : FZ} {s s' : Shared} {a b : Addr} {o : Obj} (T : Tmp X F μ s a o) (hne : a ≠ b) (hk : ∀ c o, c ≠ b → s.heap.get? c = some o → s'.heap.get? c = some o) : Tmp X F μ s' a o :=
  ⟨T.F, T.M, T.B, hk a o hne T.at'⟩
theorem same_but {h h' : Heap} {a : Addr} (hs : Heap.SameBut a h h') : ∀ b o, b ≠ a → h.get? b = some o → h'.get? b = some o := fun b o hb e => hs.extBut b o hb e
theorem Reps.pick {F : FZ} {ds : List D} {vs : List Value} (r : Reps F ds vs) : ∀ {is : List Nat}, (∀ i ∈ is, i < ds.length) → Reps F (is.map fun i => ds.getD i .none) (is.map fun i => vs.getD i Value.none)
  | [], _ => rfl
  | i :: is, h => by
    have hi := h i (.head _)
    obtain ⟨v, hv, rv⟩ := r.get (i := i) (d := ds[i]) (by simp [hi])
    refine ⟨_, _, rfl, ?_, r.pick fun j hj => h j (.tail _ hj)⟩
    simp only [List.getD, List.getElem?_eq_getElem hi, hv, Option.getD_some]
    exact rv
def CmpK (X : Cx) (n : Nat) (ks : List D) (μ : Mu) (lt : Nat → Nat → Bool) : Prop :=
  ∀ A F s vs, AOk n A → HC X F μ s → Reps F ks vs → wpAny (model X.prog X.w) A (keyKind' vs.toArray) (fun κ s₁ => s₁ = s ∧ ∀ i j, i < ks.length → j < ks.length → ∀ F₂ s₂, HC X F₂ μ s₂ → FLe F F₂ →
    wpAny (model X.prog X.w) A (keyLt' κ (vs.getD i Value.none) (vs.getD j Value.none)) (PostB X (fun b μ' => b = lt i j ∧ μ' = μ) F₂ μ s₂) Never s₂) Never s
def Sorted (lt : Nat → Nat → Bool) (k : Nat) (p : List Nat) : Prop := p.Perm (List.range k) ∧ p.Pairwise (Lx lt)
theorem Sorted.lt {lt : Nat → Nat → Bool} {k : Nat} {p : List Nat} (h : Sorted lt k p) : ∀ i ∈ p, i < k := fun i hi => by simpa using h.1.mem_iff.mp hi

/-- the sort itself, between the two ends of list.sort -/
theorem sort_core {A : Around} {F : FZ} {s : Shared} {ks : List D} {vks vs : List Value} {lt : Nat → Nat → Bool} {R : SortSt → Shared → Prop} {E : Value → Shared → Prop} {T : List (Addr × Obj)} (hA : AOk n A) (H : HC X F μ s) (r : Reps F ks vks) (hl : vks.length = vs.length) (h2 : 2 ≤ vs.length) (h64 : vs.length < 64)
    (O : SWO lt) (hc : CmpK X n ks μ lt) (hT : ∀ t ∈ T, Tmp X F μ s t.1 t.2)
    (h : ∀ st p F' s', Sorted lt vs.length p → (arrOf st).map (·.2) = List.toArray (p.map fun i => vs.getD i Value.none) → failedOf st = none → HC X F' μ s' → Step No F μ s F' μ s' → (∀ t ∈ T, Tmp X F' μ s' t.1 t.2) → R st s') :
    wpAny (model X.prog X.w) A (keyKind' vks.toArray) (fun κ s₁ => wpAny (model X.prog X.w) A ((sortRuns').run (SortSt.mk' κ (vks.toArray.zip vs.toArray) #[] 7 none)) (fun r s' => R r.2 s') E s₁) Never s := by
  have hk : ks.length = vs.length := by rw [← hl, r.length]
  refine wpAny_mono (hc A F s vks hA H r) ?_ fun _ _ e => e
  rintro κ s₁ ⟨rfl, hcmp⟩
  refine kat_run (G := fun p s' => Sorted lt vs.length p.toList ∧ ∃ F', HC X F' μ s' ∧ Step No F μ s₁ F' μ s' ∧ ∀ t ∈ T, Tmp X F' μ s' t.1 t.2) hl h2 h64 (fun p st' s' hz har hf hg => ?_) ?_
  · obtain ⟨hs, F', H', S', T'⟩ := hg
    exact h st' p.toList F' s' hs (kat_snds hl har) hf H' S' T'
  · refine wl_run (lt := lt) (N := vs.length) (I := fun s' => ∃ F', HC X F' μ s' ∧ Step No F μ s₁ F' μ s' ∧ ∀ t ∈ T, Tmp X F' μ s' t.1 t.2) (fun i j C s₂ hi hj hI hC => ?_) (sort_wl O (by omega)) ⟨F, H, .refl .., hT⟩ fun p s' hp hI => ⟨hp, hI⟩
    obtain ⟨F₂, H₂, S₂, T₂⟩ := hI
    refine wpAny_mono (hcmp i j (by omega) (by omega) F₂ s₂ H₂ S₂.le) ?_ fun _ _ e => e
    rintro b s₃ ⟨μ₃, F₃, ⟨rfl, rfl⟩, H₃, S₃⟩
    exact hC s₃ ⟨F₃, H₃, S₂.trans S₃, fun t ht => (T₂ t ht).step S₃⟩

theorem CallP.sorted {d : D} {l : List D} {lt : Nat → Nat → Bool} {Q : D → Mu → Prop} (hl : IsL μ d l) (h2 : 2 ≤ l.length) (h64 : l.length < 64) (O : SWO lt) (hc : CmpK X n l μ lt)
    (h : ∀ p, Sorted lt l.length p → Q (.lst (p.map fun i => l.getD i .none)) μ) : CallP X (n + 2) (.builtin "sorted") [d] μ Q := by
  rintro A F s _ hA H ⟨v, _, rfl, r, rfl⟩
  obtain ⟨a, arr, rfl, hL, hr⟩ := hl.isList H r
  obtain ⟨vs, rfl⟩ : ∃ vs : List Value, arr = vs.toArray := ⟨arr.toList, by simp⟩
  have hr : Reps F l vs := by simpa using hr
  have hz := hr.length
  have h2' : 2 ≤ vs.length := by omega
  have h64' : vs.length < 64 := by omega
  refine Calls.call_function_entry kind_sorted plain_sorted entry_sorted (args_sorted1 _) ?_
  unfold Builtin.«sorted»
  refine wpAny_bind (m := checkCount "sorted" 1 1 _) (wpAny_pure ?_)
  refine wpAny_bind (collect_list hL ?_ (by rw [sizeLine_eq]; omega))
  refine wpAny_bind (wpAny_newList ?_ (by rw [sizeLine_eq]; omega))
  generalize hg : (s.heap.push (seqObj "list" #[] 0)).update s.heap.objs.size (Obj.mapSeq (· ++ vs.toArray)) = g
  have hsz : g.objs.size = s.heap.objs.size + 1 := by rw [← hg, Heap.size_update, size_push']
  have hoL : (g.push (seqObj "list" vs.toArray 0)).get? g.objs.size = some (seqObj "list" vs.toArray 0) := Heap.get?_push_size _ rfl
  have keep : ∀ b o, s.heap.get? b = some o → (g.push (seqObj "list" vs.toArray 0)).get? b = some o := fun b o q => by
    have hlt : b < s.heap.objs.size := Heap.lt_size q
    refine Heap.get?_push_of_some _ ?_
    rw [← hg, Heap.get?_update_ne _ _ _ _ (Nat.ne_of_lt hlt), Heap.get?_push_ne _ _ _ (Nat.ne_of_lt hlt)]
    exact q
  have fresh : s.heap.get? g.objs.size = none := Heap.get?_none_of_le (by rw [hsz]; exact Nat.le_succ _)
  obtain ⟨DF, DM, DB⟩ := H.none_of_fresh fresh
  show wpAny _ _ _ _ _ { s with heap := g.push (seqObj "list" vs.toArray 0) }
  have H₁ := H.grow (s' := { s with heap := g.push (seqObj "list" vs.toArray 0) }) keep rfl rfl
  have S₁ : Step No F μ s F μ { s with heap := g.push (seqObj "list" vs.toArray 0) } := .grow keep
  generalize g.push (seqObj "list" vs.toArray 0) = h₁ at hoL keep H₁ S₁ ⊢
  generalize g.objs.size = Da at hoL fresh DF DM DB ⊢
  refine wpAny_bind (wpAny_holding (wpAny_call_entry slot_list_sort ⟨_, hoL, rfl⟩ entry_list_sort ?body (args_list_sort _)))
  case body =>
    have s1 := Heap.SameBut.update h₁ Da (Obj.mapSeq fun _ => (#[] : Array Value))
    obtain ⟨e1, ho1⟩ : ∃ e1, (h₁.update Da (Obj.mapSeq fun _ => (#[] : Array Value))).get? Da = some (seqObj "list" #[] e1) := ⟨_, get?_update_seq hoL fun _ => #[]⟩
    rw [list_sort_plain]
    refine wpAny_bind (listItems_at hoL rfl ?_)
    refine wpAny_bind (listUpdate_at hoL rfl ?_ (by rw [List.size_toArray, sizeLine_eq]; omega) (Nat.zero_le _))
    refine wpAny_bind (seqEpoch_at ho1 rfl ?_)
    refine wpAny_bind (wpAny_newTuple ?_ (by show vs.length ≤ _; rw [sizeLine_eq]; omega))
    refine wpAny_bind (wpAny_newList ?_ (Nat.zero_le _))
    refine wpAny_holding ?_
    have hk2 : ∀ b o, b ≠ Da → h₁.get? b = some o → (((h₁.update Da (Obj.mapSeq fun _ => (#[] : Array Value))).push (seqObj "tuple" vs.toArray 0)).push (seqObj "list" #[] 0)).get? b = some o := fun b o hb e =>
      Heap.get?_push_of_some _ (Heap.get?_push_of_some _ (same_but s1 b o hb e))
    have ho2 := Heap.get?_push_of_some (seqObj "list" #[] 0) (Heap.get?_push_of_some (seqObj "tuple" vs.toArray 0) ho1)
    show wpAny (model X.prog X.w) _ _ _ _ { s with heap := ((h₁.update Da (Obj.mapSeq fun _ => (#[] : Array Value))).push (seqObj "tuple" vs.toArray 0)).push (seqObj "list" #[] 0) }
    generalize ((h₁.update Da (Obj.mapSeq fun _ => (#[] : Array Value))).push (seqObj "tuple" vs.toArray 0)).push (seqObj "list" #[] 0) = h₂ at hk2 ho2 ⊢
    have H₂ : HC X F μ { s with heap := h₂ } := H₁.touch' DF DM DB hk2 rfl rfl
    have S₂ : Step No F μ s F μ { s with heap := h₂ } := S₁.touch (.inl fresh) hk2
    dsimp only
    have hn2 : ¬ vs.toArray.size < 2 := by rw [List.size_toArray]; omega
    rw [if_neg hn2, if_neg hn2]
    refine wpAny_bind (wpAny_mono (sort_core (n := n) (E := Never) (T := [(Da, seqObj "list" #[] e1)]) (R := fun st s' => ∃ p F', Sorted lt vs.length p ∧ (arrOf st).map (·.2) = List.toArray (p.map fun i => vs.getD i Value.none) ∧ failedOf st = none ∧ HC X F' μ s' ∧ Step No F μ { s with heap := h₂ } F' μ s' ∧ Tmp X F' μ s' Da (seqObj "list" #[] e1))
      hA.in1.in1 H₂ hr rfl h2' h64' O hc (by simp only [List.mem_singleton, forall_eq]; exact ⟨DF, DM, DB, ho2⟩) fun st p F' s' q1 q2 q3 q4 q5 q6 => ⟨p, F', q1, q2, q3, q4, q5, q6 _ (.head _)⟩) (fun κ s₃ hk => ?_) fun _ _ e => e.elim)
    refine wpAny_bind (wpAny_mono hk ?_ fun _ _ e => e.elim)
    rintro ⟨⟨⟩, st⟩ s₄ ⟨p, F₄, hp, har, hf, H₄, S₄, T₄⟩
    dsimp only
    rw [har]
    have s5 := Heap.SameBut.update s₄.heap Da (Obj.mapSeq fun _ => List.toArray (p.map fun i => vs.getD i Value.none))
    have hc2 := get?_update_seq T₄.at' fun _ => List.toArray (p.map fun i => vs.getD i Value.none)
    refine wpAny_bind (seqEpoch_at T₄.at' rfl ?_)
    refine wpAny_bind (listUpdate_at T₄.at' rfl ?_ (Nat.zero_le _) (by rw [List.size_toArray, List.length_map, hp.1.length_eq, List.length_range, sizeLine_eq]; omega))
    rw [hf]
    simp only [bne_self_eq_false, Bool.false_eq_true, if_false]
    have H₅ : HC X F₄ μ { s₄ with heap := s₄.heap.update Da (Obj.mapSeq fun _ => List.toArray (p.map fun i => vs.getD i Value.none)) } := H₄.touch' T₄.F T₄.M T₄.B (same_but s5) rfl rfl
    have S₅ : Step No F μ s F₄ μ { s₄ with heap := s₄.heap.update Da (Obj.mapSeq fun _ => List.toArray (p.map fun i => vs.getD i Value.none)) } := (S₂.trans S₄).touch (.inl fresh) (same_but s5)
    refine wpAny_pure ⟨_, rfl, wpAny_pure ⟨_, rfl, .lst (p.map fun i => l.getD i .none), μ, _, h p (by rw [← hz]; exact hp), ?_, H₅.freezeOld hc2 T₄.F T₄.M, S₅.freezeOld fresh T₄.F⟩⟩
    exact ⟨_, _, _, _, rfl, fput_self .., rfl, rfl, by simpa using ((hr.mono (S₄.le)).mono (fput_le T₄.F)).pick (is := p) fun i hi => by have := hp.lt i hi; omega⟩
end Lay

/- part S3 -/
open PySem PySem.W PyProof.Rows
set_option Elab.async false
set_option linter.unusedVariables false
set_option maxRecDepth 100000
namespace Lay
variable {X : Cx} {n : Nat} {env : Env} {ρ : Rho} {μ : Mu}

/-- a call of a thing that stands for data -/
def CallD (X : Cx) (n : Nat) (fd : D) (ds : List D) (μ : Mu) (Q : D → Mu → Prop) : Prop :=
  ∀ A F s f vs, AOk n A → HC X F μ s → Rep F fd f → Reps F ds vs → wpAny (model X.prog X.w) A (call f vs) (Post X Q F μ s) Never s
/-- the keys that a sort asks for -/
def KeysOf (X : Cx) (n : Nat) (fd : D) : List D → List D → Mu → (List D → Mu → Prop) → Prop
  | [], ks, μ, P => P ks μ
  | d :: ds, ks, μ, P => CallD X n fd [d] μ fun k μ' => KeysOf X n fd ds (ks ++ [k]) μ' P
theorem keys_fold {A : Around} {f : Value} {fd : D} {P : List D → Mu → Prop} {kS Da : Addr} {e1 N : Nat} {E : Value → Shared → Prop} {F₀ : FZ} {μ₀ : Mu} {s₀ : Shared} {body : Value → PUnit → Sem (ForInStep PUnit)} (hA : AOk n A) (hne : Da ≠ kS) (hfr : s₀.heap.get? kS = none)
    (hb : ∀ (x : Value) (ks : List Value) (e : Nat) (s : Shared) (Q : Value → Shared → Prop), ks.length < 64 → wpAny (model X.prog X.w) A (call f [x]) (fun k s' => s'.heap.get? kS = some (seqObj "list" ks.toArray e) ∧ Q k s') Never s →
      wpAny (model X.prog X.w) A (body x ⟨⟩) (fun r s' => ∃ k s'' c, r = .yield ⟨⟩ ∧ Q k s'' ∧ s'.gens = s''.gens ∧ s'.os = s''.os ∧ Heap.SameBut kS s''.heap s'.heap ∧ s'.heap.get? kS = some (seqObj "list" (ks ++ [k]).toArray c)) E s) :
    ∀ {ds kds : List D} {vs ks : List Value} {e : Nat} {F : FZ} {μ : Mu} {s : Shared}, ks.length + vs.length = N → N < 64 → Rep F fd f → Reps F ds vs → Reps F kds ks → HC X F μ s → Step No F₀ μ₀ s₀ F μ s → Tmp X F μ s kS (seqObj "list" ks.toArray e) → Tmp X F μ s Da (seqObj "list" #[] e1) → KeysOf X n fd ds kds μ P →
      wpAny (model X.prog X.w) A (forIn vs PUnit.unit body) (fun _ s' => ∃ kds ks e F' μ', ks.length = N ∧ P kds μ' ∧ Reps F' kds ks ∧ HC X F' μ' s' ∧ Step No F₀ μ₀ s₀ F' μ' s' ∧ FLe F F' ∧ Tmp X F' μ' s' kS (seqObj "list" ks.toArray e) ∧ Tmp X F' μ' s' Da (seqObj "list" #[] e1)) E s
  | [], kds, vs, ks, e, F, μ, s, hN, h64, rf, r, rk, H, S, Tk, Ta, h => by
    cases r
    rw [List.forIn_nil]
    exact wpAny_pure ⟨kds, ks, e, F, μ, by simpa using hN, h, rk, H, S, .refl F, Tk, Ta⟩
  | d :: ds, kds, _, ks, e, F, μ, s, hN, h64, rf, ⟨v, vs, q, r, rs⟩, rk, H, S, Tk, Ta, h => by
    subst q
    rw [List.length_cons] at hN
    rw [List.forIn_cons]
    have hc : wpAny (model X.prog X.w) A (call f [v]) (fun k s' => s'.heap.get? kS = some (seqObj "list" ks.toArray e) ∧ ∃ dk μ' F', KeysOf X n fd ds (kds ++ [dk]) μ' P ∧ Rep F' dk k ∧ HC X F' μ' s' ∧ Step No F μ s F' μ' s') Never s := by
      refine wpAny_mono (h A F s f [v] hA H rf ⟨v, [], rfl, r, rfl⟩) ?_ fun _ _ e => e
      rintro k s' ⟨dk, μ', F', hk, rdk, H', S'⟩
      exact ⟨(Tk.step S').at', dk, μ', F', hk, rdk, H', S'⟩
    refine wpAny_bind (wpAny_mono (hb v ks e s _ (by omega) hc) ?_ fun _ _ x => x)
    rintro _ s₂ ⟨k, s₁, c, rfl, ⟨dk, μ₁, F₁, hk, rdk, H₁, S₁⟩, hg, ho, hs, hc⟩
    show wpAny _ A (forIn vs PUnit.unit body) _ E s₂
    have Tk₁ := Tk.step S₁
    have Ta₁ := Ta.step S₁
    have H₂ : HC X F₁ μ₁ s₂ := H₁.touch' Tk₁.F Tk₁.M Tk₁.B (same_but hs) hg ho
    have S₂ : Step No F₀ μ₀ s₀ F₁ μ₁ s₂ := (S.trans S₁).touch (.inl hfr) (same_but hs)
    refine wpAny_mono (keys_fold hA hne hfr hb (by rw [List.length_append, List.length_singleton]; omega) h64 (rf.mono S₁.le) (rs.mono S₁.le) ((rk.mono S₁.le).append (Reps.one rdk)) H₂ S₂ ⟨Tk₁.F, Tk₁.M, Tk₁.B, hc⟩ (Ta₁.other hne (same_but hs)) hk) ?_ fun _ _ x => x
    rintro _ s₃ ⟨kds', ks', e', F', μ', q1, q2, q3, q4, q5, q6, q7, q8⟩
    exact ⟨kds', ks', e', F', μ', q1, q2, q3, q4, q5, S₁.le.trans q6, q7, q8⟩

theorem CallK.sorted {d kd : D} {l : List D} {q : Addr} {Q : D → Mu → Prop} (hl : IsL μ d l) (h2 : 2 ≤ l.length) (h64 : l.length < 64)
    (hq : ∀ F v, Rep F kd v → v = .ref q) (h : KeysOf X n kd l [] μ fun ks μ' => ∃ lt, SWO lt ∧ CmpK X n ks μ' lt ∧ ∀ p, Sorted lt l.length p → Q (.lst (p.map fun i => l.getD i .none)) μ') : CallK X (n + 2) (.builtin "sorted") d "key" kd μ Q := by
  rintro A F s v vq hA H r rq
  obtain rfl := hq F vq rq
  obtain ⟨a, arr, rfl, hL, hr⟩ := hl.isList H r
  obtain ⟨vs, rfl⟩ : ∃ vs : List Value, arr = vs.toArray := ⟨arr.toList, by simp⟩
  have hr : Reps F l vs := by simpa using hr
  have hz := hr.length
  have h2' : 2 ≤ vs.length := by omega
  have h64' : vs.length < 64 := by omega
  refine call_function_entry_kw kind_sorted plain_sorted entry_sorted (ksk_s1 _ _) ?_
  unfold Builtin.«sorted»
  refine wpAny_bind (m := checkCount "sorted" 1 1 _) (wpAny_pure ?_)
  refine wpAny_bind (collect_list hL ?_ (by rw [sizeLine_eq]; omega))
  refine wpAny_bind (wpAny_newList ?_ (by rw [sizeLine_eq]; omega))
  generalize hg : (s.heap.push (seqObj "list" #[] 0)).update s.heap.objs.size (Obj.mapSeq (· ++ vs.toArray)) = g
  have hsz : g.objs.size = s.heap.objs.size + 1 := by rw [← hg, Heap.size_update, size_push']
  have hoL : (g.push (seqObj "list" vs.toArray 0)).get? g.objs.size = some (seqObj "list" vs.toArray 0) := Heap.get?_push_size _ rfl
  have keep : ∀ b o, s.heap.get? b = some o → (g.push (seqObj "list" vs.toArray 0)).get? b = some o := fun b o q => by
    have hlt : b < s.heap.objs.size := Heap.lt_size q
    refine Heap.get?_push_of_some _ ?_
    rw [← hg, Heap.get?_update_ne _ _ _ _ (Nat.ne_of_lt hlt), Heap.get?_push_ne _ _ _ (Nat.ne_of_lt hlt)]
    exact q
  have fresh : s.heap.get? g.objs.size = none := Heap.get?_none_of_le (by rw [hsz]; exact Nat.le_succ _)
  have big : s.heap.objs.size ≤ g.objs.size := by rw [hsz]; exact Nat.le_succ _
  obtain ⟨DF, DM, DB⟩ := H.none_of_fresh fresh
  show wpAny _ _ _ _ _ { s with heap := g.push (seqObj "list" vs.toArray 0) }
  have H₁ := H.grow (s' := { s with heap := g.push (seqObj "list" vs.toArray 0) }) keep rfl rfl
  have S₁ : Step No F μ s F μ { s with heap := g.push (seqObj "list" vs.toArray 0) } := .grow keep
  generalize g.push (seqObj "list" vs.toArray 0) = h₁ at hoL keep H₁ S₁ ⊢
  generalize g.objs.size = Da at hoL fresh big DF DM DB ⊢
  have hDlt : Da < h₁.objs.size := Heap.lt_size hoL
  refine wpAny_bind (wpAny_holding (wpAny_call_entry_kw slot_list_sort ⟨_, hoL, rfl⟩ entry_list_sort ?body (ksk_l1 _ _)))
  case body =>
    have s1 := Heap.SameBut.update h₁ Da (Obj.mapSeq fun _ => (#[] : Array Value))
    obtain ⟨e1, ho1⟩ : ∃ e1, (h₁.update Da (Obj.mapSeq fun _ => (#[] : Array Value))).get? Da = some (seqObj "list" #[] e1) := ⟨_, get?_update_seq hoL fun _ => #[]⟩
    show wpAny (model X.prog X.w) A.in1.in1 (Builtin.«list.sort» ⟨[.ref Da], [(Str.ofString "key", .ref q)]⟩) _ _ _
    rw [ksk_t1]
    unfold ksk_tree
    refine wpAny_bind (listItems_at hoL rfl ?_)
    refine wpAny_bind (listUpdate_at hoL rfl ?_ (by rw [List.size_toArray, sizeLine_eq]; omega) (Nat.zero_le _))
    refine wpAny_bind (seqEpoch_at ho1 rfl ?_)
    refine wpAny_bind (wpAny_newTuple ?_ (by show vs.length ≤ _; rw [sizeLine_eq]; omega))
    refine wpAny_bind (wpAny_newList ?_ (Nat.zero_le _))
    refine wpAny_holding ?_
    have hk2 : ∀ b o, b ≠ Da → h₁.get? b = some o → (((h₁.update Da (Obj.mapSeq fun _ => (#[] : Array Value))).push (seqObj "tuple" vs.toArray 0)).push (seqObj "list" #[] 0)).get? b = some o := fun b o hb e =>
      Heap.get?_push_of_some _ (Heap.get?_push_of_some _ (same_but s1 b o hb e))
    have ho2 := Heap.get?_push_of_some (seqObj "list" #[] 0) (Heap.get?_push_of_some (seqObj "tuple" vs.toArray 0) ho1)
    have hoK : (((h₁.update Da (Obj.mapSeq fun _ => (#[] : Array Value))).push (seqObj "tuple" vs.toArray 0)).push (seqObj "list" #[] 0)).get? ((h₁.update Da (Obj.mapSeq fun _ => (#[] : Array Value))).push (seqObj "tuple" vs.toArray 0)).objs.size = some (seqObj "list" #[] 0) := Heap.get?_push_size _ rfl
    have hkS : ((h₁.update Da (Obj.mapSeq fun _ => (#[] : Array Value))).push (seqObj "tuple" vs.toArray 0)).objs.size = h₁.objs.size + 1 := by rw [size_push', Heap.size_update]
    show wpAny (model X.prog X.w) _ (ksk_rest Da (.ref q) false vs.toArray e1 (.ref ((h₁.update Da (Obj.mapSeq fun _ => (#[] : Array Value))).push (seqObj "tuple" vs.toArray 0)).objs.size)) _ _ { s with heap := ((h₁.update Da (Obj.mapSeq fun _ => (#[] : Array Value))).push (seqObj "tuple" vs.toArray 0)).push (seqObj "list" #[] 0) }
    generalize (((h₁.update Da (Obj.mapSeq fun _ => (#[] : Array Value))).push (seqObj "tuple" vs.toArray 0))).push (seqObj "list" #[] 0) = h₂ at hk2 ho2 hoK ⊢
    generalize ((h₁.update Da (Obj.mapSeq fun _ => (#[] : Array Value))).push (seqObj "tuple" vs.toArray 0)).objs.size = kS at hoK hkS ⊢
    have hne : Da ≠ kS := by rw [hkS]; exact Nat.ne_of_lt (Nat.lt_succ_of_lt hDlt)
    have freshK : s.heap.get? kS = none := Heap.get?_none_of_le (by rw [hkS]; exact Nat.le_succ_of_le (Nat.le_trans big (Nat.le_of_lt hDlt)))
    obtain ⟨KF, KM, KB⟩ := H.none_of_fresh freshK
    have H₂ : HC X F μ { s with heap := h₂ } := H₁.touch' DF DM DB hk2 rfl rfl
    have S₂ : Step No F μ s F μ { s with heap := h₂ } := S₁.touch (.inl fresh) hk2
    unfold ksk_rest
    refine wpAny_bind (wpAny_rule ?_)
    first
      | rw [List.forIn_toArray]
      | (rw [← Array.forIn_toList]; simp only [List.toList_toArray])
      | rw [← Array.forIn_toList]
    refine wpAny_bind (wpAny_mono (keys_fold (n := n) (E := Never) (N := vs.length) (kS := kS) (Da := Da) (e1 := e1) (e := 0) (ks := []) (kds := []) (F₀ := F) (μ₀ := μ) (s₀ := s) hA.in1.in1 hne freshK (fun x ks e s' Q' hlen hx => ?_) (by simp) h64' rq hr rfl H₂ S₂ ⟨KF, KM, KB, hoK⟩ ⟨DF, DM, DB, ho2⟩ h) ?_ fun _ _ x => x.elim)
    · refine wpAny_bind (wpAny_attempt (wpAny_mono hx (fun k s'' hk => ?_) fun _ _ hF => hF.elim))
      obtain ⟨hk, hq⟩ := hk
      have s3 := Heap.SameBut.update s''.heap kS (Obj.mapSeq (·.push k))
      have ea : (List.toArray ks).push k = List.toArray (ks ++ [k]) := by simp
      obtain ⟨c2, hc2⟩ : ∃ c2, (s''.heap.update kS (Obj.mapSeq (·.push k))).get? kS = some (seqObj "list" (List.toArray (ks ++ [k])) c2) := ⟨_, by rw [← ea]; exact get?_update_seq hk (·.push k)⟩
      try dsimp only
      refine wpAny_bind (listUpdate_at hk rfl ?_ (by rw [List.size_toArray, sizeLine_eq]; omega) (Nat.le_trans (Nat.le_of_eq (Array.size_push ..)) (by rw [List.size_toArray, sizeLine_eq]; omega)))
      exact wpAny_pure ⟨k, s'', c2, rfl, hq, rfl, rfl, s3, hc2⟩
    · rintro _ s₃ ⟨kds, ks, e, F₃, μ₃, hkl, ⟨lt, O, hc, hfin⟩, rk, H₃, S₃, le₃, Tk, Ta⟩
      try dsimp only
      refine wpAny_bind (listItems_at Tk.at' rfl ?_)
      unfold ksk_end
      dsimp only
      have hn2 : ¬ vs.toArray.size < 2 := by rw [List.size_toArray]; omega
      simp only [Bool.false_eq_true, if_false]
      rw [if_neg hn2, if_neg hn2]
      refine wpAny_bind (wpAny_mono (sort_core (n := n) (E := Never) (ks := kds) (vks := ks) (vs := vs) (T := [(Da, seqObj "list" #[] e1), (kS, seqObj "list" ks.toArray e)]) (R := fun st s' => ∃ p F', Sorted lt vs.length p ∧ (arrOf st).map (·.2) = List.toArray (p.map fun i => vs.getD i Value.none) ∧ failedOf st = none ∧ HC X F' μ₃ s' ∧ Step No F₃ μ₃ s₃ F' μ₃ s' ∧
          Tmp X F' μ₃ s' Da (seqObj "list" #[] e1) ∧ Tmp X F' μ₃ s' kS (seqObj "list" ks.toArray e))
        hA.in1.in1 H₃ rk (by omega) h2' h64' O hc (fun t ht => ?_) fun st p F' s' q1 q2 q3 q4 q5 q6 => ⟨p, F', q1, q2, q3, q4, q5, q6 _ (.head _), q6 _ (.tail _ (.head _))⟩) (fun κ s₄ hk => ?_) fun _ _ e => e.elim)
      · rcases List.mem_cons.mp ht with rfl | ht
        · exact Ta
        · rcases List.mem_cons.mp ht with rfl | ht
          · exact Tk
          · cases ht
      refine wpAny_bind (wpAny_mono hk ?_ fun _ _ e => e.elim)
      rintro ⟨⟨⟩, st⟩ s₄ ⟨p, F₄, hp, har, hf, H₄, S₄, Ta₄, Tk₄⟩
      dsimp only
      unfold ksk_tail
      dsimp only
      rw [har]
      have s5 := Heap.SameBut.update s₄.heap kS (Obj.mapSeq fun _ => (#[] : Array Value))
      have H₅ : HC X F₄ μ₃ { s₄ with heap := s₄.heap.update kS (Obj.mapSeq fun _ => (#[] : Array Value)) } := H₄.touch' Tk₄.F Tk₄.M Tk₄.B (same_but s5) rfl rfl
      have S₅ : Step No F μ s F₄ μ₃ { s₄ with heap := s₄.heap.update kS (Obj.mapSeq fun _ => (#[] : Array Value)) } := (S₃.trans S₄).touch (.inl freshK) (same_but s5)
      have Ta₅ : Tmp X F₄ μ₃ { s₄ with heap := s₄.heap.update kS (Obj.mapSeq fun _ => (#[] : Array Value)) } Da (seqObj "list" #[] e1) := Ta₄.other hne (same_but s5)
      refine wpAny_bind (listUpdate_at Tk₄.at' rfl ?_ (by rw [List.size_toArray, sizeLine_eq]; omega) (Nat.zero_le _))
      refine wpAny_bind (wpAny_letGo ?_)
      refine wpAny_bind (seqEpoch_at Ta₅.at' rfl ?_)
      generalize s₄.heap.update kS (Obj.mapSeq fun _ => (#[] : Array Value)) = h₅ at H₅ S₅ Ta₅ ⊢
      have s6 := Heap.SameBut.update h₅ Da (Obj.mapSeq fun _ => List.toArray (p.map fun i => vs.getD i Value.none))
      have hc2 := get?_update_seq Ta₅.at' fun _ => List.toArray (p.map fun i => vs.getD i Value.none)
      refine wpAny_bind (listUpdate_at Ta₅.at' rfl ?_ (Nat.zero_le _) (by simp only [Bool.false_eq_true, if_false]; rw [List.size_toArray, List.length_map, hp.1.length_eq, List.length_range, sizeLine_eq]; omega))
      rw [hf]
      simp only [bne_self_eq_false, Bool.false_eq_true, if_false]
      have H₆ : HC X F₄ μ₃ { s₄ with heap := h₅.update Da (Obj.mapSeq fun _ => List.toArray (p.map fun i => vs.getD i Value.none)) } := H₅.touch' (s' := { s₄ with heap := h₅.update Da (Obj.mapSeq fun _ => List.toArray (p.map fun i => vs.getD i Value.none)) }) Ta₅.F Ta₅.M Ta₅.B (same_but s6) rfl rfl
      have S₆ : Step No F μ s F₄ μ₃ { s₄ with heap := h₅.update Da (Obj.mapSeq fun _ => List.toArray (p.map fun i => vs.getD i Value.none)) } := S₅.touch (s₂ := { s₄ with heap := h₅.update Da (Obj.mapSeq fun _ => List.toArray (p.map fun i => vs.getD i Value.none)) }) (.inl fresh) (same_but s6)
      refine wpAny_pure ⟨_, rfl, wpAny_pure ⟨_, rfl, .lst (p.map fun i => l.getD i .none), μ₃, _, hfin p (by rw [← hz]; exact hp), ?_, H₆.freezeOld hc2 Ta₅.F Ta₅.M, S₆.freezeOld fresh Ta₅.F⟩⟩
      exact ⟨_, _, _, _, rfl, fput_self .., rfl, rfl, by simpa using ((hr.mono (S₅.le)).mono (fput_le Ta₅.F)).pick (is := p) fun i hi => by have := hp.lt i hi; omega⟩
end Lay

/- part S4 -/
open PySem PySem.W PyProof.Rows
set_option Elab.async false
set_option linter.unusedVariables false
set_option maxRecDepth 100000
namespace Lay
variable {X : Cx} {n : Nat} {env : Env} {ρ : Rho} {μ : Mu}

/-- rows of numbers, in order -/
def lexLt : List Int → List Int → Bool
  | [], [] => false
  | [], _ :: _ => true
  | _ :: _, [] => false
  | a :: as, b :: bs => if a = b then lexLt as bs else decide (a < b)
theorem lex_asym : ∀ a b, lexLt a b = true → lexLt b a = false
  | [], [], h => by simp [lexLt] at h
  | [], _ :: _, _ => rfl
  | _ :: _, [], h => by simp [lexLt] at h
  | a :: as, b :: bs, h => by
    unfold lexLt at h ⊢
    by_cases e : a = b
    · rw [if_pos e] at h; rw [if_pos e.symm]; exact lex_asym as bs h
    · rw [if_neg e] at h; rw [if_neg (Ne.symm e)]
      simp only [decide_eq_true_eq, decide_eq_false_iff_not] at h ⊢
      omega
theorem lex_ntr : ∀ a b c, lexLt a b = false → lexLt b c = false → lexLt a c = false
  | [], [], c, _, h => h
  | [], _ :: _, _, h, _ => by simp [lexLt] at h
  | _ :: _, [], [], _, _ => rfl
  | _ :: _, [], _ :: _, _, h => by simp [lexLt] at h
  | _ :: _, _ :: _, [], _, _ => rfl
  | a :: as, b :: bs, c :: cs, h, h' => by
    unfold lexLt at h h' ⊢
    by_cases e : a = b
    · rw [if_pos e] at h
      by_cases e' : b = c
      · rw [if_pos e'] at h'; rw [if_pos (e.trans e')]; exact lex_ntr as bs cs h h'
      · rw [if_neg e'] at h'; rw [if_neg (by omega)]
        simp only [decide_eq_false_iff_not] at h' ⊢; omega
    · rw [if_neg e] at h
      by_cases e' : b = c
      · rw [if_pos e'] at h'; rw [if_neg (by omega)]
        simp only [decide_eq_false_iff_not] at h ⊢; omega
      · rw [if_neg e'] at h'
        simp only [decide_eq_false_iff_not] at h h'
        rw [if_neg (by omega)]
        simp only [decide_eq_false_iff_not]; omega
theorem lex_tri : ∀ a b, lexLt a b = false → lexLt b a = false → a = b
  | [], [], _, _ => rfl
  | [], _ :: _, h, _ => by simp [lexLt] at h
  | _ :: _, [], _, h => by simp [lexLt] at h
  | a :: as, b :: bs, h, h' => by
    unfold lexLt at h h'
    by_cases e : a = b
    · rw [if_pos e] at h; rw [if_pos e.symm] at h'; rw [e, lex_tri as bs h h']
    · rw [if_neg e] at h; rw [if_neg (Ne.symm e)] at h'
      simp only [decide_eq_false_iff_not] at h h'; omega
theorem lex_swo (f : Nat → List Int) : SWO fun i j => lexLt (f i) (f j) := ⟨fun _ _ h => lex_asym _ _ h, fun _ _ _ h h' => lex_ntr _ _ _ h h'⟩
theorem lex_ask {prog : Program} {w : World} {A : Around} {s : Shared} {F : FZ} {Q : Bool → Shared → Prop} {fin : Bool} : ∀ {xs ys : List Int} {vs us : List Value} {i : Nat}, Reps F (xs.map D.int) vs → Reps F (ys.map D.int) us → fin = decide (xs.length < ys.length) → Q (lexLt xs ys) s →
    KatLex prog w A true fin Q (vs.zip us) i s
  | [], ys, vs, us, i, r, r', hf, h => by
    cases r
    cases ys with
    | nil => rw [hf]; exact h
    | cons y ys => rw [hf]; exact h
  | x :: xs, [], vs, us, i, r, r', hf, h => by
    cases r'
    rw [List.zip_nil_right, hf]
    exact h
  | x :: xs, y :: ys, _, _, i, ⟨v, vs, q, ⟨t, e⟩, rs⟩, ⟨u, us, q', ⟨t', e'⟩, rs'⟩, hf, h => by
    subst q q' e e'
    rw [List.zip_cons_cons]
    refine kat_cons (wpAny_eqBool_int ?_)
    unfold lexLt at h
    by_cases hxy : x = y
    · rw [if_pos hxy] at h
      rw [show (x == y) = true by simpa using hxy]
      exact kat_yes (lex_ask rs rs' (by rw [hf]; simp) h)
    · rw [if_neg hxy] at h
      rw [show (x == y) = false by simpa using hxy]
      refine kat_no ?_
      cases i with
      | zero => exact oneLt_int h
      | succ i => exact kat_one _ _ (PyProof.Rows.lt_int h)
def itup (r : List Int) : D := .tup (r.map D.int)
theorem reps_tups {F : FZ} {s : Shared} (H : HC X F μ s) : ∀ {rows : List (List Int)} {vs : List Value}, (∀ r ∈ rows, r ≠ []) → Reps F (rows.map itup) vs → ∃ fs, KatTups s.heap vs fs ∧ fs.length = rows.length ∧ ∀ v ∈ fs, ∃ i t, v = .int i t
  | [], vs, _, r => by cases r; exact ⟨[], trivial, rfl, fun v h => by cases h⟩
  | r :: rows, _, hne, ⟨v, vs, q, hr, rs⟩ => by
    subst q
    obtain ⟨fs, h1, h2, h3⟩ := reps_tups H (fun r hr => hne r (.tail _ hr)) rs
    obtain ⟨a, o, arr, k, rfl, hf, hc, hd, hrr⟩ := hr
    obtain ⟨x, xs, rfl⟩ : ∃ x xs, r = x :: xs := by
      match r, hne r (.head _) with
      | x :: xs, _ => exact ⟨x, xs, rfl⟩
    obtain ⟨u, us, e, ⟨t, rfl⟩, _⟩ := hrr
    refine ⟨.int x t :: fs, KatTups.cons (H.fz a o hf) hc hd ?_ h1, by simp [h2], fun v hv => ?_⟩
    · have : arr.toList[0]? = some (Value.int x t) := by rw [e]; rfl
      simpa using this
    · rcases List.mem_cons.mp hv with rfl | hv
      · exact ⟨_, _, rfl⟩
      · exact h3 v hv
theorem CmpK.tups {rows : List (List Int)} (h2 : 0 < rows.length) (hne : ∀ r ∈ rows, r ≠ []) : CmpK X n (rows.map itup) μ fun i j => lexLt (rows.getD i []) (rows.getD j []) := by
  intro A F s vs hA H r
  obtain ⟨fs, h1, h3, h4⟩ := reps_tups H hne r
  refine kat_kind h1 (by omega) (T := .type "int") (fun v hv => ?_) rfl ⟨rfl, fun i j hi hj F₂ s₂ H₂ le => ?_⟩
  · obtain ⟨i, t, rfl⟩ := h4 v hv
    exact Looks.of_pure rfl
  · have r₂ := r.mono le
    rw [List.length_map] at hi hj
    have get : ∀ i, i < rows.length → ∃ a o arr k, vs.getD i Value.none = .ref a ∧ s₂.heap.get? a = some o ∧ o.data = .seq arr k ∧ Reps F₂ ((rows.getD i []).map D.int) arr.toList := fun i hi => by
      obtain ⟨v, hv, rv⟩ := r₂.get (i := i) (d := itup rows[i]) (by simp [hi])
      obtain ⟨a, o, arr, k, rfl, hf, hc, hd, hr⟩ := rv
      exact ⟨a, o, arr, k, by simp [List.getD, hv], H₂.fz a o hf, hd, by simpa [List.getD, hi] using hr⟩
    obtain ⟨a, oa, xs, k, ea, ha, da, ra⟩ := get i hi
    obtain ⟨b, ob, ys, k', eb, hb, db, rb⟩ := get j hj
    rw [ea, eb]
    have e1 := ra.length
    have e2 := rb.length
    simp only [Array.length_toList, List.length_map] at e1 e2
    exact kat_lt ha da hb db (lex_ask ra rb (by rw [e1, e2]) ⟨μ, F₂, ⟨rfl, rfl⟩, H₂, .refl ..⟩)
end Lay

/- part RKM -/
open PySem PySem.W PyProof.Rows
set_option Elab.async false
set_option linter.unusedVariables false
set_option maxRecDepth 100000
set_option maxHeartbeats 0
namespace Lay
abbrev PX : Program := PySem.Challenge.pw_dw5008_02
def statO (P : Params) : Obj := { cls := .none, dict := none, data := .dict #[] 0, slots := #[] }
def statF (P : Params) : Frag := [(2, statO P)]
def kA : Around := { depth := 950, units := 9500 }
theorem weakA {α : Type} {M : Model} {A : Around} {n : Nat} {t : Sem α} {Q : α → Shared → Prop} {E : Value → Shared → Prop} {s : Shared} (hA : AOk n A) (h : wpAny M kA t Q E s) : wpAny M A t Q E s := fun Γ p hΓ => by
  refine h Γ p ⟨hΓ.1.trans hA.1, Nat.le_trans hΓ.2.1 ?_, fun l e => (by cases e), fun g e => (by cases e), Nat.le_trans hΓ.2.2.2.2 ?_⟩
  · have := hA.2.1; show A.depth ≤ 950; omega
  · have := hA.2.2; show A.units ≤ 9500; omega
def NewQ (h : Heap) (cK : Addr) (v : Value) (g : Array GenState) (d : Drawn) (os : OsState) (Q : Value → Shared → Prop) : Prop :=
  ∀ a dd h' tk', (∀ b o, h.get? b = some o → h'.get? b = some o) → h.get? a = none → h'.get? a = some { cls := .ref cK, dict := some dd, data := .plain, slots := #[some v] } → Q (.ref a) ⟨h', g, d, tk', os⟩
theorem NewQ.use {h h' : Heap} {cK a dd : Addr} {v : Value} {g : Array GenState} {d : Drawn} {os : OsState} {tk' : Nat} {o₀ : Addr × Obj} {r : List (Addr × Obj)} {Q : Value → Shared → Prop} (x : NewQ h cK v g d os Q)
    (D : X.Mem h h' [] (o₀ :: (a, { cls := .ref cK, dict := some dd, data := .plain, slots := #[some v] }) :: r)) : Q (.ref a) ⟨h', g, d, tk', os⟩ :=
  x a dd h' tk' (fun b o e => D.keep b o e (by simp [X.away])) (D.nw _ (.tail _ (.head _))).2 (D.nw _ (.tail _ (.head _))).1
local macro_rules | `(tactic| x_close) => `(tactic| exact NewQ.use (by assumption) (by assumption))
theorem k_new {w : World} {h : Heap} {g : Array GenState} {d : Drawn} {tk : Nat} {os : OsState} {cK : Addr} {f v : Value} {r : KRec} {Q E : Value → Shared → Prop} (h2 : (statF w.params).In h) (K : KFacts h.get? PX w.params cK f r)
    (hQ : NewQ h cK v g d os Q) :
    wpAny (model PX w) kA (call (.ref cK) [v]) Q E ⟨h, g, d, tk, os⟩ := by
  obtain ⟨ns, fI, fL, fE, cI, cL, cE, ce, de, bs, tok, val, pm, rest⟩ := r
  obtain ⟨hK, hN, hI, hcI, _, _, _, _, _, hde⟩ := K
  dsimp only at hK hN hI hcI hde
  x_run
local macro_rules | `(tactic| x_close) => `(tactic| assumption)
theorem k_obj {w : World} {h : Heap} {g : Array GenState} {d : Drawn} {tk : Nat} {os : OsState} {cK x dx : Addr} {f v : Value} {r : KRec} {tn : Tok} {Q E : Value → Shared → Prop} (h2 : (statF w.params).In h) (K : KFacts h.get? PX w.params cK f r)
    (hx : h.get? x = some { cls := .ref cK, dict := some dx, data := .plain, slots := #[some v] }) (hQ : Q v ⟨h, g, d, tk, os⟩) :
    wpAny (model PX w) kA (runValue (.builtin "proto.getattr_hooked" ⟨[.ref x, .str "obj" tn], []⟩)) Q E ⟨h, g, d, tk, os⟩ := by
  obtain ⟨ns, fI, fL, fE, cI, cL, cE, ce, de, bs, tok, val, pm, rest⟩ := r
  obtain ⟨hK, hN, _, _, _, _, _, _, _, hde⟩ := K
  dsimp only at hK hN hde
  x_run
end Lay

/- part TN0 -/
open PySem PySem.W PyProof.Rows
set_option Elab.async false
set_option linter.unusedVariables false
set_option maxRecDepth 100000
namespace Lay
theorem ext_object : Builtin.extendedBase [.type "object"] = pure (.type "object") := by kernel_rfl
theorem turned_object : Builtin.notOverATurnedClass [.type "object"] = pure () := by kernel_rfl
theorem lin_object : Builtin.linearize [.type "object"] mroOf = pure [.type "object"] := by kernel_rfl
theorem best_object : Builtin.Slots.bestBase [.type "object"] = pure (.type "object") := by kernel_rfl
theorem weak_object : Builtin.Slots.givesWeak (.type "object") = pure false := by kernel_rfl
theorem dict_object : Builtin.Slots.givesDict (.type "object") = pure false := by kernel_rfl
theorem var_object : Builtin.Slots.varSize (.type "object") = pure false := by kernel_rfl
theorem isT_object : isType (.type "object") = pure true := by kernel_rfl
theorem hook_type : Builtin.mroHook? (.type "type") = pure none := by kernel_rfl
theorem made_object : Bind.madeBy (.type "object") = pure (some "object.__new__") := by kernel_rfl
theorem sub_tt : isSubtype (.type "type") (.type "type") = pure true := by kernel_rfl
theorem sub_dd : isSubtype (.type "dict") (.type "dict") = pure true := by kernel_rfl
theorem names_object : Builtin.Slots.slotNamesOf (.type "object") = pure [] := by kernel_rfl
theorem type_object : typeOf (.type "object") = pure (.type "type") := by kernel_rfl
theorem iter_dict : typeLookup (.type "dict") (Str.ofString "__iter__") = pure (some (.builtin "dict.__iter__")) := by kernel_rfl

theorem look_object_new : typeLookup (.type "object") "__new__" = pure (some (.builtin "object.__new__")) := by rw [typeLookup_type, builtinLookup_eq_fast]; kernel_rfl
theorem sn_str : typeLookup (.type "str") "__set_name__" = pure none := by rw [typeLookup_type, builtinLookup_eq_fast]; kernel_rfl
theorem sn_int : typeLookup (.type "int") "__set_name__" = pure none := by rw [typeLookup_type, builtinLookup_eq_fast]; kernel_rfl
theorem sn_list : typeLookup (.type "list") "__set_name__" = pure none := by rw [typeLookup_type, builtinLookup_eq_fast]; kernel_rfl
theorem sn_function : typeLookup (.type "function") "__set_name__" = pure none := by rw [typeLookup_type, builtinLookup_eq_fast]; kernel_rfl
theorem sn_NoneType : typeLookup (.type "NoneType") "__set_name__" = pure none := by rw [typeLookup_type, builtinLookup_eq_fast]; kernel_rfl
theorem sn_tuple : typeLookup (.type "tuple") "__set_name__" = pure none := by rw [typeLookup_type, builtinLookup_eq_fast]; kernel_rfl
theorem sn_member_descriptor : typeLookup (.type "member_descriptor") "__set_name__" = pure none := by rw [typeLookup_type, builtinLookup_eq_fast]; kernel_rfl
end Lay

/- part TN1 -/
open PySem PySem.W PyProof.Rows
set_option Elab.async false
set_option linter.unusedVariables false
set_option maxRecDepth 100000
namespace Lay
theorem slots_read {prog : Program} {w : World} {A : Around} {s : Shared} {lS : Addr} {nl : Nat} {u3 : Tok} {es : Array DictEntry} {e : DictEntry} {Q : Builtin.Slots.Plan → Shared → Prop} {E : Value → Shared → Prop}
    (hf : es.find? (fun x => x.key.isStr "__slots__") = some e) (he : e.val = .ref lS) (hany : es.any (fun x => x.key.isStr "obj") = false)
    (hl : s.heap.get? lS = some { cls := .type "list", dict := none, data := .seq #[.str "obj" u3] nl, slots := #[] })
    (h : ∀ h', (∀ b o, s.heap.get? b = some o → h'.get? b = some o) → Q { names := ["obj"], dict := false, weak := false, inherited := [] } { s with heap := h' }) :
    wpAny (model prog w) A (Builtin.Slots.read "K" [.type "object"] es) Q E s := by
  unfold Builtin.Slots.read
  refine wpAny_bind (wpAny_of_eq best_object ?_)
  refine wpAny_bind (wpAny_of_eq names_object ?_)
  refine wpAny_bind (wpAny_of_eq dict_object ?_)
  refine wpAny_bind (wpAny_of_eq weak_object ?_)
  refine wpAny_bind (wpAny_of_eq var_object ?_)
  dsimp only
  rw [hf]
  dsimp only
  rw [he]
  refine wpAny_bind (wpAny_rule ?_)
  refine wpAny_bind ?_
  unfold asStr?
  refine wpAny_bind (wpAny_load hl ?_)
  refine wpAny_pure (wpAny_ite_false rfl ?_)
  have hL : s.heap.IsList lS ([Value.str (Str.ofString "obj") u3] : List Value).toArray := ⟨_, hl, rfl, nl, rfl⟩
  refine wpAny_bind (collect_list hL ?_ (by show (1 : Nat) ≤ _; decide))
  refine wpAny_ite_true rfl ?_
  refine wpAny_bind (wpAny_of_eq var_object ?_)
  refine wpAny_ite_false rfl ?_
  refine wpAny_bind (wpAny_of_eq (a := (false, false, #[Str.ofString "obj"], ([] : List Str))) (by kernel_rfl) ?_)
  have hm : Builtin.Slots.mangle (Str.ofString "K") (Str.ofString "obj") = Str.ofString "obj" := by rfl
  dsimp only
  simp only [List.forIn_toArray, List.forIn_cons, List.forIn_nil, hm, hany, Bool.false_and, Bool.false_eq_true, if_false]
  refine wpAny_of_eq (a := ({ names := ["obj"], dict := false, weak := false, inherited := [] } : Builtin.Slots.Plan)) (by kernel_rfl) ?_
  refine h _ (fun b o hb => ?_)
  have hne : b ≠ s.heap.objs.size := Nat.ne_of_lt (Heap.lt_size hb)
  refine (Heap.get?_update_other _ _ ?_).trans (Heap.get?_push_of_some _ hb)
  first | exact hne | exact hne.symm
end Lay

/- part TN3 -/
open PySem PySem.W PyProof.Rows
set_option Elab.async false
set_option linter.unusedVariables false
set_option maxRecDepth 100000
namespace Lay
theorem ng {M : Model} {A : Around} {s : Shared} {ns : Addr} {name : Str} {o : Obj} {r : Option Value} {Q : Option Value → Shared → Prop} {E : Value → Shared → Prop} (ho : s.heap.get? ns = some o) (hr : nsLook name o = pure r) (q : Q r s) :
    wpAny M A (nsGet ns name) Q E s := by
  unfold nsGet; exact wpAny_bind (wpAny_loadPart ho (wpAny_of_eq hr q))
theorem nss {M : Model} {A : Around} {s : Shared} {a : Addr} {name : Str} {v : Value} {es : Array DictEntry} {ep : Nat} {Q : Unit → Shared → Prop} {E : Value → Shared → Prop}
    (ho : s.heap.get? a = some { cls := .type "dict", dict := none, data := .dict es ep, slots := #[] }) (hr : aRefKeyMayBeTheName name es = false)
    (q : Q () { s with heap := s.heap.update a (Obj.putName name (PyData.keyHash M.w.params name) (.str name s.toks) v), toks := s.toks + 1 }) : wpAny M A (nsSet a name v) Q E s := by
  unfold nsSet
  refine wpAny_bind ?_
  unfold strHash
  refine wpAny_bind (wpAny_askSetting ?_)
  refine wpAny_pure ?_
  refine wpAny_bind (wpAny_mkText ?_)
  refine wpAny_bind (wpAny_loadPart ho ?_)
  refine wpAny_ite_false (by rw [hr]; rfl) ?_
  exact wpAny_updatePart ho q
/-- the heap while the class is made: what was stays, the namespace and the class change -/
structure TS (F : FZ) (h : Heap) (ns cK : Addr) (on oc : Obj) : Prop where
  keep : ∀ b o, F b = some o → h.get? b = some o
  n : h.get? ns = some on
  c : h.get? cK = some oc
  nn : F ns = none
  cn : F cK = none
  ne : ns ≠ cK
variable {F : FZ} {h : Heap} {ns cK : Addr} {on oc on' oc' : Obj}
theorem TS.un (T : TS F h ns cK on oc) {f : Obj → Obj} (hf : f on = on') (fr : on'.isFreed = false) : TS F (h.update ns f) ns cK on' oc where
  keep b o e := by
    have hb : b ≠ ns := fun e' => by rw [e', T.nn] at e; cases e
    exact (Heap.get?_update_other _ _ (by first | exact hb | exact hb.symm)).trans (T.keep b o e)
  n := by rw [Heap.get?_update_self f T.n (by rw [hf]; exact fr), hf]
  c := (Heap.get?_update_other _ _ (by first | exact T.ne | exact T.ne.symm)).trans T.c
  nn := T.nn
  cn := T.cn
  ne := T.ne
theorem TS.uc (T : TS F h ns cK on oc) {f : Obj → Obj} (hf : f oc = oc') (fr : oc'.isFreed = false) : TS F (h.update cK f) ns cK on oc' where
  keep b o e := by
    have hb : b ≠ cK := fun e' => by rw [e', T.cn] at e; cases e
    exact (Heap.get?_update_other _ _ (by first | exact hb | exact hb.symm)).trans (T.keep b o e)
  c := by rw [Heap.get?_update_self f T.c (by rw [hf]; exact fr), hf]
  n := (Heap.get?_update_other _ _ (by first | exact T.ne | exact T.ne.symm)).trans T.n
  nn := T.nn
  cn := T.cn
  ne := T.ne
theorem TS.new (T : TS F h ns cK on oc) (o : Obj) (fr : o.isFreed = false) : TS (fput F h.objs.size o) (h.push o) ns cK on oc ∧ F h.objs.size = none := by
  have hn : F h.objs.size = none := by
    cases e : F h.objs.size with
    | none => rfl
    | some o' => exact absurd (Heap.lt_size (T.keep _ _ e)) (Nat.lt_irrefl _)
  have h1 := Nat.ne_of_lt (Heap.lt_size T.n)
  have h2 := Nat.ne_of_lt (Heap.lt_size T.c)
  refine ⟨⟨fun b o' e => ?_, Heap.get?_push_of_some _ T.n, Heap.get?_push_of_some _ T.c, ?_, ?_, T.ne⟩, hn⟩
  · unfold fput at e
    split at e
    · next e1 => cases e; rw [e1]; exact Heap.get?_push_size _ fr
    · exact Heap.get?_push_of_some _ (T.keep b o' e)
  · unfold fput; rw [if_neg h1]; exact T.nn
  · unfold fput; rw [if_neg h2]; exact T.cn
theorem TS.le (T : TS F h ns cK on oc) (o : Obj) : FLe F (fput F h.objs.size o) := by
  have hn : F h.objs.size = none := by
    cases e : F h.objs.size with
    | none => rfl
    | some o' => exact absurd (Heap.lt_size (T.keep _ _ e)) (Nat.lt_irrefl _)
  exact fput_le hn

structure KP where
  (bT lS fI fL fG fE fQ fH sT : Addr) (u0 u1 u2 : Tok) (k : Nat → Tok)
def KP.e0 (p : KP) (P : Params) : Array DictEntry := #[
      { hash := PyData.keyHash P "__module__", key := .str "__module__" (p.k 0), val := .str "cpy313.functools" p.u0 },
      { hash := PyData.keyHash P "__qualname__", key := .str "__qualname__" (p.k 1), val := .str "cmp_to_key.<locals>.K" p.u1 },
      { hash := PyData.keyHash P "__firstlineno__", key := .str "__firstlineno__" (p.k 2), val := .int 4 p.u2 },
      { hash := PyData.keyHash P "__slots__", key := .str "__slots__" (p.k 3), val := .ref p.lS },
      { hash := PyData.keyHash P "__init__", key := .str "__init__" (p.k 4), val := .ref p.fI },
      { hash := PyData.keyHash P "__lt__", key := .str "__lt__" (p.k 5), val := .ref p.fL },
      { hash := PyData.keyHash P "__gt__", key := .str "__gt__" (p.k 6), val := .ref p.fG },
      { hash := PyData.keyHash P "__eq__", key := .str "__eq__" (p.k 7), val := .ref p.fE },
      { hash := PyData.keyHash P "__le__", key := .str "__le__" (p.k 8), val := .ref p.fQ },
      { hash := PyData.keyHash P "__ge__", key := .str "__ge__" (p.k 9), val := .ref p.fH },
      { hash := PyData.keyHash P "__hash__", key := .str "__hash__" (p.k 10), val := .none },
      { hash := PyData.keyHash P "__static_attributes__", key := .str "__static_attributes__" (p.k 11), val := .ref p.sT }]
def KP.e1 (p : KP) (P : Params) : Array DictEntry := #[
      { hash := PyData.keyHash P "__module__", key := .str "__module__" (p.k 0), val := .str "cpy313.functools" p.u0 },
      { hash := PyData.keyHash P "__firstlineno__", key := .str "__firstlineno__" (p.k 2), val := .int 4 p.u2 },
      { hash := PyData.keyHash P "__slots__", key := .str "__slots__" (p.k 3), val := .ref p.lS },
      { hash := PyData.keyHash P "__init__", key := .str "__init__" (p.k 4), val := .ref p.fI },
      { hash := PyData.keyHash P "__lt__", key := .str "__lt__" (p.k 5), val := .ref p.fL },
      { hash := PyData.keyHash P "__gt__", key := .str "__gt__" (p.k 6), val := .ref p.fG },
      { hash := PyData.keyHash P "__eq__", key := .str "__eq__" (p.k 7), val := .ref p.fE },
      { hash := PyData.keyHash P "__le__", key := .str "__le__" (p.k 8), val := .ref p.fQ },
      { hash := PyData.keyHash P "__ge__", key := .str "__ge__" (p.k 9), val := .ref p.fH },
      { hash := PyData.keyHash P "__hash__", key := .str "__hash__" (p.k 10), val := .none },
      { hash := PyData.keyHash P "__static_attributes__", key := .str "__static_attributes__" (p.k 11), val := .ref p.sT }]
def KP.e2 (p : KP) (P : Params) (k1 : Tok) (de : Addr) : Array DictEntry := #[
      { hash := PyData.keyHash P "__module__", key := .str "__module__" (p.k 0), val := .str "cpy313.functools" p.u0 },
      { hash := PyData.keyHash P "__firstlineno__", key := .str "__firstlineno__" (p.k 2), val := .int 4 p.u2 },
      { hash := PyData.keyHash P "__slots__", key := .str "__slots__" (p.k 3), val := .ref p.lS },
      { hash := PyData.keyHash P "__init__", key := .str "__init__" (p.k 4), val := .ref p.fI },
      { hash := PyData.keyHash P "__lt__", key := .str "__lt__" (p.k 5), val := .ref p.fL },
      { hash := PyData.keyHash P "__gt__", key := .str "__gt__" (p.k 6), val := .ref p.fG },
      { hash := PyData.keyHash P "__eq__", key := .str "__eq__" (p.k 7), val := .ref p.fE },
      { hash := PyData.keyHash P "__le__", key := .str "__le__" (p.k 8), val := .ref p.fQ },
      { hash := PyData.keyHash P "__ge__", key := .str "__ge__" (p.k 9), val := .ref p.fH },
      { hash := PyData.keyHash P "__hash__", key := .str "__hash__" (p.k 10), val := .none },
      { hash := PyData.keyHash P "__static_attributes__", key := .str "__static_attributes__" (p.k 11), val := .ref p.sT },
      { hash := PyData.keyHash P "obj", key := .str "obj" (k1), val := .ref de }]
def KP.e3 (p : KP) (P : Params) (k1 k2 : Tok) (de : Addr) : Array DictEntry := #[
      { hash := PyData.keyHash P "__module__", key := .str "__module__" (p.k 0), val := .str "cpy313.functools" p.u0 },
      { hash := PyData.keyHash P "__firstlineno__", key := .str "__firstlineno__" (p.k 2), val := .int 4 p.u2 },
      { hash := PyData.keyHash P "__slots__", key := .str "__slots__" (p.k 3), val := .ref p.lS },
      { hash := PyData.keyHash P "__init__", key := .str "__init__" (p.k 4), val := .ref p.fI },
      { hash := PyData.keyHash P "__lt__", key := .str "__lt__" (p.k 5), val := .ref p.fL },
      { hash := PyData.keyHash P "__gt__", key := .str "__gt__" (p.k 6), val := .ref p.fG },
      { hash := PyData.keyHash P "__eq__", key := .str "__eq__" (p.k 7), val := .ref p.fE },
      { hash := PyData.keyHash P "__le__", key := .str "__le__" (p.k 8), val := .ref p.fQ },
      { hash := PyData.keyHash P "__ge__", key := .str "__ge__" (p.k 9), val := .ref p.fH },
      { hash := PyData.keyHash P "__hash__", key := .str "__hash__" (p.k 10), val := .none },
      { hash := PyData.keyHash P "__static_attributes__", key := .str "__static_attributes__" (p.k 11), val := .ref p.sT },
      { hash := PyData.keyHash P "obj", key := .str "obj" (k1), val := .ref de },
      { hash := PyData.keyHash P "__doc__", key := .str "__doc__" (k2), val := .none }]
def clsO (c : ClassData) (sl : Array (Option Value)) : Obj := { cls := .type "type", dict := none, data := .cls c, slots := sl }
def kc0 (ns : Addr) : ClassData := { name := "K", bases := [.type "object"], mro := [], ns := ns, qualname := "cmp_to_key.<locals>.K" }
def kc1 (ns cK : Addr) : ClassData := { name := "K", bases := [.type "object"], mro := [.ref cK, .type "object"], ns := ns, qualname := "cmp_to_key.<locals>.K" }
def dictO (es : Array DictEntry) (n : Nat) : Obj := { cls := .type "dict", dict := none, data := .dict es n, slots := #[] }
theorem slots_read' {prog : Program} {w : World} {A : Around} {h : Heap} {g : Array GenState} {d : Drawn} {t : Nat} {os : OsState} {lS : Addr} {nl : Nat} {u3 : Tok} {es : Array DictEntry} {e : DictEntry} {Q : Builtin.Slots.Plan → Shared → Prop} {E : Value → Shared → Prop}
    (hf : es.find? (fun x => x.key.isStr "__slots__") = some e) (he : e.val = .ref lS) (hany : es.any (fun x => x.key.isStr "obj") = false)
    (hl : h.get? lS = some { cls := .type "list", dict := none, data := .seq #[.str "obj" u3] nl, slots := #[] }) {F : FZ} (hF : ∀ b o, F b = some o → h.get? b = some o)
    (q : ∀ h', (∀ b o, F b = some o → h'.get? b = some o) → Q { names := ["obj"], dict := false, weak := false, inherited := [] } ⟨h', g, d, t, os⟩) :
    wpAny (model prog w) A (Builtin.Slots.read "K" [.type "object"] es) Q E ⟨h, g, d, t, os⟩ :=
  slots_read (s := ⟨h, g, d, t, os⟩) hf he hany hl fun h' k => q h' fun b o e => k b o (hF b o e)
section
variable {M : Model} {A : Around} {g : Array GenState} {d : Drawn} {t : Nat} {os : OsState} {E : Value → Shared → Prop}
theorem st_first {T : String} {data : Data} {Q : Value → Shared → Prop} (hF : ∀ b o, F b = some o → h.get? b = some o) (hd : sizeOk data) (fr : ({ cls := .type T, dict := none, data := data, slots := #[] } : Obj).isFreed = false)
    (q : ∀ h' ns, F ns = none → (∀ b o, F b = some o → h'.get? b = some o) → h'.get? ns = some { cls := .type T, dict := none, data := data, slots := #[] } → Q (.ref ns) ⟨h', g, d, t, os⟩) :
    wpAny M A (newObj (.type T) data) Q E ⟨h, g, d, t, os⟩ := by
  refine wpAny_newObj_type (q _ _ ?_ (fun b o e => Heap.get?_push_of_some _ (hF b o e)) (Heap.get?_push_size _ fr)) hd
  cases e : F h.objs.size with
  | none => rfl
  | some o' => exact absurd (Heap.lt_size (hF _ _ e)) (Nat.lt_irrefl _)
theorem st_cls {Q : Addr → Shared → Prop} (hF : ∀ b o, F b = some o → h.get? b = some o) (hn : h.get? ns = some on) (nn : F ns = none) (fr : oc.isFreed = false)
    (q : ∀ h' cK, TS F h' ns cK on oc → Q cK ⟨h', g, d, t, os⟩) : wpAny M A (alloc oc) Q E ⟨h, g, d, t, os⟩ := by
  refine wpAny_alloc (q _ _ ⟨fun b o e => Heap.get?_push_of_some _ (hF b o e), Heap.get?_push_of_some _ hn, Heap.get?_push_size _ fr, nn, ?_, Nat.ne_of_lt (Heap.lt_size hn)⟩)
  show F h.objs.size = none
  cases e : F h.objs.size with
  | none => rfl
  | some o' => exact absurd (Heap.lt_size (hF _ _ e)) (Nat.lt_irrefl _)
theorem st_slot {i : Nat} {v : Option Value} {Q : Unit → Shared → Prop} {c : ClassData} {sl : Array (Option Value)} (sl' : Array (Option Value)) (T : TS F h ns cK on (clsO c sl)) (hi : i < 100) (hs : (sl ++ Array.replicate (i + 1 - sl.size) none).setIfInBounds i v = sl')
    (q : ∀ h', TS F h' ns cK on (clsO c sl') → Q () ⟨h', g, d, t, os⟩) :
    wpAny M A (setSlotAt cK i v) Q E ⟨h, g, d, t, os⟩ := by
  subst hs
  unfold setSlotAt
  refine wpAny_ite_false (by have : ¬ (i ≥ sizeLine) := Nat.not_le.mpr (Nat.lt_of_lt_of_le hi (by decide)); simp [this]) ?_
  exact wpAny_updatePart T.c (q _ (T.uc rfl rfl))
theorem st_data {a : Addr} {c : ClassData} {o : Obj} {Q : ClassData → Shared → Prop} {s : Shared} (hc : s.heap.get? a = some o) (hd : o.data = .cls c) (q : Q c s) : wpAny M A (classData a) Q E s := by
  unfold classData
  refine wpAny_bind (wpAny_load hc ?_)
  rw [hd]
  exact wpAny_pure q
theorem st_cupd {c : ClassData} (c' : ClassData) {f : ClassData → ClassData} {sl : Array (Option Value)} {Q : Unit → Shared → Prop}
    (T : TS F h ns cK on (clsO c sl)) (hc : f c = c') (hp : (Data.cls c').pastItsLine = none)
    (q : ∀ h', TS F h' ns cK on (clsO c' sl) → Q () ⟨h', g, d, t, os⟩) : wpAny M A (updateCls cK f) Q E ⟨h, g, d, t, os⟩ := by
  subst hc
  unfold updateCls
  refine wpAny_bind (wpAny_load T.c ?_)
  refine wpAny_bind (wpAny_update T.c ?_)
  have T' := T.uc (f := Obj.mapCls f) (oc' := clsO (f c) sl) rfl rfl
  exact wpAny_lookBehind T'.c hp (q _ T')
theorem st_del {name : Str} {on on' : Obj} {Q : Bool → Shared → Prop} (T : TS F h ns cK on oc) (hh : nsHas name on = pure true) (hd : Obj.dropName name on = on') (fr : on'.isFreed = false)
    (q : ∀ h', TS F h' ns cK on' oc → Q true ⟨h', g, d, t, os⟩) : wpAny M A (nsDel ns name) Q E ⟨h, g, d, t, os⟩ := by
  unfold nsDel
  refine wpAny_bind (wpAny_loadPart T.n ?_)
  refine wpAny_bind (wpAny_of_eq hh ?_)
  refine wpAny_ite_true rfl ?_
  exact wpAny_bind (wpAny_updatePart T.n (wpAny_pure (q _ (T.un hd fr))))
theorem st_set {name : Str} {v : Value} {es : Array DictEntry} {ep : Nat} {on' : Obj} {Q : Unit → Shared → Prop} (T : TS F h ns cK (dictO es ep) oc) (hr : aRefKeyMayBeTheName name es = false)
    (hd : Obj.putName name (PyData.keyHash M.w.params name) (.str name t) v (dictO es ep) = on') (fr : on'.isFreed = false)
    (q : ∀ h', TS F h' ns cK on' oc → Q () ⟨h', g, d, t + 1, os⟩) : wpAny M A (nsSet ns name v) Q E ⟨h, g, d, t, os⟩ :=
  nss T.n hr (q _ (T.un hd fr))
theorem st_setV {name : Str} {v : Value} {es : Array DictEntry} {ep : Nat} {on' : Obj} {Q : Unit → Shared → Prop} (T : TS F h ns cK (dictO es ep) oc) (hz : es.size < 100) (hr : aRefKeyMayBeTheName name es = false)
    (hd : Obj.putName name (PyData.keyHash M.w.params name) (.str name t) v (dictO es ep) = on') (fr : on'.isFreed = false)
    (q : ∀ h', TS F h' ns cK on' oc → Q () ⟨h', g, d, t + 1, os⟩) : wpAny M A (nsSetByValue ns name v) Q E ⟨h, g, d, t, os⟩ := by
  unfold nsSetByValue
  refine wpAny_bind (wpAny_loadPart T.n ?_)
  refine wpAny_ite_false (by have : ¬ (es.size > sizeLine) := Nat.not_lt.mpr (Nat.le_trans (Nat.le_of_lt hz) (by decide)); simp [this]) ?_
  exact st_set T hr hd fr q
theorem st_new {T : String} {data : Data} {Q : Value → Shared → Prop} (K : TS F h ns cK on oc) (hd : sizeOk data) (fr : ({ cls := .type T, dict := none, data := data, slots := #[] } : Obj).isFreed = false)
    (q : ∀ h' a F', FLe F F' → F a = none → F' a = some { cls := .type T, dict := none, data := data, slots := #[] } → TS F' h' ns cK on oc → Q (.ref a) ⟨h', g, d, t, os⟩) :
    wpAny M A (newObj (.type T) data) Q E ⟨h, g, d, t, os⟩ :=
  wpAny_newObj_type (q _ _ _ (K.le _) (K.new _ fr).2 (fput_self ..) (K.new _ fr).1) hd
theorem st_look {name : Str} {c : ClassData} {sl : Array (Option Value)} {r y : Option Value} {Q : Option Value → Shared → Prop} (T : TS F h ns cK on (clsO c sl)) (hm : c.mro = [.ref cK, .type "object"]) (hns : c.ns = ns)
    (hr : nsLook name on = pure r) (hB : typeLookup (.type "object") name = pure y) (q : Q (match r with | some v => some v | none => y) ⟨h, g, d, t, os⟩) : wpAny M A (typeLookup (.ref cK) name) Q E ⟨h, g, d, t, os⟩ := by
  have hrest : lookupAlong [.type "object"] name = pure y := by rw [typeLookup_eq] at hB; exact hB
  rw [typeLookup_eq]
  refine wpAny_bind ?_
  unfold mroOf
  refine wpAny_bind (st_data T.c rfl (wpAny_pure ?_))
  rw [hm, lookupAlong_cons]
  refine wpAny_bind ?_
  unfold classOwn
  refine wpAny_bind (st_data T.c rfl ?_)
  rw [hns]
  refine ng T.n hr ?_
  cases r with
  | some v => exact wpAny_pure q
  | none => rw [hrest]; exact wpAny_pure q
def SetQ (s : Shared) (e : DictEntry) : Prop := Builtin.laidUnderItsOwnName e.key e.val = false ∧ ∃ T, s.TypeIs e.val T ∧ typeLookup (.type T) "__set_name__" = pure none
end
end Lay

/- part TN2 -/
open PySem PySem.W PyProof.Rows
set_option Elab.async false
set_option linter.unusedVariables false
set_option maxRecDepth 100000
namespace Lay
def hookOf (cK : Addr) : Sem Unit := do
  let sup ← call (.type "super") [.ref cK, .ref cK]
  let f ← holding [sup] (getAttr sup "__init_subclass__")
  let _ ← call f
  pure ()
def kSlots (p : KP) (t : Tok) : Array (Option Value) := #[(some (.ref p.bT)), none, (some (.str "K" t)), (some (.str "cmp_to_key.<locals>.K" p.u1)), (some (.builtin "object.__new__")), (some (.bool false))]
theorem type_new {prog : Program} {w : World} {A : Around} {h : Heap} {g : Array GenState} {d : Drawn} {tk : Nat} {os : OsState} {nA : Addr} {t : Tok} {nb nn nl : Nat} {p : KP} {u3 : Tok} {Q : Fin → Shared → Prop} {E : Value → Shared → Prop} {F : FZ} (hF : ∀ b o, F b = some o → h.get? b = some o)
    (hb : h.get? p.bT = some { cls := .type "tuple", dict := none, data := .seq #[.type "object"] nb, slots := #[] })
    (hn : h.get? nA = some { cls := .type "dict", dict := none, data := .dict (p.e0 w.params) nn, slots := #[] })
    (hfI : ∃ o, F p.fI = some o ∧ o.cls = .type "function") (hfL : ∃ o, F p.fL = some o ∧ o.cls = .type "function") (hfG : ∃ o, F p.fG = some o ∧ o.cls = .type "function") (hfE : ∃ o, F p.fE = some o ∧ o.cls = .type "function") (hfQ : ∃ o, F p.fQ = some o ∧ o.cls = .type "function") (hfH : ∃ o, F p.fH = some o ∧ o.cls = .type "function") (hsT : ∃ o, F p.sT = some o ∧ o.cls = .type "tuple") (hlS : ∃ o, F p.lS = some o ∧ o.cls = .type "list")
    (hsys : (nA == sysModules) = false) (hl : h.get? p.lS = some { cls := .type "list", dict := none, data := .seq #[.str "obj" u3] nl, slots := #[] })
    (q : ∀ h' ns cK de F' E', FLe F F' → F de = none → F' de = some { cls := .type "member_descriptor", dict := none, data := .fields #[.str "obj" tk, .ref cK, .builtin "proto.slot", .builtin "proto.slot#set", .int 0 0], slots := #[] } →
      TS F' h' ns cK (dictO (p.e3 w.params (tk + 1) (tk + 1 + 1) de) 3) (clsO (kCls ns cK) (kSlots p t)) → wpAny (model prog w) A (hookOf cK) (fun _ s' => wpAny (model prog w) A (ret (.ref cK)) Q E s') E' ⟨h', g, d, tk + 1 + 1 + 1, os⟩) :
    wpAny (model prog w) A (Builtin.«type.__new__» ⟨[.type "type", .str "K" t, .ref p.bT, .ref nA], []⟩) Q E ⟨h, g, d, tk, os⟩ := by
  have f1 := AutoSeq1.sub_tuple_tuple
  have f2 := ext_object
  have f3 := turned_object
  have f4 := isT_object
  have f5 := sub_tt
  have f6 := sub_dd
  have f7 := type_object
  have f8 := iter_dict
  have f9 : isSubtype ({ cls := .type "tuple", dict := none, data := .seq #[.type "object"] nb, slots := #[] } : Obj).cls (.type "tuple") = pure true := f1
  unfold Builtin.«type.__new__»
  refine wpAny_bind ?_
  refine wpAny_of_eq (a := some (Str.ofString "K")) rfl ?_
  refine wpAny_bind (wpAny_isInstance (T := "tuple") ⟨_, hb, rfl⟩ f1 ?_)
  refine wpAny_ite_false rfl ?_
  refine wpAny_bind (wpAny_isInstance (T := "dict") ⟨_, hn, rfl⟩ f6 ?_)
  refine wpAny_ite_false rfl ?_
  refine wpAny_bind (wpAny_seqItems hb rfl ?_)
  refine wpAny_ite_false rfl ?_
  refine wpAny_bind (wpAny_of_eq (a := PUnit.unit) (by kernel_rfl) ?_)
  refine wpAny_bind (wpAny_of_eq (a := Value.type "type") (by kernel_rfl) ?_)
  refine wpAny_ite_false rfl ?_
  refine wpAny_bind (wpAny_of_eq f3 ?_)
  refine wpAny_bind (wpAny_of_eq f2 ?_)
  refine wpAny_ite_false (by rw [hsys]; rfl) ?_

  refine wpAny_bind (wpAny_bind (wpAny_bind (wpAny_loadPart hn ?_)))
  refine wpAny_pure ?_
  refine wpAny_pure ?_
  refine wpAny_bind (wpAny_specialOf (T := "dict") (r := some (.builtin "dict.__iter__")) ?hT f8 ?_)
  case hT => exact ⟨_, hn, rfl⟩
  refine wpAny_ite_true rfl ?_
  refine wpAny_bind (wpAny_pure ?_)
  dsimp only
  refine wpAny_bind (wpAny_holding (slots_read' (lS := p.lS) (e := { hash := PyData.keyHash w.params "__slots__", key := .str "__slots__" (p.k 3), val := .ref p.lS }) (by kernel_rfl) rfl (by kernel_rfl) hl hF ?_))
  intro h1 k1
  refine wpAny_bind (st_first k1 (by show (12 : Nat) ≤ _; decide) rfl ?_)
  intro h2 ns nn2 k2 n2
  refine wpAny_ite_false (by kernel_rfl) ?_
  refine wpAny_bind (wpAny_of_eq (a := PUnit.unit) (by kernel_rfl) ?_)
  refine wpAny_ite_false (by kernel_rfl) ?_
  refine wpAny_bind (ng (r := some (.str "cmp_to_key.<locals>.K" p.u1)) n2 (by kernel_rfl) ?_)
  refine wpAny_bind (ng (r := some (.str "cmp_to_key.<locals>.K" p.u1)) n2 (by kernel_rfl) ?_)
  refine wpAny_bind (wpAny_of_eq (a := some (Str.ofString "cmp_to_key.<locals>.K")) rfl ?_)
  refine wpAny_bind (wpAny_pure ?_)
  refine wpAny_bind (ng (r := none) n2 (by kernel_rfl) ?_)
  refine wpAny_bind (st_cls (oc := clsO (kc0 ns) #[]) k2 n2 nn2 rfl ?_)
  intro h3 cK T3
  refine wpAny_ite_true rfl ?_
  refine wpAny_bind (st_slot #[(some (.ref p.bT))] T3 (by decide) rfl ?_)
  intro h4 T4
  refine wpAny_bind (st_slot #[(some (.ref p.bT)), none, (some (.str "K" t))] T4 (by decide) rfl ?_)
  intro h5 T5
  refine wpAny_bind (st_slot #[(some (.ref p.bT)), none, (some (.str "K" t)), (some (.str "cmp_to_key.<locals>.K" p.u1))] T5 (by decide) rfl ?_)
  intro h6 T6
  refine wpAny_bind (st_del (on' := dictO (p.e1 w.params) 1) T6 (by kernel_rfl) (by kernel_rfl) rfl ?_)
  intro h7 T7
  refine wpAny_bind (ng (r := none) T7.n (by kernel_rfl) ?_)
  refine wpAny_bind ?_
  simp only [List.forIn_cons, List.forIn_nil]
  refine wpAny_bind (wpAny_bind (ng (r := none) T7.n (by kernel_rfl) ?_))
  refine wpAny_pure ?_
  refine wpAny_bind (wpAny_bind (ng (r := none) T7.n (by kernel_rfl) ?_))
  refine wpAny_pure ?_
  refine wpAny_pure ?_
  refine wpAny_bind (ng (r := none) T7.n (by kernel_rfl) ?_)
  refine wpAny_bind (ng (r := none) T7.n (by kernel_rfl) ?_)
  refine wpAny_bind (wpAny_of_eq hook_type ?_)
  refine wpAny_bind (wpAny_of_eq lin_object ?_)
  refine wpAny_bind (wpAny_pure ?_)
  refine wpAny_bind (wpAny_of_eq (a := false) ?hany ?_)
  case hany =>
    have e : List.filter (fun x => x != Value.ref cK) [.ref cK, .type "object"] = [.type "object"] := by
      rw [List.filter_cons_of_neg (by simp)]; rfl
    rw [e]
    kernel_rfl
  refine wpAny_bind (st_cupd (kc1 ns cK) T7 (by kernel_rfl) rfl ?_)
  intro h8 T8
  refine wpAny_bind (wpAny_of_eq made_object ?_)
  refine wpAny_bind (st_slot #[(some (.ref p.bT)), none, (some (.str "K" t)), (some (.str "cmp_to_key.<locals>.K" p.u1)), (some (.builtin "object.__new__"))] T8 (by decide) rfl ?_)
  intro h9 T9
  refine wpAny_bind ?_
  unfold Bind.refreshMaker
  refine wpAny_bind (wpAny_bind (wpAny_loadPart T9.c ?_))
  refine wpAny_pure ?_
  refine wpAny_ite_false (by kernel_rfl) ?_
  refine wpAny_bind (st_look (r := none) (y := some (.builtin "object.__new__")) T9 rfl rfl (by kernel_rfl) look_object_new ?_)
  refine wpAny_ite_false (by kernel_rfl) ?_
  refine wpAny_pure ?_
  refine wpAny_bind ?_
  unfold Builtin.Slots.install
  dsimp only
  simp only [List.forIn_cons, List.forIn_nil]
  refine wpAny_bind (wpAny_bind (wpAny_bind (ng (r := none) T9.n (by kernel_rfl) ?_)))
  refine wpAny_ite_true rfl ?_
  refine wpAny_bind (wpAny_mkStr' ?_)
  refine wpAny_bind (st_new (T := "member_descriptor") (data := .fields #[.str "obj" tk, .ref cK, .builtin "proto.slot", .builtin "proto.slot#set", .int 0 0]) T9 (by first | exact trivial | (show (5 : Nat) ≤ _; decide) | size_fits) rfl ?_)
  intro h10 de F' le10 fr10 d10 T10
  refine wpAny_bind (st_setV (on' := dictO (p.e2 w.params (tk + 1) de) 2) T10 (by show (11 : Nat) < 100; decide) (by kernel_rfl) (by kernel_rfl) rfl ?_)
  intro h11 T11
  refine wpAny_pure ?_
  refine wpAny_pure ?_
  refine wpAny_bind (wpAny_of_eq (a := false) ?hgd ?_)
  case hgd =>
    kernel_rfl
  refine wpAny_ite_false (by kernel_rfl) ?_
  refine st_cupd (kCls ns cK) T11 rfl rfl ?_
  intro h12 T12
  refine wpAny_bind (wpAny_of_eq weak_object ?_)
  refine wpAny_bind (st_slot #[(some (.ref p.bT)), none, (some (.str "K" t)), (some (.str "cmp_to_key.<locals>.K" p.u1)), (some (.builtin "object.__new__")), (some (.bool false))] T12 (by decide) rfl ?_)
  intro h13 T13
  refine wpAny_ite_false rfl ?_
  refine wpAny_ite_false rfl ?_
  refine wpAny_bind (ng (r := none) T13.n (by kernel_rfl) ?_)
  refine wpAny_ite_true rfl ?_
  refine wpAny_bind (st_set (on' := dictO (p.e3 w.params (tk + 1) (tk + 1 + 1) de) 3) T13 (by kernel_rfl) (by kernel_rfl) rfl ?_)
  intro h14 T14
  refine wpAny_bind (ng (r := some (.ref p.fE)) T14.n (by kernel_rfl) ?_)
  refine wpAny_ite_true rfl ?_
  refine wpAny_bind (ng (r := some .none) T14.n (by kernel_rfl) ?_)
  refine wpAny_ite_false rfl ?_
  refine wpAny_bind (wpAny_of_eq (a := PUnit.unit) ?hnote ?_)
  case hnote => kernel_rfl
  refine wpAny_bind (wpAny_tryCatch (wpAny_holding ?_))
  refine wpAny_bind (wpAny_bind (wpAny_loadPart T14.n ?_))
  refine wpAny_pure ?_
  refine wpAny_bind (wpAny_of_eq (a := false) ?hstr ?_)
  case hstr => kernel_rfl
  refine wpAny_ite_false rfl ?_
  refine wpAny_bind (wpAny_bind (wpAny_loadPart T14.n ?_))
  refine wpAny_pure ?_
  have up : ∀ {a : Addr} {T : String}, (∃ o, F a = some o ∧ o.cls = .type T) → Shared.TypeIs ⟨h14, g, d, tk + 1 + 1 + 1, os⟩ (.ref a) T := fun ⟨o, e, c⟩ => ⟨o, T14.keep _ _ (le10 _ _ e), c⟩
  have hS : ∀ e ∈ (p.e3 w.params (tk + 1) (tk + 1 + 1) de).toList, SetQ ⟨h14, g, d, tk + 1 + 1 + 1, os⟩ e := by
    show ∀ e ∈ [_, _, _, _, _, _, _, _, _, _, _, _, _], _
    simp only [List.forall_mem_cons, List.not_mem_nil, false_implies, implies_true, and_true]
    exact ⟨⟨rfl, _, rfl, sn_str⟩, ⟨rfl, _, rfl, sn_int⟩, ⟨rfl, _, up hlS, sn_list⟩, ⟨rfl, _, up hfI, sn_function⟩, ⟨rfl, _, up hfL, sn_function⟩, ⟨rfl, _, up hfG, sn_function⟩, ⟨rfl, _, up hfE, sn_function⟩, ⟨rfl, _, up hfQ, sn_function⟩, ⟨rfl, _, up hfH, sn_function⟩,
      ⟨rfl, _, rfl, sn_NoneType⟩, ⟨rfl, _, up hsT, sn_tuple⟩, ⟨rfl, _, ⟨_, T14.keep _ _ d10, rfl⟩, sn_member_descriptor⟩, ⟨rfl, _, rfl, sn_NoneType⟩⟩
  refine wpAny_bind (wpAny_forIn_array' _ (fun rest _ s => s = ⟨h14, g, d, tk + 1 + 1 + 1, os⟩ ∧ ∀ e ∈ rest, SetQ s e) _ ?turn ?fin _ _ ⟨rfl, hS⟩)
  case turn =>
    rintro e rest b s ⟨rfl, hP⟩
    obtain ⟨hl1, T, hT, ht⟩ := hP e (List.mem_cons_self ..)
    refine wpAny_ite_false (by rw [hl1]; rfl) ?_
    refine wpAny_bind (wpAny_specialOf hT ht ?_)
    exact wpAny_pure ⟨rfl, fun e he => hP e (List.mem_cons_of_mem _ he)⟩
  rintro _ s ⟨rfl, _⟩
  exact q _ _ _ _ _ _ le10 fr10 d10 T14
end Lay

/- part RTN4 -/
open PySem PySem.W PyProof.Rows
set_option Elab.async false
set_option linter.unusedVariables false
set_option maxRecDepth 100000
set_option maxHeartbeats 0
namespace Lay
def SupQ (h : Heap) (cK : Addr) (g : Array GenState) (d : Drawn) (os : OsState) (Q : Value → Shared → Prop) : Prop :=
  ∀ a h' tk', (∀ b o, h.get? b = some o → h'.get? b = some o) → h.get? a = none → h'.get? a = some { cls := .type "super", dict := none, data := .fields #[.ref cK, .ref cK, .ref cK], slots := #[] } → Q (.ref a) ⟨h', g, d, tk', os⟩
theorem SupQ.use {h h' : Heap} {cK a : Addr} {g : Array GenState} {d : Drawn} {os : OsState} {tk' : Nat} {r : List (Addr × Obj)} {Q : Value → Shared → Prop} (x : SupQ h cK g d os Q)
    (D : X.Mem h h' [] ((a, { cls := .type "super", dict := none, data := .fields #[.ref cK, .ref cK, .ref cK], slots := #[] }) :: r)) : Q (.ref a) ⟨h', g, d, tk', os⟩ :=
  x a h' tk' (fun b o e => D.keep b o e (by simp [X.away])) (D.nw _ (.head _)).2 (D.nw _ (.head _)).1
local macro_rules | `(tactic| x_close) => `(tactic| first | exact SupQ.use (by assumption) (by assumption))
theorem sup_new {w : World} {h : Heap} {g : Array GenState} {d : Drawn} {tk : Nat} {os : OsState} {p : KP} {t k1 k2 : Tok} {ns cK de : Addr} {Q E : Value → Shared → Prop} (h2 : (statF w.params).In h)
    (hN : h.get? ns = some (dictO (p.e3 w.params k1 k2 de) 3)) (hK : h.get? cK = some (clsO (kCls ns cK) (kSlots p t)))
    (hQ : SupQ h cK g d os Q) :
    wpAny (model PX w) kA (call (.type "super") [.ref cK, .ref cK]) Q E ⟨h, g, d, tk, os⟩ := by
  unfold dictO KP.e3 at hN
  unfold clsO kCls kSlots at hK
  x_run
end Lay

/- part RTN5 -/
open PySem PySem.W PyProof.Rows
set_option Elab.async false
set_option linter.unusedVariables false
set_option maxRecDepth 100000
set_option maxHeartbeats 0
namespace Lay
theorem look_super_ga : typeLookup (.type "super") "__getattribute__" = pure (some (.builtin "super.__getattribute__")) := by rw [typeLookup_type, builtinLookup_eq_fast]; kernel_rfl
theorem own_object_is : classOwn (.type "object") "__init_subclass__" = pure (some (.builtin "object.__init_subclass__")) := by kernel_rfl
theorem cmd_slot : Slot "classmethod_descriptor" "__get__" "classmethod_descriptor.__get__" := .of (owner := "classmethod_descriptor") (n := "__get__") (by rw [typeLookup_type, builtinLookup_eq_fast]; kernel_rfl) (by decide +kernel) (by decide +kernel) (by decide +kernel)
  (by first | exact .inl (by decide +kernel) | exact .inr (by decide +kernel)) (by rw [isSubtype_type]; kernel_rfl)
theorem cmd_entry : entryFor table "classmethod_descriptor.__get__" = some Builtin.«classmethod_descriptor.__get__» := entryFor_of_tree (by kernel_rfl)
theorem cmd_args (a b c : Value) : argsOk "classmethod_descriptor.__get__" ⟨[a, b, c], []⟩ := by unfold argsOk; kernel_rfl
theorem cmd_type : typeOf (.builtin "object.__init_subclass__") = pure (.type "classmethod_descriptor") := by kernel_rfl
theorem cmd_get {prog : Program} {w : World} {A : Around} {h : Heap} {g : Array GenState} {d : Drawn} {tk : Nat} {os : OsState} {cK : Addr} {ns : Addr} {sl : Array (Option Value)} {Q E : Value → Shared → Prop}
    (hK : h.get? cK = some (clsO (kCls ns cK) sl))
    (hq : ∀ h' b, h.get? b = none → (∀ y o, h.get? y = some o → h'.get? y = some o) → h'.get? b = some { cls := .type "builtin_function_or_method", dict := none, data := .fields #[.builtin "object.__init_subclass__", .ref cK], slots := #[] } → Q (.ref b) ⟨h', g, d, tk, os⟩) :
    wpAny (model prog w) A (call (.builtin "classmethod_descriptor.__get__") [.builtin "object.__init_subclass__", .none, .ref cK]) Q E ⟨h, g, d, tk, os⟩ := by
  refine wpAny_call_entry cmd_slot (show Shared.TypeIs _ _ _ from cmd_type) cmd_entry ?_ (cmd_args _ _ _)
  unfold Builtin.«classmethod_descriptor.__get__»
  refine wpAny_bind (wpAny_of_eq (a := (.builtin "object.__init_subclass__", none, some (.ref cK))) (by rfl) ?_)
  have hsb : Looks (model prog w) h (isSubtype (.ref cK) (.type "object")) true := by
    intro A Q E s k q
    unfold isSubtype mroOf classData
    refine wpAny_bind (wpAny_bind (wpAny_bind (wpAny_loadPart_at (k _ _ hK) ?_)))
    refine wpAny_pure (wpAny_pure (wpAny_pure ?_))
    have : ([.ref cK, .type "object"] : List Value).contains (.type "object") = true := by simp
    exact this ▸ q
  repeat (first
    | (with_reducible refine wpAny_bind (ks_wpAny_isType_cls hK rfl ?_))
    | wp_step)
  refine Looks.at hsb ?_
  simp only [Bool.not_true, Bool.false_eq_true, if_false]
  unfold newFields
  repeat (first | (with_reducible refine wpAny_newObj_type ?_ (by size_fits)) | wp_step)
  exact ⟨_, rfl, hq _ _ (by cases e : h.get? h.objs.size with | none => rfl | some o => exact absurd (Heap.lt_size e) (Nat.lt_irrefl _)) (fun y o e => Heap.get?_push_of_some _ e) (Heap.get?_push_at rfl rfl)⟩
theorem sup_get {prog : Program} {w : World} {A : Around} {h : Heap} {g : Array GenState} {d : Drawn} {tk : Nat} {os : OsState} {p : KP} {t : Tok} {a ns cK : Addr} {Q E : Value → Shared → Prop}
    (ho : nsIn (statF w.params) cStatics "thirdparty.any" = some none) (h2 : (statF w.params).In h)
    (hK : h.get? cK = some (clsO (kCls ns cK) (kSlots p t))) (ha : h.get? a = some { cls := .type "super", dict := none, data := .fields #[.ref cK, .ref cK, .ref cK], slots := #[] })
    (hq : ∀ h' b, h.get? b = none → (∀ y o, h.get? y = some o → h'.get? y = some o) → h'.get? b = some { cls := .type "builtin_function_or_method", dict := none, data := .fields #[.builtin "object.__init_subclass__", .ref cK], slots := #[] } → Q (.ref b) ⟨h', g, d, tk + 1, os⟩) :
    wpAny (model prog w) A (getAttr (.ref a) "__init_subclass__") Q E ⟨h, g, d, tk, os⟩ := by
  have hlk := F.ks_slot_super_ga.lookup
  have hT : ∀ t', (⟨h, g, d, t', os⟩ : Shared).TypeIs (.ref a) "super" := fun _ => ⟨_, ha, rfl⟩
  unfold getAttr getAttrBy
  refine wpAny_bind (wpAny_mkText (wpAny_holding (wpAny_bind (wpAny_typeOf (hT _) (wpAny_bind (wpAny_of_eq hlk ?_))))))
  show wpAny _ _ (getAttrByItsOwn (.ref a) (.str "__init_subclass__" tk) (.type "super") (.builtin "super.__getattribute__") true false) _ _ _
  unfold getAttrByItsOwn hookBefore callGetattribute boundAndCalled
  refine wpAny_bind (wpAny_of_eq (show (if onTheHeap (.type "super") then typeLookup (.type "super") "__getattr__" else pure none) = pure none from rfl) ?_)
  refine wpAny_bind (wpAny_attempt (wpAny_holding ?_))
  show wpAny _ _ (bindSpecial (.builtin "super.__getattribute__") (.ref a) >>= _) _ _ _
  refine wpAny_bind (wpAny_of_eq (F.ks_slot_super_ga.bind _) ?_)
  refine wpAny_call_entry F.ks_slot_super_ga (hT _) F.ks_entry_super_ga ?_ (F.ks_gaArgs_super _ _)
  have hC : Looks (model prog w) h (mroOf (.ref cK)) [.ref cK, .type "object"] := by
    intro A Q E s k q
    unfold mroOf classData
    refine wpAny_bind (wpAny_bind (wpAny_loadPart_at (k _ _ hK) ?_))
    exact wpAny_pure (wpAny_pure q)
  have hl : (([.ref cK, .type "object"] : List Value).dropWhile (· != .ref cK)).drop 1 = [.type "object"] := by simp
  unfold Builtin.«super.__getattribute__»
  have hdt : ({ cls := .type "super", dict := none, data := .fields #[.ref cK, .ref cK, .ref cK], slots := #[] } : Obj).data = .fields #[.ref cK, .ref cK, .ref cK] := rfl
  have f0 : (#[.ref cK, .ref cK, .ref cK] : Array Value)[0]? = some (.ref cK) := rfl
  have f1 : (#[.ref cK, .ref cK, .ref cK] : Array Value)[1]? = some (.ref cK) := rfl
  have f2 : (#[.ref cK, .ref cK, .ref cK] : Array Value)[2]? = some (.ref cK) := rfl
  repeat (first
    | (with_reducible refine wpAny_bind (Looks.at hC ?_); rw [hl]; simp only [List.forIn_cons, own_object_is])
    | (with_reducible refine wpAny_field ha hdt f0 ?_) | (with_reducible refine wpAny_field ha hdt f1 ?_) | (with_reducible refine wpAny_field ha hdt f2 ?_)
    | (with_reducible refine ks_wpAny_notOpaque (looks_opaque h2 ho) ?_)
    | (with_reducible refine wpAny_bind (wpAny_of_eq cmd_type ?_); rw [cmd_slot.lookup])
    | (simp only [beq_self_eq_true, if_true]; with_reducible refine cmd_get hK fun h' b k0 k1 k2 => ?_)
    | wp_step)
  refine ⟨_, rfl, ?_⟩
  exact wpAny_pure (hq h' b k0 k1 k2)
local macro_rules | `(tactic| x_close) => `(tactic| assumption)
theorem ini_call {w : World} {h : Heap} {g : Array GenState} {d : Drawn} {tk : Nat} {os : OsState} {p : KP} {t k1 k2 : Tok} {b ns cK de : Addr} {Q E : Value → Shared → Prop} (h2 : (statF w.params).In h)
    (hN : h.get? ns = some (dictO (p.e3 w.params k1 k2 de) 3)) (hK : h.get? cK = some (clsO (kCls ns cK) (kSlots p t)))
    (hb : h.get? b = some { cls := .type "builtin_function_or_method", dict := none, data := .fields #[.builtin "object.__init_subclass__", .ref cK], slots := #[] })
    (hQ : Q .none ⟨h, g, d, tk, os⟩) :
    wpAny (model PX w) kA (call (.ref b)) Q E ⟨h, g, d, tk, os⟩ := by
  unfold dictO KP.e3 at hN
  unfold clsO kCls kSlots at hK
  x_run
theorem hook_run {w : World} {h : Heap} {g : Array GenState} {d : Drawn} {tk : Nat} {os : OsState} {p : KP} {t k1 k2 : Tok} {ns cK de : Addr} {Q : Unit → Shared → Prop} {E : Value → Shared → Prop} (h2 : (statF w.params).In h) (ho : nsIn (statF w.params) cStatics "thirdparty.any" = some none)
    (hN : h.get? ns = some (dictO (p.e3 w.params k1 k2 de) 3)) (hK : h.get? cK = some (clsO (kCls ns cK) (kSlots p t)))
    (hq : ∀ h' tk', (∀ y o, h.get? y = some o → h'.get? y = some o) → Q () ⟨h', g, d, tk', os⟩) :
    wpAny (model PX w) kA (hookOf cK) Q E ⟨h, g, d, tk, os⟩ := by
  unfold hookOf
  refine wpAny_bind (sup_new h2 hN hK fun a h1 tk1 e1 _ a1 => ?_)
  refine wpAny_bind (wpAny_holding (sup_get ho (h2.keeps e1) (e1 _ _ hK) a1 fun h2' b _ e2 b2 => ?_))
  refine wpAny_bind (ini_call ((h2.keeps e1).keeps e2) (e2 _ _ (e1 _ _ hN)) (e2 _ _ (e1 _ _ hK)) b2 ?_)
  exact wpAny_pure (hq _ _ fun y o e => e2 _ _ (e1 _ _ e))
end Lay

/- part RTN6 -/
open PySem PySem.W PyProof.Rows
set_option Elab.async false
set_option linter.unusedVariables false
set_option maxRecDepth 100000
set_option maxHeartbeats 0
namespace Lay
theorem tnew_check (a b c : Value) : checkBuiltinCall "type.__new__" ⟨[.type "type", a, b, c], []⟩ = pure () := by kernel_rfl
theorem tnew_entry : entryFor table "type.__new__" = some Builtin.«type.__new__» := entryFor_of_tree (by kernel_rfl)
theorem tini_entry : entryFor table "type.__init__" = some Builtin.«type.__init__» := entryFor_of_tree (by kernel_rfl)
theorem tini_slot : Slot "type" "__init__" "type.__init__" := .of (owner := "type") (n := "__init__") (by rw [typeLookup_type, builtinLookup_eq_fast]; kernel_rfl) (by decide +kernel) (by decide +kernel) (by decide +kernel)
  (by first | exact .inl (by decide +kernel) | exact .inr (by decide +kernel)) (by rw [isSubtype_type]; kernel_rfl)
theorem tini_args (o a b c : Value) : argsOk "type.__init__" ⟨[o, a, b, c], []⟩ := by unfold argsOk; kernel_rfl
theorem ttc_check (a b c : Value) : checkTypeCall "type" ⟨[a, b, c], []⟩ = pure () := by kernel_rfl
theorem tt_mro : mroOf (.type "type") = pure [.type "type", .type "object"] := by rw [mroOf_type]; kernel_rfl
theorem tt_made : PySem.Bind.madeBy (.type "type") = pure (some "type.__new__") := by
  unfold PySem.Bind.madeBy
  kernel_rfl
theorem tt_sub : isSubtype (.type "type") (.type "type") = pure true := by rw [isSubtype_type]; kernel_rfl
theorem type_call {prog : Program} {w : World} {A : Around} {a b c : Value} {Q E : Value → Shared → Prop} {s : Shared}
    (hnew : wpAny (model prog w) A.in1.in1 (Builtin.«type.__new__» ⟨[.type "type", a, b, c], []⟩) (fun fin s' => ∃ v, fin = .done (.ret v) ∧ s'.TypeIs v "type" ∧ Q v s') E s) :
    wpAny (model prog w) A (call (.type "type") [a, b, c]) Q E s := by
  have hmro := tt_mro
  have hmade := tt_made
  have hsub := tt_sub
  refine wpAny_call (codeAny_of_tree ?_)
  show wpAny _ _ (callAny (.type "type") _) _ _ _
  refine wpAny_pure ⟨Code.quiet_builtin _ (by decide +kernel), codeAny_builtin F.entry_type_call ?_⟩
  rw [Around.under_plain (weight_type_call_type "type" [a, b, c] []) rfl]
  have h2 : ((Manifest.find? "type").bind (·.mro.findSome? fun t => (Manifest.find? t).bind fun b => if b.noNew then some true else if b.attrs.any (·.1 == "__new__") then some false else none)).getD false = false := by decide +kernel
  unfold Builtin.«type.__call__»
  refine wpAny_ite_true rfl ?_
  refine wpAny_ite_false rfl ?_
  refine wpAny_bind ?_
  refine wpAny_of_eq (a := PUnit.unit) (ttc_check a b c) ?_
  dsimp only
  refine wpAny_bind (wpAny_of_eq hmro ?_)
  refine wpAny_ite_false rfl ?_
  refine wpAny_bind (wpAny_of_eq hmade ?_)
  dsimp only
  refine wpAny_bind (wpAny_pure ?_)
  refine wpAny_bind (wpAny_holding (wpAny_call (codeAny_call_builtin (id := "type.__new__") (by decide +kernel) tnew_entry ?_)))
  refine wpAny_of_eq (tnew_check a b c) ?_
  refine wpAny_mono hnew (fun fin s' hf => ?_) fun _ _ z => z
  obtain ⟨v, rfl, hT, hQ⟩ := hf
  dsimp only
  refine wpAny_bind (wpAny_isInstance (T := "type") hT hsub ?_)
  refine wpAny_ite_false rfl ?_
  unfold callSpecial?
  refine wpAny_bind (wpAny_holding (wpAny_bind (wpAny_specialOf hT tini_slot.lookup ?_)))
  dsimp only
  refine wpAny_holding (wpAny_bind (wpAny_of_eq (tini_slot.bind _) ?_))
  dsimp only
  refine wpAny_bind (wpAny_call_entry tini_slot hT tini_entry ?_ (tini_args _ _ _ _))
  unfold Builtin.«type.__init__»
  refine wpAny_ite_false rfl (wpAny_ite_false rfl (wpAny_pure ⟨_, rfl, ?_⟩))
  refine wpAny_pure ?_
  dsimp only
  refine wpAny_ite_false rfl ?_
  exact wpAny_pure hQ
theorem statF_in {F : FZ} {h : Heap} {P : Params} (k : ∀ b o, F b = some o → h.get? b = some o) (e : F 2 = some (statO P)) : (statF P).In h := by
  exact Frag.in_of (as := [2]) rfl (by simp [statF, k _ _ e])
theorem statF_any (P : Params) : nsIn (statF P) cStatics "thirdparty.any" = some none := by kernel_rfl
theorem cls_call {w : World} {A : Around} (hA : AOk 2 A) {h : Heap} {g : Array GenState} {d : Drawn} {tk : Nat} {os : OsState} {nA : Addr} {t : Tok} {nb nn nl : Nat} {p : KP} {u3 : Tok} {Q : Value → Shared → Prop} {E : Value → Shared → Prop} {F : FZ} (hF : ∀ b o, F b = some o → h.get? b = some o)
    (hst : F 2 = some (statO w.params))
    (hb : h.get? p.bT = some { cls := .type "tuple", dict := none, data := .seq #[.type "object"] nb, slots := #[] })
    (hn : h.get? nA = some { cls := .type "dict", dict := none, data := .dict (p.e0 w.params) nn, slots := #[] })
    (hfI : ∃ o, F p.fI = some o ∧ o.cls = .type "function") (hfL : ∃ o, F p.fL = some o ∧ o.cls = .type "function") (hfG : ∃ o, F p.fG = some o ∧ o.cls = .type "function") (hfE : ∃ o, F p.fE = some o ∧ o.cls = .type "function") (hfQ : ∃ o, F p.fQ = some o ∧ o.cls = .type "function") (hfH : ∃ o, F p.fH = some o ∧ o.cls = .type "function") (hsT : ∃ o, F p.sT = some o ∧ o.cls = .type "tuple") (hlS : ∃ o, F p.lS = some o ∧ o.cls = .type "list")
    (hsys : (nA == sysModules) = false) (hl : h.get? p.lS = some { cls := .type "list", dict := none, data := .seq #[.str "obj" u3] nl, slots := #[] })
    (q : ∀ h' ns cK de F' tk', FLe F F' → F de = none → F' de = some { cls := .type "member_descriptor", dict := none, data := .fields #[.str "obj" tk, .ref cK, .builtin "proto.slot", .builtin "proto.slot#set", .int 0 0], slots := #[] } →
      TS F' h' ns cK (dictO (p.e3 w.params (tk + 1) (tk + 1 + 1) de) 3) (clsO (kCls ns cK) (kSlots p t)) → Q (.ref cK) ⟨h', g, d, tk', os⟩) :
    wpAny (model PX w) A (call (.type "type") [.str "K" t, .ref p.bT, .ref nA]) Q E ⟨h, g, d, tk, os⟩ := by
  refine type_call ?_
  refine type_new hF hb hn hfI hfL hfG hfE hfQ hfH hsT hlS hsys hl fun h' ns cK de F' E' le frd hde T => ?_
  refine weakA (n := 0) (hA.in1.in1) (hook_run (statF_in T.keep (le _ _ hst)) (statF_any _) T.n T.c fun h2 tk' k => ?_)
  exact wpAny_pure ⟨_, rfl, ⟨_, k _ _ T.c, rfl⟩, q h2 ns cK de F' tk' le frd hde ⟨fun b o e => k _ _ (T.keep b o e), k _ _ T.n, k _ _ T.c, T.nn, T.cn, T.ne⟩⟩
end Lay

/- part RTN7 -/
open PySem PySem.W PyProof.Rows
set_option Elab.async false
set_option linter.unusedVariables false
set_option maxRecDepth 100000
set_option maxHeartbeats 0
namespace Lay
section
variable {M : Model} {A : Around} {E : Value → Shared → Prop} {h : Heap} {g : Array GenState} {d : Drawn} {tk : Nat} {os : OsState} {F : FZ} {nA cT : Addr} {on ot : Obj}
theorem FLe.none {F F' : FZ} {a : Addr} (le : FLe F F') (e : F' a = none) : F a = none := by
  cases h : F a with
  | none => rfl
  | some o => rw [le _ _ h] at e; cases e
def codeO (v0 : Value) (qn : Str) (t : Tok) (rest : List Value) : Obj := { cls := .type "code", dict := none, data := .fields (Array.mk (v0 :: .str qn t :: rest)), slots := #[] }
theorem mk_code {ctx : CodeContext} {name qn : Str} {fl ac po ko flags : Nat} {free : List Str} {isF : Bool} {locals : Option (List Str × List Str)} {fd : FuncData} {Q : Value → Shared → Prop} (T : TS F h nA cT on ot)
    (q : ∀ h' c F' tk' v0 t rest, FLe F F' → F c = none → F' c = some (codeO v0 qn t rest) → TS F' h' nA cT on ot → Q (.ref c) ⟨h', g, d, tk', os⟩) :
    wpAny M A (newCode ctx name qn fl ac po ko flags free isF none locals (some fd)) Q E ⟨h, g, d, tk, os⟩ := by
  unfold newCode
  refine wpAny_bind (wpAny_mkText (wpAny_bind (wpAny_mkText (wpAny_bind (wpAny_mkText (wpAny_bind (wpAny_mkStrs fun fs =>
    wpAny_bind (wpAny_newObjAsIs_type (wpAny_bind (wpAny_alloc ?_))))))))))
  have T1 := T.new { cls := .type "tuple", dict := none, data := .seq fs.toArray } rfl
  have L1 := T.le { cls := .type "tuple", dict := none, data := .seq fs.toArray }
  have T2 := T1.1.new { cls := .none, data := .fields #[] } rfl
  have L2 := L1.trans (T1.1.le { cls := .none, data := .fields #[] })
  dsimp only
  cases locals with
  | none =>
    refine wpAny_bind (wpAny_pure (wpAny_bind (wpAny_pure (wpAny_bind (wpAny_bind (wpAny_alloc (wpAny_pure (wpAny_bind (wpAny_fresh (wpAny_bind (wpAny_mkText (wpAny_newObj_type ?_ (by size_fits)))))))))))))
    have T3 := T2.1.new { cls := .none, data := .func fd } rfl
    have L3 := L2.trans (T2.1.le { cls := .none, data := .func fd })
    exact q _ _ _ _ _ _ _ (L3.trans (T3.1.le _)) (L3.none (T3.1.new { cls := .none, data := .fields #[] } rfl).2) (fput_self ..) (T3.1.new _ rfl).1
  | some l =>
    refine wpAny_bind (wpAny_mkStrs fun a => wpAny_bind (wpAny_newObjAsIs_type (wpAny_bind (wpAny_mkStrs fun b => wpAny_bind (wpAny_newObjAsIs_type
        (wpAny_bind (wpAny_bind (wpAny_alloc (wpAny_pure (wpAny_bind (wpAny_fresh (wpAny_bind (wpAny_mkText (wpAny_newObj_type ?_ (by size_fits)))))))))))))))
    have T3 := T2.1.new { cls := .type "tuple", dict := none, data := .seq a.toArray } rfl
    have L3 := L2.trans (T2.1.le { cls := .type "tuple", dict := none, data := .seq a.toArray })
    have T4 := T3.1.new { cls := .type "tuple", dict := none, data := .seq b.toArray } rfl
    have L4 := L3.trans (T3.1.le { cls := .type "tuple", dict := none, data := .seq b.toArray })
    have T5 := T4.1.new { cls := .none, data := .func fd } rfl
    have L5 := L4.trans (T4.1.le { cls := .none, data := .func fd })
    exact q _ _ _ _ _ _ _ (L5.trans (T5.1.le _)) (L5.none (T5.1.new { cls := .none, data := .fields #[] } rfl).2) (fput_self ..) (T5.1.new _ rfl).1
theorem mk_cls {ctx : CodeContext} {name qn : Str} {fl ac po ko flags : Nat} {free : List Str} {isF : Bool} {Q : Value → Shared → Prop}
    (q : ∀ (bs : Addr) (fs : List Value) h', h' = ((h.push { cls := .type "tuple", data := .seq fs.toArray }).push { cls := .none, data := .fields #[] }) → ∀ c tk' v0 rest, c = h'.objs.size → (Array.mk rest).getD 11 .none = .ref (h.objs.size + 1) → (∃ t, (Array.mk rest).getD 18 .none = .str ctx.file t) → (∃ n t, (Array.mk rest).getD 7 .none = .int n t) → (∃ b, (Array.mk rest).getD 9 .none = .bool b) → (∃ n t, (Array.mk rest).getD 10 .none = .int n t) →
      v0 = rest → Q (.ref c) ⟨h'.push { cls := .type "code", dict := none, data := .fields (Array.mk rest), slots := #[] }, g, d, tk', os⟩) :
    wpAny M A (newCode ctx name qn fl ac po ko flags free isF) Q E ⟨h, g, d, tk, os⟩ := by
  unfold newCode
  refine wpAny_bind (wpAny_mkText (wpAny_bind (wpAny_mkText (wpAny_bind (wpAny_mkText (wpAny_bind (wpAny_mkStrs fun fs =>
    wpAny_bind (wpAny_newObjAsIs_type (wpAny_bind (wpAny_alloc ?_))))))))))
  refine wpAny_bind (wpAny_pure (wpAny_bind (wpAny_pure (wpAny_bind (wpAny_pure (wpAny_bind (wpAny_fresh (wpAny_bind (wpAny_mkText (wpAny_newObj_type ?_ (by size_fits)))))))))))
  exact q 0 fs _ rfl _ _ _ _ rfl (by simp [Heap.size_push]) ⟨_, rfl⟩ ⟨_, _, rfl⟩ ⟨_, rfl⟩ ⟨_, _, rfl⟩ rfl
def tabO (ps : Array Value) : Obj := { cls := .none, dict := none, data := .fields ps, slots := #[] }
def CodeHead (o : Obj) (P : Addr) : Prop := ∃ vs, o.data = .fields vs ∧ vs.getD 11 .none = .ref P ∧ (∃ f t, vs.getD 18 .none = .str f t) ∧ (∃ n t, vs.getD 7 .none = .int n t) ∧ (∃ b, vs.getD 9 .none = .bool b) ∧ (∃ n t, vs.getD 10 .none = .int n t)
def GB (F : FZ) (mg : Str → Option Value) : Prop := ∀ h' : Heap, (∀ b o, F b = some o → h'.get? b = some o) → h'.Ns mainGlobals mg ∧ ∃ bm o, mg "__builtins__" = some (.ref bm) ∧ bm ≠ builtinsNs ∧ h'.get? bm = some o ∧ o.cls = .type "module" ∧ o.dict = some builtinsNs ∧ o.data = .plain
theorem GB.le {F F' : FZ} {mg : Str → Option Value} (G : GB F mg) (le : FLe F F') : GB F' mg := fun h' k => G h' fun b o e => k b o (le b o e)
def funO (name qn : Str) (params : Arguments) (body : List Stmt) (scope : Scope) (cl : List (Str × Addr)) (pm cd ct : Value) : Obj := { cls := .type "function", dict := none, data := .func { name := name, qualname := qn, params := params, body := .stmts body, scope := scope, globals := mainGlobals, closure := cl, defaults := .none, kwdefaults := .none, doc := .none, pyModule := pm, annotations := none, code := cd, closureTuple := ct, builtins := builtinsNs }, slots := #[] }
theorem mk_fcode {env : Env} {pos : Pos} {name qn : Str} {fl : Nat} {params : Arguments} {scope : Scope} {body : List Stmt} {cc : Addr} {oc : Obj} {ps : Array Value} {Q : Value → Shared → Prop} (T : TS F h nA cT on (tabO ps))
    (hcode : env.code = .ref cc) (hcc : F cc = some oc) (hh : CodeHead oc cT) (hn : codeAmong pos ps.toList = none) (ht : TriplesOk ps.toList)
    (q : ∀ h' c F' tk' v0 t rest, FLe F F' → F c = none → F' c = some (codeO v0 qn t rest) → TS F' h' nA cT on (tabO (ps ++ #[rawInt pos.line, rawInt pos.col, .ref c])) → Q (.ref c) ⟨h', g, d, tk', os⟩) :
    wpAny M A (functionCode env pos fl name qn params scope (.stmts body)) Q E ⟨h, g, d, tk, os⟩ := by
  obtain ⟨vs, hd, h11, ⟨f18, t18, h18⟩, ⟨n7, t7, h7⟩, ⟨b9, h9⟩, ⟨n10, t10, h10⟩⟩ := hh
  unfold functionCode codeAt
  rw [hcode, if_neg (show ¬ ((Value.ref cc == Value.none) = true) from Bool.false_ne_true)]
  refine wpAny_bind (wpAny_fieldsOf (T.keep _ _ hcc) hd ?_)
  rw [h11]
  refine wpAny_bind (wpAny_fieldsOf T.c rfl ?_)
  rw [hn, h18, h7, h9, h10]
  refine wpAny_bind (mk_code T fun h' c F' tk' v0 t rest le frc hc T' => ?_)
  refine wpAny_bind (wpAny_updateFieldsOfTheText T'.c rfl ?_)
  have T2 := T'.uc (f := Obj.mapFields (fun vs => if (codeAmong pos vs.toList).isSome = true then vs else vs ++ #[rawInt pos.line, rawInt pos.col, .ref c])) (oc' := tabO (ps ++ #[rawInt pos.line, rawInt pos.col, .ref c]))
    (by simp [tabO, Obj.mapFields, hn]) rfl
  refine wpAny_bind (wpAny_fieldsOf T2.c rfl ?_)
  have hl : (ps ++ #[rawInt pos.line, rawInt pos.col, Value.ref c]).toList = ps.toList ++ [rawInt pos.line, rawInt pos.col, .ref c] := by simp
  rw [hl, codeAmong_snoc _ ht hn]
  exact wpAny_pure (q _ _ _ _ _ _ _ le frc hc T2)
theorem mk_fun {env : Env} {pos : Pos} {name qn : Str} {fl : Nat} {params : Arguments} {scope : Scope} {body : List Stmt} {cc : Addr} {oc : Obj} {ps : Array Value} {cl : List (Str × Addr)} {mg : Str → Option Value} {Q : Value → Shared → Prop} (T : TS F h nA cT on (tabO ps))
    (hcode : env.code = .ref cc) (hcc : F cc = some oc) (hh : CodeHead oc cT) (hn : codeAmong pos ps.toList = none) (ht : TriplesOk ps.toList) (hG : GB F mg) (hgl : env.globals = mainGlobals) (hcl : closureFor scope env = pure cl) (hdoc : docOf body = none)
    (q : ∀ h' fM cM ct F' tk' v0 t rest, FLe F F' → F fM = none → F cM = none → F' fM = some (funO name qn params body scope cl ((mg "__name__").getD .none) (.ref cM) ct) → F' cM = some (codeO v0 qn t rest) → (cl = [] → ct = .none) → TS F' h' nA cT on (tabO (ps ++ #[rawInt pos.line, rawInt pos.col, .ref cM])) → Q (.ref fM) ⟨h', g, d, tk', os⟩) :
    wpAny M A (makeFunction name qn params (.stmts body) scope env [] [] [] pos fl) Q E ⟨h, g, d, tk, os⟩ := by
  have rest : ∀ h₁ F₁ ct, FLe F F₁ → (cl = [] → ct = .none) → TS F₁ h₁ nA cT on (tabO ps) → wpAny M A (do
      let __do_lift ← functionCode env pos fl name qn params scope (.stmts body)
      let __do_lift_1 ← builtinsFor env.globals env.builtins
      let __do_lift_2 ← nsGet env.globals "__name__"
      newObj (.type "function") (.func { name := name, qualname := qn, params := params, body := .stmts body, scope := scope, globals := env.globals, closure := cl, defaults := .none, kwdefaults := .none, doc := .none, pyModule := __do_lift_2.getD .none, annotations := none, code := __do_lift, closureTuple := ct, builtins := __do_lift_1 })) Q E ⟨h₁, g, d, tk, os⟩ := by
    intro h₁ F₁ ct le hct T₁
    refine wpAny_bind (mk_fcode T₁ hcode (le _ _ hcc) hh hn ht fun h' c F' tk' v0 t rest le' frc hc T' => ?_)
    obtain ⟨hns, bm, o, hbm, hne0, hbo, hcls, hdict, hdata⟩ := (hG.le (le.trans le')) h' T'.keep
    have hns' : h'.Ns env.globals mg := by rw [hgl]; exact hns
    refine wpAny_bind (wpAny_builtinsFor hns' hbm hne0 hbo hcls hdict hdata ?_)
    refine wpAny_bind (wpAny_nsGet hns' ?_)
    simp only [newObj]
    rw [hgl]
    refine wpAny_bind (wpAny_alloc (wpAny_pure ?_))
    have T3 := T'.new (funO name qn params body scope cl ((mg "__name__").getD .none) (.ref c) ct) rfl
    have L3 := T'.le (funO name qn params body scope cl ((mg "__name__").getD .none) (.ref c) ct)
    exact q _ _ _ _ _ _ _ _ _ ((le.trans le').trans L3) ((le.trans le').none T3.2) (le.none frc) (fput_self ..) (L3 _ _ hc) hct T3.1
  simp only [makeFunction, List.zip_nil_right, List.filterMap_nil, List.isEmpty_nil, if_true, pure_bind, hcl, hdoc]
  cases cl with
  | nil =>
    simp only [List.isEmpty_nil, if_true, pure_bind]
    exact rest _ _ _ (.refl _) (fun _ => rfl) T
  | cons a l =>
    simp only [List.isEmpty_cons, Bool.false_eq_true, if_false]
    refine wpAny_bind ?_
    unfold newTextTuple
    refine wpAny_newObjAsIs_type ?_
    have T1 := T.new { cls := .type "tuple", dict := none, data := .seq (((a :: l).mergeSort fun a b => decide (a.1.cps.toList ≤ b.1.cps.toList)).map (.ref ·.2)).toArray } rfl
    have L1 := T.le { cls := .type "tuple", dict := none, data := .seq (((a :: l).mergeSort fun a b => decide (a.1.cps.toList ≤ b.1.cps.toList)).map (.ref ·.2)).toArray }
    exact rest _ _ _ L1 (fun e => by cases e) T1.1
end
end Lay

/- part RTN8 -/
open PySem PySem.W PyProof.Rows
set_option Elab.async false
set_option linter.unusedVariables false
set_option maxRecDepth 100000
set_option maxHeartbeats 0
namespace Lay
def clScope : List Stmt → Scope
  | .ClassDef _ _ _ _ _ _ s _ _ _ _ :: _ => s
  | _ => default
def fPos : Stmt → Pos
  | .FunctionDef _ _ _ _ _ _ _ _ _ p => p
  | _ => default
abbrev kSc : Scope := clScope (fBody (stmtAt PX 1))
abbrev kDef (i : Nat) (nm : Str) (pos : Pos) : Stmt := .FunctionDef nm (fArgs (stMeth PX i)) (fBody (stMeth PX i)) [] none [] (fScope (stMeth PX i)) none nm pos
def kEnv (nA cc fr ce : Addr) : Env := { scope := kSc, locals := nA, globals := mainGlobals, qual := "cmp_to_key.<locals>.K.", code := .ref cc, frame := some fr, builtins := builtinsNs, cells := [(Str.ofString "mycmp", ce)] }
theorem kBody_eq : cBody (fBody (stmtAt PX 1)) = [.Assign [.Name "__module__" ⟨5, 8, 5, 18⟩] (.Constant (.str "cpy313.functools") 0 ⟨5, 21, 5, 39⟩) ⟨5, 8, 5, 39⟩,
  .Assign [.Name "__slots__" ⟨6, 8, 6, 17⟩] (.List [.Constant (.str "obj") 0 ⟨6, 21, 6, 26⟩] ⟨6, 20, 6, 27⟩) ⟨6, 8, 6, 27⟩,
  kDef 2 "__init__" (fPos (stMeth PX 2)), kDef 3 "__lt__" (fPos (stMeth PX 3)), kDef 4 "__gt__" (fPos (stMeth PX 4)), kDef 5 "__eq__" (fPos (stMeth PX 5)), kDef 6 "__le__" (fPos (stMeth PX 6)), kDef 7 "__ge__" (fPos (stMeth PX 7)),
  .Assign [.Name "__hash__" ⟨25, 8, 25, 16⟩] (.Constant .none 0 ⟨25, 19, 25, 23⟩) ⟨25, 8, 25, 23⟩] := by kernel_rfl
section
variable {w : World} {A : Around} {E : Value → Shared → Prop} {h : Heap} {g : Array GenState} {d : Drawn} {tk : Nat} {os : OsState} {F : FZ} {nA cT cc fr ce : Addr} {on ot : Obj}
theorem cs_store {M : Model} {env : Env} {x : Str} {v : Value} {es : Array DictEntry} {ep : Nat} {on' : Obj} {Q : Unit → Shared → Prop} (T : TS F h nA cT (dictO es ep) ot) (hst : storeName env x v = localSet env x v) (hnA : env.locals = nA)
    (hr : aRefKeyMayBeTheName x es = false) (hd : Obj.putName x (PyData.keyHash M.w.params x) (.str x tk) v (dictO es ep) = on') (fr : on'.isFreed = false)
    (q : ∀ h', TS F h' nA cT on' ot → Q () ⟨h', g, d, tk + 1, os⟩) : wpAny M A (storeName env x v) Q E ⟨h, g, d, tk, os⟩ := by
  rw [hst]
  unfold localSet
  rw [hnA]
  refine wpAny_bind (wpAny_load T.n ?_)
  refine wpAny_ite_true rfl ?_
  exact st_set T hr hd fr q
theorem cs_assign {M : Model} {env : Env} {x : Str} {px pos : Pos} {value : Expr} {Q : Flow → Shared → Prop} {h0 : Heap} {tk0 : Nat}
    (he : wpAny M A (eval value env) (fun v s₁ => ∃ h F tk es ep on', s₁ = ⟨h, g, d, tk, os⟩ ∧ TS F h nA cT (dictO es ep) ot ∧ aRefKeyMayBeTheName x es = false ∧ Obj.putName x (PyData.keyHash M.w.params x) (.str x tk) v (dictO es ep) = on' ∧ on'.isFreed = false ∧ (∀ h', TS F h' nA cT on' ot → Q .next ⟨h', g, d, tk + 1, os⟩)) E ⟨h0, g, d, tk0, os⟩)
    (hst : ∀ v, storeName env x v = localSet env x v) (hnA : env.locals = nA)
    (hs : swapsWithSole [.Name x px] value pos.line env = pure false) (hw : swappedStores [.Name x px] value env = pure none := by rfl)
    (ha : (assignEach [.Name x px] env).map (·.2) = [assign (.Name x px) env] := by rfl) :
    wpAny M A (exec (.Assign [.Name x px] value pos) env) Q E ⟨h0, g, d, tk0, os⟩ := by
  refine wpAny_Assign_stores (wpAny_mono he ?_ fun _ _ e => e) hs hw
  rintro v s₁ ⟨h, F, tk, es, ep, on', rfl, T, hr, hd, fr, q⟩
  rw [ha]
  show wpAny _ A (assign (.Name x px) env v) _ _ _
  exact wpAny_assign_Name (cs_store T (hst v) hnA hr hd fr q)
theorem cs_def {M : Model} {env : Env} {nm qn : Str} {ar : Arguments} {bd : List Stmt} {sc : Scope} {pos : Pos} {oc : Obj} {ps : Array Value} {cl : List (Str × Addr)} {mg : Str → Option Value} {es : Array DictEntry} {ep : Nat} {on' : Addr → Tok → Obj} {Q : Flow → Shared → Prop}
    (T : TS F h nA cT (dictO es ep) (tabO ps)) (hexec : PlainDefTree nm ar bd sc pos) (hst : ∀ v, storeName env nm v = localSet env nm v) (hnA : env.locals = nA)
    (hcode : env.code = .ref cc) (hcc : F cc = some oc) (hh : CodeHead oc cT) (hn : codeAmong pos ps.toList = none) (ht : TriplesOk ps.toList) (hG : GB F mg) (hgl : env.globals = mainGlobals) (hcl : closureFor sc env = pure cl) (hdoc : docOf bd = none)
    (hq : qualnameIn env nm nm = qn)
    (hr : aRefKeyMayBeTheName nm es = false) (hd : ∀ fM tk, Obj.putName nm (PyData.keyHash M.w.params nm) (.str nm tk) (.ref fM) (dictO es ep) = on' fM tk) (fr : ∀ fM tk, (on' fM tk).isFreed = false)
    (q : ∀ h' fM cM ct F' tk' v0 t rest, FLe F F' → F fM = none → F cM = none → F' fM = some (funO nm qn ar bd sc cl ((mg "__name__").getD .none) (.ref cM) ct) → F' cM = some (codeO v0 qn t rest) → (cl = [] → ct = .none) → TS F' h' nA cT (on' fM tk') (tabO (ps ++ #[rawInt pos.line, rawInt pos.col, .ref cM])) → Q .next ⟨h', g, d, tk' + 1, os⟩) :
    wpAny M A (exec (.FunctionDef nm ar bd [] none [] sc none nm pos) env) Q E ⟨h, g, d, tk, os⟩ := by
  rw [hexec, hq]
  refine wpAny_bind (wpAny_standAt (wpAny_bind (wpAny_holding (mk_fun T hcode hcc hh hn ht hG hgl hcl hdoc fun h' fM cM ct F' tk' v0 t rest le frf frc hf hc hct T' => ?_))))
  refine wpAny_bind (wpAny_standAt (wpAny_bind (wpAny_bindName (cs_store T' (hst _) hnA hr (hd fM tk') (fr _ _) fun h2 T2 => ?_))))
  exact wpAny_pure (q _ _ _ _ _ _ _ _ _ le frf frc hf hc hct T2)
end
end Lay

/- part RTNH -/
open PySem PySem.W PyProof.Rows
set_option Elab.async false
set_option linter.unusedVariables false
set_option maxRecDepth 100000
set_option maxHeartbeats 0
namespace Lay
section
variable {M : Model} {A : Around} {E : Value → Shared → Prop} {h : Heap} {g : Array GenState} {d : Drawn} {tk : Nat} {os : OsState} {F : FZ} {nA cT : Addr} {on ot : Obj}
theorem mk_fcode_hit {env : Env} {pos : Pos} {name qn : Str} {fl : Nat} {params : Arguments} {scope : Scope} {body : List Stmt} {cc cP c : Addr} {oc : Obj} {ps : Array Value} {Q : Value → Shared → Prop} (T : TS F h nA cT on ot)
    (hcode : env.code = .ref cc) (hcc : F cc = some oc) (hh : CodeHead oc cP) (hP : F cP = some (tabO ps)) (hn : codeAmong pos ps.toList = some (.ref c)) (q : Q (.ref c) ⟨h, g, d, tk, os⟩) :
    wpAny M A (functionCode env pos fl name qn params scope (.stmts body)) Q E ⟨h, g, d, tk, os⟩ := by
  obtain ⟨vs, hd, h11, ⟨f18, t18, h18⟩, ⟨n7, t7, h7⟩, ⟨b9, h9⟩, ⟨n10, t10, h10⟩⟩ := hh
  unfold functionCode codeAt
  rw [hcode, if_neg (show ¬ ((Value.ref cc == Value.none) = true) from Bool.false_ne_true)]
  refine wpAny_bind (wpAny_fieldsOf (T.keep _ _ hcc) hd ?_)
  rw [h11]
  refine wpAny_bind (wpAny_fieldsOf (T.keep _ _ hP) rfl ?_)
  rw [hn]
  exact wpAny_pure q
theorem mk_fun_hit {env : Env} {pos : Pos} {name qn : Str} {fl : Nat} {params : Arguments} {scope : Scope} {body : List Stmt} {cc cP cM : Addr} {oc : Obj} {ps : Array Value} {cl : List (Str × Addr)} {mg : Str → Option Value} {Q : Value → Shared → Prop} (T : TS F h nA cT on ot)
    (hcode : env.code = .ref cc) (hcc : F cc = some oc) (hh : CodeHead oc cP) (hP : F cP = some (tabO ps)) (hn : codeAmong pos ps.toList = some (.ref cM)) (hG : GB F mg) (hgl : env.globals = mainGlobals) (hcl : closureFor scope env = pure cl) (hdoc : docOf body = none)
    (q : ∀ h' fM ct F' tk', FLe F F' → F fM = none → F' fM = some (funO name qn params body scope cl ((mg "__name__").getD .none) (.ref cM) ct) → (cl = [] → ct = .none) → TS F' h' nA cT on ot → Q (.ref fM) ⟨h', g, d, tk', os⟩) :
    wpAny M A (makeFunction name qn params (.stmts body) scope env [] [] [] pos fl) Q E ⟨h, g, d, tk, os⟩ := by
  have rest : ∀ h₁ F₁ ct, FLe F F₁ → (cl = [] → ct = .none) → TS F₁ h₁ nA cT on ot → wpAny M A (do
      let __do_lift ← functionCode env pos fl name qn params scope (.stmts body)
      let __do_lift_1 ← builtinsFor env.globals env.builtins
      let __do_lift_2 ← nsGet env.globals "__name__"
      newObj (.type "function") (.func { name := name, qualname := qn, params := params, body := .stmts body, scope := scope, globals := env.globals, closure := cl, defaults := .none, kwdefaults := .none, doc := .none, pyModule := __do_lift_2.getD .none, annotations := none, code := __do_lift, closureTuple := ct, builtins := __do_lift_1 })) Q E ⟨h₁, g, d, tk, os⟩ := by
    intro h₁ F₁ ct le hct T₁
    refine wpAny_bind (mk_fcode_hit T₁ hcode (le _ _ hcc) hh (le _ _ hP) hn ?_)
    obtain ⟨hns, bm, o, hbm, hne0, hbo, hcls, hdict, hdata⟩ := (hG.le le) h₁ T₁.keep
    have hns' : h₁.Ns env.globals mg := by rw [hgl]; exact hns
    refine wpAny_bind (wpAny_builtinsFor hns' hbm hne0 hbo hcls hdict hdata ?_)
    refine wpAny_bind (wpAny_nsGet hns' ?_)
    simp only [newObj]
    rw [hgl]
    refine wpAny_bind (wpAny_alloc (wpAny_pure ?_))
    have T3 := T₁.new (funO name qn params body scope cl ((mg "__name__").getD .none) (.ref cM) ct) rfl
    have L3 := T₁.le (funO name qn params body scope cl ((mg "__name__").getD .none) (.ref cM) ct)
    exact q _ _ _ _ _ (le.trans L3) (le.none T3.2) (fput_self ..) hct T3.1
  simp only [makeFunction, List.zip_nil_right, List.filterMap_nil, List.isEmpty_nil, if_true, pure_bind, hcl, hdoc]
  cases cl with
  | nil =>
    simp only [List.isEmpty_nil, if_true, pure_bind]
    exact rest _ _ _ (.refl _) (fun _ => rfl) T
  | cons a l =>
    simp only [List.isEmpty_cons, Bool.false_eq_true, if_false]
    refine wpAny_bind ?_
    unfold newTextTuple
    refine wpAny_newObjAsIs_type ?_
    have T1 := T.new { cls := .type "tuple", dict := none, data := .seq (((a :: l).mergeSort fun a b => decide (a.1.cps.toList ≤ b.1.cps.toList)).map (.ref ·.2)).toArray } rfl
    have L1 := T.le { cls := .type "tuple", dict := none, data := .seq (((a :: l).mergeSort fun a b => decide (a.1.cps.toList ≤ b.1.cps.toList)).map (.ref ·.2)).toArray }
    exact rest _ _ _ L1 (fun e => by cases e) T1.1
end
section
variable {w : World} {A : Around} {E : Value → Shared → Prop} {h : Heap} {g : Array GenState} {d : Drawn} {tk : Nat} {os : OsState} {F : FZ} {nA cT fr ce : Addr} {on ot : Obj}
theorem cs_def_hit {M : Model} {env : Env} {nm qn : Str} {ar : Arguments} {bd : List Stmt} {sc : Scope} {pos : Pos} {cc cP cM : Addr} {oc : Obj} {ps : Array Value} {cl : List (Str × Addr)} {mg : Str → Option Value} {es : Array DictEntry} {ep : Nat} {on' : Addr → Tok → Obj} {Q : Flow → Shared → Prop}
    (T : TS F h nA cT (dictO es ep) ot) (hexec : PlainDefTree nm ar bd sc pos) (hst : ∀ v, storeName env nm v = localSet env nm v) (hnA : env.locals = nA)
    (hcode : env.code = .ref cc) (hcc : F cc = some oc) (hh : CodeHead oc cP) (hP : F cP = some (tabO ps)) (hn : codeAmong pos ps.toList = some (.ref cM)) (hG : GB F mg) (hgl : env.globals = mainGlobals) (hcl : closureFor sc env = pure cl) (hdoc : docOf bd = none)
    (hq : qualnameIn env nm nm = qn)
    (hr : aRefKeyMayBeTheName nm es = false) (hd : ∀ fM tk, Obj.putName nm (PyData.keyHash M.w.params nm) (.str nm tk) (.ref fM) (dictO es ep) = on' fM tk) (fr : ∀ fM tk, (on' fM tk).isFreed = false)
    (q : ∀ h' fM ct F' tk', FLe F F' → F fM = none → F' fM = some (funO nm qn ar bd sc cl ((mg "__name__").getD .none) (.ref cM) ct) → (cl = [] → ct = .none) → TS F' h' nA cT (on' fM tk') ot → Q .next ⟨h', g, d, tk' + 1, os⟩) :
    wpAny M A (exec (.FunctionDef nm ar bd [] none [] sc none nm pos) env) Q E ⟨h, g, d, tk, os⟩ := by
  rw [hexec, hq]
  refine wpAny_bind (wpAny_standAt (wpAny_bind (wpAny_holding (mk_fun_hit T hcode hcc hh hP hn hG hgl hcl hdoc fun h' fM ct F' tk' le frf hf hct T' => ?_))))
  refine wpAny_bind (wpAny_standAt (wpAny_bind (wpAny_bindName (cs_store T' (hst _) hnA hr (hd fM tk') (fr _ _) fun h2 T2 => ?_))))
  exact wpAny_pure (q _ _ _ _ _ le frf hf hct T2)
end
end Lay

/- part RTN9 -/
open PySem PySem.W PyProof.Rows
set_option Elab.async false
set_option linter.unusedVariables false
set_option maxRecDepth 100000
set_option maxHeartbeats 0
namespace Lay
section
variable {w : World} {A : Around} {E : Value → Shared → Prop} {h : Heap} {g : Array GenState} {d : Drawn} {tk : Nat} {os : OsState} {F : FZ} {nA cT cc fr ce : Addr} {on ot : Obj}
abbrev mf (mg : Str → Option Value) (i : Nat) (nm qn : Str) (cl : List (Str × Addr)) (cM : Addr) (ct : Value) : Obj := funO nm qn (fArgs (stMeth PX i)) (fBody (stMeth PX i)) (fScope (stMeth PX i)) cl ((mg "__name__").getD .none) (.ref cM) ct
abbrev cl1 (ce : Addr) : List (Str × Addr) := [(Str.ofString "mycmp", ce)]
theorem k_scl (nA cc fr ce : Addr) {x : Str} (hx : (x ∈ ([Str.ofString "__module__", Str.ofString "__slots__", Str.ofString "__init__", Str.ofString "__lt__", Str.ofString "__gt__", Str.ofString "__eq__", Str.ofString "__le__", Str.ofString "__ge__", Str.ofString "__hash__"] : List Str))) (v : Value) : storeName (kEnv nA cc fr ce) x v = localSet (kEnv nA cc fr ce) x v := by
  simp only [List.mem_cons, List.not_mem_nil, or_false] at hx
  rcases hx with rfl | rfl | rfl | rfl | rfl | rfl | rfl | rfl | rfl <;> kernel_rfl

theorem k_body {mg : Str → Option Value} {oc : Obj} {k0 k1 k2 u1 u2 : Tok} {m0 : Value} {Q : Flow → Shared → Prop} (hcc : F cc = some oc) (hh : CodeHead oc cT) (GG : GB F mg)
    (T0 : TS F h nA cT (dictO #[{ hash := PyData.keyHash w.params "__module__", key := .str "__module__" k0, val := m0 }, { hash := PyData.keyHash w.params "__qualname__", key := .str "__qualname__" k1, val := .str "cmp_to_key.<locals>.K" u1 }, { hash := PyData.keyHash w.params "__firstlineno__", key := .str "__firstlineno__" k2, val := .int 4 u2 }] 3) (tabO #[]))
    (q : ∀ h' F' tk' (lS fI fL fG fE fQ fH cI cL cG cE cQ cH : Addr) (ctI ctL ctG ctE ctQ ctH vI vL vG vE vQ vH : Value) (tI tL tG tE tQ tH kI kL kG kE kQ kH : Tok) (rI rL rG rE rQ rH : List Value) (ps : Array Value) (nl : Nat) (u3 kS kZ : Tok), ps = ((((((#[] ++ #[rawInt (fPos (stMeth PX 2)).line, rawInt (fPos (stMeth PX 2)).col, .ref cI]) ++ #[rawInt (fPos (stMeth PX 3)).line, rawInt (fPos (stMeth PX 3)).col, .ref cL]) ++ #[rawInt (fPos (stMeth PX 4)).line, rawInt (fPos (stMeth PX 4)).col, .ref cG]) ++ #[rawInt (fPos (stMeth PX 5)).line, rawInt (fPos (stMeth PX 5)).col, .ref cE]) ++ #[rawInt (fPos (stMeth PX 6)).line, rawInt (fPos (stMeth PX 6)).col, .ref cQ]) ++ #[rawInt (fPos (stMeth PX 7)).line, rawInt (fPos (stMeth PX 7)).col, .ref cH]) → FLe F F' → F' lS = some { cls := .type "list", dict := none, data := .seq #[.str "obj" u3] nl, slots := #[] } → F fI = none → F cI = none → F' fI = some (mf mg 2 "__init__" "cmp_to_key.<locals>.K.__init__" [] cI ctI) → F' cI = some (codeO vI "cmp_to_key.<locals>.K.__init__" tI rI) → F fL = none → F cL = none → F' fL = some (mf mg 3 "__lt__" "cmp_to_key.<locals>.K.__lt__" (cl1 ce) cL ctL) → F' cL = some (codeO vL "cmp_to_key.<locals>.K.__lt__" tL rL) → F fG = none → F cG = none → F' fG = some (mf mg 4 "__gt__" "cmp_to_key.<locals>.K.__gt__" (cl1 ce) cG ctG) → F' cG = some (codeO vG "cmp_to_key.<locals>.K.__gt__" tG rG) → F fE = none → F cE = none → F' fE = some (mf mg 5 "__eq__" "cmp_to_key.<locals>.K.__eq__" (cl1 ce) cE ctE) → F' cE = some (codeO vE "cmp_to_key.<locals>.K.__eq__" tE rE) → F fQ = none → F cQ = none → F' fQ = some (mf mg 6 "__le__" "cmp_to_key.<locals>.K.__le__" (cl1 ce) cQ ctQ) → F' cQ = some (codeO vQ "cmp_to_key.<locals>.K.__le__" tQ rQ) → F fH = none → F cH = none → F' fH = some (mf mg 7 "__ge__" "cmp_to_key.<locals>.K.__ge__" (cl1 ce) cH ctH) → F' cH = some (codeO vH "cmp_to_key.<locals>.K.__ge__" tH rH) → ctI = .none →
      TS F' h' nA cT (dictO #[{ hash := PyData.keyHash w.params "__module__", key := .str "__module__" k0, val := .str "cpy313.functools" tk }, { hash := PyData.keyHash w.params "__qualname__", key := .str "__qualname__" k1, val := .str "cmp_to_key.<locals>.K" u1 }, { hash := PyData.keyHash w.params "__firstlineno__", key := .str "__firstlineno__" k2, val := .int 4 u2 }, { hash := PyData.keyHash w.params "__slots__", key := .str "__slots__" kS, val := .ref lS }, { hash := PyData.keyHash w.params "__init__", key := .str "__init__" kI, val := .ref fI }, { hash := PyData.keyHash w.params "__lt__", key := .str "__lt__" kL, val := .ref fL }, { hash := PyData.keyHash w.params "__gt__", key := .str "__gt__" kG, val := .ref fG }, { hash := PyData.keyHash w.params "__eq__", key := .str "__eq__" kE, val := .ref fE }, { hash := PyData.keyHash w.params "__le__", key := .str "__le__" kQ, val := .ref fQ }, { hash := PyData.keyHash w.params "__ge__", key := .str "__ge__" kH, val := .ref fH }, { hash := PyData.keyHash w.params "__hash__", key := .str "__hash__" kZ, val := .none }] 11) (tabO ps) → Q .next ⟨h', g, d, tk', os⟩) :
    wpAny (model PX w) A (execs (cBody (fBody (stmtAt PX 1))) (kEnv nA cc fr ce)) Q E ⟨h, g, d, tk, os⟩ := by
  rw [kBody_eq]
  have hns : ∀ {x : Str} (hx : (x ∈ ([Str.ofString "__module__", Str.ofString "__slots__", Str.ofString "__init__", Str.ofString "__lt__", Str.ofString "__gt__", Str.ofString "__eq__", Str.ofString "__le__", Str.ofString "__ge__", Str.ofString "__hash__"] : List Str))) (v : Value), storeName (kEnv nA cc fr ce) x v = localSet (kEnv nA cc fr ce) x v := fun hx v => k_scl nA cc fr ce hx v
  refine wpAny_execs_cons (cs_assign (wpAny_Constant_str ⟨_, _, _, _, _, dictO #[{ hash := PyData.keyHash w.params "__module__", key := .str "__module__" k0, val := .str "cpy313.functools" tk }, { hash := PyData.keyHash w.params "__qualname__", key := .str "__qualname__" k1, val := .str "cmp_to_key.<locals>.K" u1 }, { hash := PyData.keyHash w.params "__firstlineno__", key := .str "__firstlineno__" k2, val := .int 4 u2 }] 3, rfl, T0, by kernel_rfl, by kernel_rfl, rfl, fun h1 T1 => ?_⟩) (hns (by simp)) rfl (by kernel_rfl) (by kernel_rfl) (by rfl))
  show wpAny _ _ (execs _ _) _ _ _
  refine wpAny_execs_cons (cs_assign (nA := nA) (cT := cT) (ot := tabO #[]) (wpAny_List (wpAny_items_cons (wpAny_Constant_str (wpAny_items_nil ⟨by show (1 : Nat) ≤ sizeLine; decide, ?_⟩)))) (hns (by simp)) rfl (by kernel_rfl) (by kernel_rfl) (by rfl))
  have T2 := T1.new { cls := .type "list", dict := none, data := .seq [Value.str (Str.ofString "obj") (tk + 1 + 1)].toArray } rfl
  have L2 := T1.le { cls := .type "list", dict := none, data := .seq [Value.str (Str.ofString "obj") (tk + 1 + 1)].toArray }
  refine ⟨_, _, _, _, _, dictO #[{ hash := PyData.keyHash w.params "__module__", key := .str "__module__" k0, val := .str "cpy313.functools" tk }, { hash := PyData.keyHash w.params "__qualname__", key := .str "__qualname__" k1, val := .str "cmp_to_key.<locals>.K" u1 }, { hash := PyData.keyHash w.params "__firstlineno__", key := .str "__firstlineno__" k2, val := .int 4 u2 }, { hash := PyData.keyHash w.params "__slots__", key := .str "__slots__" (tk + 1 + 1 + 1), val := .ref h1.objs.size }] 4, rfl, T2.1, ?s1, ?s2, rfl, ?s3⟩
  case s1 => kernel_rfl
  case s2 => kernel_rfl
  intro h3 T3
  show wpAny _ _ (execs _ _) _ _ _
  try dsimp only
  refine wpAny_execs_cons (cs_def (nm := "__init__") (qn := "cmp_to_key.<locals>.K.__init__") (cl := []) (on' := fun fM tz => dictO #[{ hash := PyData.keyHash w.params "__module__", key := .str "__module__" k0, val := .str "cpy313.functools" tk }, { hash := PyData.keyHash w.params "__qualname__", key := .str "__qualname__" k1, val := .str "cmp_to_key.<locals>.K" u1 }, { hash := PyData.keyHash w.params "__firstlineno__", key := .str "__firstlineno__" k2, val := .int 4 u2 }, { hash := PyData.keyHash w.params "__slots__", key := .str "__slots__" (tk + 1 + 1 + 1), val := .ref h1.objs.size }, { hash := PyData.keyHash w.params "__init__", key := .str "__init__" tz, val := .ref fM }] 5) T3 (fun _ => rfl) (hns (by simp)) rfl rfl (L2 _ _ hcc) hh (by kernel_rfl) (by first | exact trivial | simp [TriplesOk, rawInt]) (GG.le L2) rfl (by kernel_rfl) rfl (by kernel_rfl) (by kernel_rfl) (fun _ _ => by kernel_rfl) (fun _ _ => rfl) ?_)
  intro hI fI cI ctI FI kI vI tI rI leI nfI ncI ffI fcI eI TI
  show wpAny _ _ (execs _ _) _ _ _
  have LI := L2.trans leI
  try dsimp only at TI
  refine wpAny_execs_cons (cs_def (nm := "__lt__") (qn := "cmp_to_key.<locals>.K.__lt__") (cl := (cl1 ce)) (on' := fun fM tz => dictO #[{ hash := PyData.keyHash w.params "__module__", key := .str "__module__" k0, val := .str "cpy313.functools" tk }, { hash := PyData.keyHash w.params "__qualname__", key := .str "__qualname__" k1, val := .str "cmp_to_key.<locals>.K" u1 }, { hash := PyData.keyHash w.params "__firstlineno__", key := .str "__firstlineno__" k2, val := .int 4 u2 }, { hash := PyData.keyHash w.params "__slots__", key := .str "__slots__" (tk + 1 + 1 + 1), val := .ref h1.objs.size }, { hash := PyData.keyHash w.params "__init__", key := .str "__init__" kI, val := .ref fI }, { hash := PyData.keyHash w.params "__lt__", key := .str "__lt__" tz, val := .ref fM }] 6) TI (fun _ => rfl) (hns (by simp)) rfl rfl (LI _ _ hcc) hh (by kernel_rfl) (by first | exact trivial | simp [TriplesOk, rawInt]) (GG.le LI) rfl (by kernel_rfl) rfl (by kernel_rfl) (by kernel_rfl) (fun _ _ => by kernel_rfl) (fun _ _ => rfl) ?_)
  intro hL fL cL ctL FL kL vL tL rL leL nfL ncL ffL fcL eL TL
  show wpAny _ _ (execs _ _) _ _ _
  have LL := LI.trans leL
  try dsimp only at TL
  refine wpAny_execs_cons (cs_def (nm := "__gt__") (qn := "cmp_to_key.<locals>.K.__gt__") (cl := (cl1 ce)) (on' := fun fM tz => dictO #[{ hash := PyData.keyHash w.params "__module__", key := .str "__module__" k0, val := .str "cpy313.functools" tk }, { hash := PyData.keyHash w.params "__qualname__", key := .str "__qualname__" k1, val := .str "cmp_to_key.<locals>.K" u1 }, { hash := PyData.keyHash w.params "__firstlineno__", key := .str "__firstlineno__" k2, val := .int 4 u2 }, { hash := PyData.keyHash w.params "__slots__", key := .str "__slots__" (tk + 1 + 1 + 1), val := .ref h1.objs.size }, { hash := PyData.keyHash w.params "__init__", key := .str "__init__" kI, val := .ref fI }, { hash := PyData.keyHash w.params "__lt__", key := .str "__lt__" kL, val := .ref fL }, { hash := PyData.keyHash w.params "__gt__", key := .str "__gt__" tz, val := .ref fM }] 7) TL (fun _ => rfl) (hns (by simp)) rfl rfl (LL _ _ hcc) hh (by kernel_rfl) (by first | exact trivial | simp [TriplesOk, rawInt]) (GG.le LL) rfl (by kernel_rfl) rfl (by kernel_rfl) (by kernel_rfl) (fun _ _ => by kernel_rfl) (fun _ _ => rfl) ?_)
  intro hG fG cG ctG FG kG vG tG rG leG nfG ncG ffG fcG eG TG
  show wpAny _ _ (execs _ _) _ _ _
  have LG := LL.trans leG
  try dsimp only at TG
  refine wpAny_execs_cons (cs_def (nm := "__eq__") (qn := "cmp_to_key.<locals>.K.__eq__") (cl := (cl1 ce)) (on' := fun fM tz => dictO #[{ hash := PyData.keyHash w.params "__module__", key := .str "__module__" k0, val := .str "cpy313.functools" tk }, { hash := PyData.keyHash w.params "__qualname__", key := .str "__qualname__" k1, val := .str "cmp_to_key.<locals>.K" u1 }, { hash := PyData.keyHash w.params "__firstlineno__", key := .str "__firstlineno__" k2, val := .int 4 u2 }, { hash := PyData.keyHash w.params "__slots__", key := .str "__slots__" (tk + 1 + 1 + 1), val := .ref h1.objs.size }, { hash := PyData.keyHash w.params "__init__", key := .str "__init__" kI, val := .ref fI }, { hash := PyData.keyHash w.params "__lt__", key := .str "__lt__" kL, val := .ref fL }, { hash := PyData.keyHash w.params "__gt__", key := .str "__gt__" kG, val := .ref fG }, { hash := PyData.keyHash w.params "__eq__", key := .str "__eq__" tz, val := .ref fM }] 8) TG (fun _ => rfl) (hns (by simp)) rfl rfl (LG _ _ hcc) hh (by kernel_rfl) (by first | exact trivial | simp [TriplesOk, rawInt]) (GG.le LG) rfl (by kernel_rfl) rfl (by kernel_rfl) (by kernel_rfl) (fun _ _ => by kernel_rfl) (fun _ _ => rfl) ?_)
  intro hE fE cE ctE FE kE vE tE rE leE nfE ncE ffE fcE eE TE
  show wpAny _ _ (execs _ _) _ _ _
  have LE := LG.trans leE
  try dsimp only at TE
  refine wpAny_execs_cons (cs_def (nm := "__le__") (qn := "cmp_to_key.<locals>.K.__le__") (cl := (cl1 ce)) (on' := fun fM tz => dictO #[{ hash := PyData.keyHash w.params "__module__", key := .str "__module__" k0, val := .str "cpy313.functools" tk }, { hash := PyData.keyHash w.params "__qualname__", key := .str "__qualname__" k1, val := .str "cmp_to_key.<locals>.K" u1 }, { hash := PyData.keyHash w.params "__firstlineno__", key := .str "__firstlineno__" k2, val := .int 4 u2 }, { hash := PyData.keyHash w.params "__slots__", key := .str "__slots__" (tk + 1 + 1 + 1), val := .ref h1.objs.size }, { hash := PyData.keyHash w.params "__init__", key := .str "__init__" kI, val := .ref fI }, { hash := PyData.keyHash w.params "__lt__", key := .str "__lt__" kL, val := .ref fL }, { hash := PyData.keyHash w.params "__gt__", key := .str "__gt__" kG, val := .ref fG }, { hash := PyData.keyHash w.params "__eq__", key := .str "__eq__" kE, val := .ref fE }, { hash := PyData.keyHash w.params "__le__", key := .str "__le__" tz, val := .ref fM }] 9) TE (fun _ => rfl) (hns (by simp)) rfl rfl (LE _ _ hcc) hh (by kernel_rfl) (by first | exact trivial | simp [TriplesOk, rawInt]) (GG.le LE) rfl (by kernel_rfl) rfl (by kernel_rfl) (by kernel_rfl) (fun _ _ => by kernel_rfl) (fun _ _ => rfl) ?_)
  intro hQ fQ cQ ctQ FQ kQ vQ tQ rQ leQ nfQ ncQ ffQ fcQ eQ TQ
  show wpAny _ _ (execs _ _) _ _ _
  have LQ := LE.trans leQ
  try dsimp only at TQ
  refine wpAny_execs_cons (cs_def (nm := "__ge__") (qn := "cmp_to_key.<locals>.K.__ge__") (cl := (cl1 ce)) (on' := fun fM tz => dictO #[{ hash := PyData.keyHash w.params "__module__", key := .str "__module__" k0, val := .str "cpy313.functools" tk }, { hash := PyData.keyHash w.params "__qualname__", key := .str "__qualname__" k1, val := .str "cmp_to_key.<locals>.K" u1 }, { hash := PyData.keyHash w.params "__firstlineno__", key := .str "__firstlineno__" k2, val := .int 4 u2 }, { hash := PyData.keyHash w.params "__slots__", key := .str "__slots__" (tk + 1 + 1 + 1), val := .ref h1.objs.size }, { hash := PyData.keyHash w.params "__init__", key := .str "__init__" kI, val := .ref fI }, { hash := PyData.keyHash w.params "__lt__", key := .str "__lt__" kL, val := .ref fL }, { hash := PyData.keyHash w.params "__gt__", key := .str "__gt__" kG, val := .ref fG }, { hash := PyData.keyHash w.params "__eq__", key := .str "__eq__" kE, val := .ref fE }, { hash := PyData.keyHash w.params "__le__", key := .str "__le__" kQ, val := .ref fQ }, { hash := PyData.keyHash w.params "__ge__", key := .str "__ge__" tz, val := .ref fM }] 10) TQ (fun _ => rfl) (hns (by simp)) rfl rfl (LQ _ _ hcc) hh (by kernel_rfl) (by first | exact trivial | simp [TriplesOk, rawInt]) (GG.le LQ) rfl (by kernel_rfl) rfl (by kernel_rfl) (by kernel_rfl) (fun _ _ => by kernel_rfl) (fun _ _ => rfl) ?_)
  intro hH fH cH ctH FH kH vH tH rH leH nfH ncH ffH fcH eH TH
  show wpAny _ _ (execs _ _) _ _ _
  have LH := LQ.trans leH
  try dsimp only at TH
  refine wpAny_execs_cons (cs_assign (wpAny_Constant_none ⟨_, _, _, _, _, dictO #[{ hash := PyData.keyHash w.params "__module__", key := .str "__module__" k0, val := .str "cpy313.functools" tk }, { hash := PyData.keyHash w.params "__qualname__", key := .str "__qualname__" k1, val := .str "cmp_to_key.<locals>.K" u1 }, { hash := PyData.keyHash w.params "__firstlineno__", key := .str "__firstlineno__" k2, val := .int 4 u2 }, { hash := PyData.keyHash w.params "__slots__", key := .str "__slots__" (tk + 1 + 1 + 1), val := .ref h1.objs.size }, { hash := PyData.keyHash w.params "__init__", key := .str "__init__" kI, val := .ref fI }, { hash := PyData.keyHash w.params "__lt__", key := .str "__lt__" kL, val := .ref fL }, { hash := PyData.keyHash w.params "__gt__", key := .str "__gt__" kG, val := .ref fG }, { hash := PyData.keyHash w.params "__eq__", key := .str "__eq__" kE, val := .ref fE }, { hash := PyData.keyHash w.params "__le__", key := .str "__le__" kQ, val := .ref fQ }, { hash := PyData.keyHash w.params "__ge__", key := .str "__ge__" kH, val := .ref fH }, { hash := PyData.keyHash w.params "__hash__", key := .str "__hash__" (kH + 1), val := .none }] 11, rfl, TH, ?s4, ?s5, rfl, ?s6⟩) (hns (by simp)) rfl (by kernel_rfl) (by kernel_rfl) (by rfl))
  case s4 => kernel_rfl
  case s5 => kernel_rfl
  intro h9 T9
  refine wpAny_execs_nil ?_
  have hlS := (((((leI.trans leL).trans leG).trans leE).trans leQ).trans leH) _ _ (fput_self ..)
  exact q _ _ _ _ fI fL fG fE fQ fH cI cL cG cE cQ cH ctI ctL ctG ctE ctQ ctH vI vL vG vE vQ vH tI tL tG tE tQ tH kI kL kG kE kQ kH rI rL rG rE rQ rH _ _ _ _ _ rfl LH hlS (L2.none nfI) (L2.none ncI) (((((leL.trans leG).trans leE).trans leQ).trans leH) _ _ ffI) (((((leL.trans leG).trans leE).trans leQ).trans leH) _ _ fcI) ((L2.trans leI).none nfL) ((L2.trans leI).none ncL) ((((leG.trans leE).trans leQ).trans leH) _ _ ffL) ((((leG.trans leE).trans leQ).trans leH) _ _ fcL) (((L2.trans leI).trans leL).none nfG) (((L2.trans leI).trans leL).none ncG) (((leE.trans leQ).trans leH) _ _ ffG) (((leE.trans leQ).trans leH) _ _ fcG) ((((L2.trans leI).trans leL).trans leG).none nfE) ((((L2.trans leI).trans leL).trans leG).none ncE) ((leQ.trans leH) _ _ ffE) ((leQ.trans leH) _ _ fcE) (((((L2.trans leI).trans leL).trans leG).trans leE).none nfQ) (((((L2.trans leI).trans leL).trans leG).trans leE).none ncQ) (leH _ _ ffQ) (leH _ _ fcQ) ((((((L2.trans leI).trans leL).trans leG).trans leE).trans leQ).none nfH) ((((((L2.trans leI).trans leL).trans leG).trans leE).trans leQ).none ncH) ffH fcH (eI rfl) T9
end
end Lay

/- part RTNP -/
open PySem PySem.W PyProof.Rows
set_option Elab.async false
set_option linter.unusedVariables false
set_option maxRecDepth 100000
set_option maxHeartbeats 0
namespace Lay
def AnyQ (h : Heap) (g : Array GenState) (d : Drawn) (os : OsState) (o : Obj) (Q : Value → Shared → Prop) : Prop :=
  ∀ a h' tk', (∀ b o, h.get? b = some o → h'.get? b = some o) → h.get? a = none → h'.get? a = some o → Q (.ref a) ⟨h', g, d, tk', os⟩
theorem AnyQ.use {h h' : Heap} {a : Addr} {g : Array GenState} {d : Drawn} {os : OsState} {tk' : Nat} {o : Obj} {r : List (Addr × Obj)} {Q : Value → Shared → Prop} (x : AnyQ h g d os o Q)
    (D : X.Mem h h' [] ((a, o) :: r)) : Q (.ref a) ⟨h', g, d, tk', os⟩ :=
  x a h' tk' (fun b o e => D.keep b o e (by simp [X.away])) (D.nw _ (.head _)).2 (D.nw _ (.head _)).1
def prepO : Obj := { cls := .type "builtin_function_or_method", dict := none, data := .fields #[.builtin "type.__prepare__", .type "type"], slots := #[] }
def newD : Obj := { cls := .type "dict", dict := none, data := .dict #[] 0, slots := #[] }
local macro_rules | `(tactic| x_close) => `(tactic| first | exact AnyQ.use (by assumption) (by assumption))
theorem prep_ga {w : World} {h : Heap} {g : Array GenState} {d : Drawn} {tk : Nat} {t : Tok} {os : OsState} {Q E : Value → Shared → Prop} (h2 : (statF w.params).In h) (hQ : AnyQ h g d os prepO Q) :
    wpAny (model PX w) kA (call (.builtin "type.__getattribute__") [.type "type", .str "__prepare__" t]) Q E ⟨h, g, d, tk, os⟩ := by
  x_run
theorem prep_call {w : World} {h : Heap} {g : Array GenState} {d : Drawn} {tk : Nat} {t : Tok} {os : OsState} {b bT : Addr} {Q E : Value → Shared → Prop} (h2 : (statF w.params).In h)
    (hb : h.get? b = some prepO) (hT : h.get? bT = some { cls := .type "tuple", dict := none, data := .seq #[.type "object"] 0, slots := #[] }) (hQ : AnyQ h g d os newD Q) :
    wpAny (model PX w) kA (call (.ref b) [.str "K" t, .ref bT]) Q E ⟨h, g, d, tk, os⟩ := by
  unfold prepO at hb
  x_run
theorem look_type_ga : typeLookup (.type "type") "__getattribute__" = pure (some (.builtin "type.__getattribute__")) := by rw [typeLookup_type, builtinLookup_eq_fast]; kernel_rfl
theorem prep_get {w : World} {A : Around} (hA : AOk 0 A) {h : Heap} {g : Array GenState} {d : Drawn} {tk : Nat} {os : OsState} {Q : Option Value → Shared → Prop} {E : Value → Shared → Prop} (h2 : (statF w.params).In h)
    (hQ : AnyQ h g d os prepO fun v s => Q (some v) s) :
    wpAny (model PX w) A (getAttr? (.type "type") "__prepare__") Q E ⟨h, g, d, tk, os⟩ := by
  unfold getAttr?
  refine wpAny_bind (wpAny_mkText ?_)
  unfold getAttrBy?
  refine wpAny_bind (wpAny_attempt ?_)
  unfold getAttrBy
  refine wpAny_holding (wpAny_bind (wpAny_of_eq (a := .type "type") (by kernel_rfl) (wpAny_bind (wpAny_of_eq look_type_ga ?_))))
  show wpAny _ _ (getAttrByItsOwn (.type "type") (.str "__prepare__" tk) (.type "type") (.builtin "type.__getattribute__") false false) _ _ _
  unfold getAttrByItsOwn hookBefore callGetattribute boundAndCalled
  refine wpAny_bind (wpAny_of_eq (show (if onTheHeap (.type "type") then typeLookup (.type "type") "__getattr__" else pure none) = pure none from rfl) ?_)
  refine wpAny_bind (wpAny_attempt (wpAny_holding ?_))
  show wpAny _ _ (bindSpecial (.builtin "type.__getattribute__") (.type "type") >>= _) _ _ _
  refine wpAny_bind (wpAny_of_eq (a := (.builtin "type.__getattribute__", [.type "type"])) (by kernel_rfl) ?_)
  refine weakA hA (prep_ga h2 fun a h' tk' k fr e => ?_)
  exact wpAny_pure (wpAny_pure (hQ a h' tk' k fr e))
end Lay

/- part RTNA -/
open PySem PySem.W PyProof.Rows
set_option Elab.async false
set_option linter.unusedVariables false
set_option maxRecDepth 100000
set_option maxHeartbeats 0
namespace Lay
/-- the row of a method in the class's table -/
def Hit (F : FZ) (ps3 : Array Value) (i : Nat) (qn : Str) : Prop := ∃ c v t r, codeAmong (fPos (stMeth PX i)) ps3.toList = some (.ref c) ∧ F c = some (codeO v qn t r)
/-- the table when the class has been made once -/
def WarmK (F : FZ) (o : Obj) : Prop := ∃ ps cc oc cP ps3, o = tabO ps ∧ codeAmong ⟨4, 4, 25, 23⟩ ps.toList = some (.ref cc) ∧ F cc = some oc ∧ CodeHead oc cP ∧ F cP = some (tabO ps3) ∧ Hit F ps3 2 "cmp_to_key.<locals>.K.__init__" ∧ Hit F ps3 3 "cmp_to_key.<locals>.K.__lt__" ∧ Hit F ps3 4 "cmp_to_key.<locals>.K.__gt__" ∧ Hit F ps3 5 "cmp_to_key.<locals>.K.__eq__" ∧ Hit F ps3 6 "cmp_to_key.<locals>.K.__le__" ∧ Hit F ps3 7 "cmp_to_key.<locals>.K.__ge__"
theorem clsStmt_eq : fBody (stmtAt PX 1) = [.ClassDef "K" [.Name "object" ⟨4, 12, 4, 18⟩] [] (cBody (fBody (stmtAt PX 1))) [] [] kSc none "K" ["obj"] ⟨4, 4, 25, 23⟩, .Return (some (.Name "K" ⟨26, 11, 26, 12⟩)) ⟨26, 4, 26, 12⟩] := by kernel_rfl
section
variable {w : World} {A : Around} {E : Value → Shared → Prop} {h : Heap} {g : Array GenState} {d : Drawn} {tk : Nat} {os : OsState} {F : FZ}
theorem ld_glo {M : Model} {env : Env} {x : Str} {s : Shared} {Q : Value → Shared → Prop} (hs : env.scope.kind = .function) (hk : env.kindOf x = some .globalImplicit) (q : wpAny M A (loadGlobal env x) Q E s) : wpAny M A (loadName env x) Q E s := by
  rw [loadName_read hs hk]; exact q
/-- what the making of the class asks of the heap -/
structure MK (w : World) (F : FZ) (mg : Str → Option Value) (env : Env) (tb c0 : Addr) : Prop where
  gb : GB F mg
  nm : ∃ v, mg "__name__" = some v
  stat : F 2 = some (statO w.params)
  bc : ∀ s : Shared, (∀ b o, F b = some o → s.heap.get? b = some o) → ∀ {M : Model} {A : Around} {Q : Option Value → Shared → Prop} {E : Value → Shared → Prop}, Q (some (.builtin "__build_class__")) s → wpAny M A (nsGet env.builtins "__build_class__") Q E s
  ob : ∀ s : Shared, (∀ b o, F b = some o → s.heap.get? b = some o) → ∀ {A : Around} {Q : Value → Shared → Prop} {E : Value → Shared → Prop}, Q (.type "object") s → wpAny (model PX w) A (loadGlobal env "object") Q E s
  sys : ∃ o, F sysModules = some o
  code : env.code = .ref c0
  c0h : ∃ oc, F c0 = some oc ∧ CodeHead oc tb
  tbn : F tb = none
  gl : env.globals = mainGlobals
  lim : ∀ h' : Heap, (∀ b o, F b = some o → h'.get? b = some o) → h'.NoLimit
theorem mk_ccode {M : Model} {env : Env} {c0 tb nA : Addr} {oc : Obj} {ps : Array Value} {nm qn : Str} {fl : Nat} {pos : Pos} {sc : Scope} {Q : Value → Shared → Prop} (hF : ∀ b o, F b = some o → h.get? b = some o)
    (hcode : env.code = .ref c0) (hc0 : F c0 = some oc) (hh : CodeHead oc tb) (htb : h.get? tb = some (tabO ps)) (hnf : codeAmong pos ps.toList = none) (htr : TriplesOk ps.toList) (hn : h.get? nA = some newD) (hnA : F nA = none) (htbn : F tb = none)
    (q : ∀ h' cc cT F' tk' oc', FLe F F' → h.get? cc = none → F' cc = some oc' → CodeHead oc' cT → TS F' h' nA cT (dictO #[] 0) (tabO #[]) → F' tb = some (tabO (ps ++ #[rawInt pos.line, rawInt pos.col, .ref cc])) → (∀ b o, b ≠ tb → b ≠ nA → h.get? b = some o → F' b = some o) → Q (.ref cc) ⟨h', g, d, tk', os⟩) :
    wpAny M A (classCode env pos fl nm qn sc) Q E ⟨h, g, d, tk, os⟩ := by
  obtain ⟨vs, hd, h11, ⟨f18, t18, h18⟩, ⟨n7, t7, h7⟩, ⟨b9, h9⟩, ⟨n10, t10, h10⟩⟩ := hh
  unfold classCode codeAt
  rw [hcode, if_neg (show ¬ ((Value.ref c0 == Value.none) = true) from Bool.false_ne_true)]
  refine wpAny_bind (wpAny_fieldsOf (hF _ _ hc0) hd ?_)
  rw [h11]
  refine wpAny_bind (wpAny_fieldsOf htb rfl ?_)
  rw [hnf, h18, h7, h9, h10]
  refine wpAny_bind (mk_cls fun bs fs h1 e1 c tk' v0 rest ec r11 r18 r7 r9 r10 _ => ?_)
  have k1 : ∀ b o, h.get? b = some o → h1.get? b = some o := fun b o e => e1 ▸ Heap.get?_push_of_some _ (Heap.get?_push_of_some _ e)
  have k2 : ∀ b o, h.get? b = some o → (h1.push { cls := .type "code", dict := none, data := .fields (Array.mk rest), slots := #[] }).get? b = some o := fun b o e => Heap.get?_push_of_some _ (k1 b o e)
  have hcT : h1.get? (h.objs.size + 1) = some (tabO #[]) := by
    rw [e1]
    have := Heap.get?_push_size (h.push { cls := .type "tuple", data := .seq fs.toArray }) (o := tabO #[]) rfl
    rw [Heap.size_push] at this
    exact this
  have hcT2 := Heap.get?_push_of_some { cls := .type "code", dict := none, data := .fields (Array.mk rest), slots := #[] } hcT
  have hcc : (h1.push { cls := .type "code", dict := none, data := .fields (Array.mk rest), slots := #[] }).get? c = some { cls := .type "code", dict := none, data := .fields (Array.mk rest), slots := #[] } := by rw [ec]; exact Heap.get?_push_size _ rfl
  have htb2 := k2 _ _ htb
  have hl := Heap.lt_size htb
  have hlA := Heap.lt_size hn
  have hz : h1.objs.size = h.objs.size + 2 := by rw [e1, Heap.size_push, Heap.size_push]
  have m1 : ∀ {b : Nat}, b < h.objs.size → b ≠ h.objs.size + 1 := fun hb => Nat.ne_of_lt (Nat.lt_succ_of_lt hb)
  have m2 : ∀ {b : Nat}, b < h.objs.size → b ≠ c := fun hb => by rw [ec, hz]; exact Nat.ne_of_lt (Nat.lt_of_lt_of_le hb (Nat.le_add_right _ 2))
  have n1 : tb ≠ h.objs.size + 1 := m1 hl
  have n2 : tb ≠ c := m2 hl
  have n3 : nA ≠ h.objs.size + 1 := m1 hlA
  have n4 : nA ≠ c := m2 hlA
  have n5 : tb ≠ nA := fun e => by rw [e, hn] at htb; cases htb
  have n6 : c ≠ h.objs.size + 1 := by rw [ec, hz]; exact Nat.succ_ne_self _
  have frc : h.get? c = none := by
    cases e : h.get? c with
    | none => rfl
    | some o => exact absurd rfl (m2 (Heap.lt_size e))
  refine wpAny_bind (wpAny_updateFieldsOfTheText htb2 rfl ?_)
  have hupd := Heap.get?_update_self (h := h1.push { cls := .type "code", dict := none, data := .fields (Array.mk rest), slots := #[] }) (Obj.mapFields (fun vs => if (codeAmong pos vs.toList).isSome = true then vs else vs ++ #[rawInt pos.line, rawInt pos.col, .ref c])) htb2 (by simp [tabO, Obj.mapFields, hnf]; rfl)
  have hupd' : ((h1.push { cls := .type "code", dict := none, data := .fields (Array.mk rest), slots := #[] }).update tb (Obj.mapFields (fun vs => if (codeAmong pos vs.toList).isSome = true then vs else vs ++ #[rawInt pos.line, rawInt pos.col, .ref c]))).get? tb = some (tabO (ps ++ #[rawInt pos.line, rawInt pos.col, .ref c])) := by
    rw [hupd]; simp [tabO, Obj.mapFields, hnf]
  refine wpAny_bind (wpAny_fieldsOf hupd' rfl ?_)
  have hlist : (ps ++ #[rawInt pos.line, rawInt pos.col, Value.ref c]).toList = ps.toList ++ [rawInt pos.line, rawInt pos.col, .ref c] := by simp
  rw [hlist, codeAmong_snoc _ htr hnf]
  have oth : ∀ b, b ≠ tb → ((h1.push { cls := .type "code", dict := none, data := .fields (Array.mk rest), slots := #[] }).update tb (Obj.mapFields (fun vs => if (codeAmong pos vs.toList).isSome = true then vs else vs ++ #[rawInt pos.line, rawInt pos.col, .ref c]))).get? b = (h1.push { cls := .type "code", dict := none, data := .fields (Array.mk rest), slots := #[] }).get? b := fun b hb =>
    Heap.get?_update_other _ _ (by first | exact hb | exact hb.symm)
  generalize hH : ((h1.push { cls := .type "code", dict := none, data := .fields (Array.mk rest), slots := #[] }).update tb (Obj.mapFields (fun vs => if (codeAmong pos vs.toList).isSome = true then vs else vs ++ #[rawInt pos.line, rawInt pos.col, .ref c]))) = H at *
  refine wpAny_pure (q H c (h.objs.size + 1) (fun b => if b = nA ∨ b = h.objs.size + 1 then none else H.get? b) _ { cls := .type "code", dict := none, data := .fields (Array.mk rest), slots := #[] } ?_ frc ?_ ?_ ?_ ?_ ?_)
  · intro b o e
    have h1' : b ≠ nA := fun e' => by rw [e', hnA] at e; cases e
    have h2' : b ≠ tb := fun e' => by rw [e', htbn] at e; cases e
    have h3' : b ≠ h.objs.size + 1 := m1 (Heap.lt_size (hF _ _ e))
    simp only [h1', h3', or_self, if_false]
    rw [oth _ h2']
    exact k2 _ _ (hF _ _ e)
  · simp only [n4.symm, n6, or_self, if_false]
    rw [oth _ n2.symm]; exact hcc
  · exact ⟨_, rfl, r11, ⟨_, r18⟩, r7, r9, r10⟩
  · refine ⟨fun b o e => ?_, ?_, ?_, by simp, by simp, n3⟩
    · split at e
      · cases e
      · exact e
    · rw [oth _ n5.symm]; exact k2 _ _ hn
    · rw [oth _ n1.symm]; exact hcT2
  · simp only [n5, n1, or_self, if_false]
    exact hupd'
  · intro b o hb1 hb2 e
    have h3' : b ≠ h.objs.size + 1 := m1 (Heap.lt_size e)
    simp only [hb2, h3', or_self, if_false]
    rw [oth _ hb1]; exact k2 _ _ e
theorem nm_load {M : Model} {nA cc fr ce cT : Addr} {ot : Obj} {mg : Str → Option Value} {v : Value} {Q : Value → Shared → Prop} (T : TS F h nA cT (dictO #[] 0) ot) (hns : h.Ns mainGlobals mg) (hv : mg "__name__" = some v) (q : Q v ⟨h, g, d, tk, os⟩) :
    wpAny M A (loadName (kEnv nA cc fr ce) "__name__") Q E ⟨h, g, d, tk, os⟩ := by
  rw [show loadName (kEnv nA cc fr ce) "__name__" = (do
      if let some v ← localGet (kEnv nA cc fr ce) "__name__" then return v
      loadGlobal (kEnv nA cc fr ce) "__name__") from by kernel_rfl]
  refine wpAny_bind ?_
  unfold localGet
  refine wpAny_bind (wpAny_load (a := nA) T.n ?_)
  refine wpAny_ite_true rfl ?_
  refine ng (ns := nA) T.n (r := none) (by kernel_rfl) ?_
  exact Calls.loadGlobal_global hns hv q
theorem k_class {f : Value} {ce : Addr} {mg : Str → Option Value} {env : Env} {tb c0 : Addr} {ps : Array Value} {Q : Flow → Shared → Prop} (hA : AOk 2 A) (ht0 : h.get? tb = some (tabO ps)) (hnf : codeAmong ⟨4, 4, 25, 23⟩ ps.toList = none) (htr : TriplesOk ps.toList) (hcl : closureFor kSc env = pure (cl1 ce)) (K : MK w F mg env tb c0) (hF : ∀ b o, F b = some o → h.get? b = some o) (hs : env.scope.kind = .function) (hk : env.kindOf "object" = some .globalImplicit) (hq : qualnameIn env "K" "K" = "cmp_to_key.<locals>.K")
    (hce : ∃ o, h.get? ce = some o ∧ o.data = .cell (some f)) (hcet : ce ≠ tb)
    (q : ∀ h' tk' cK r more, KFacts h'.get? PX w.params cK f r → r.ce = ce → h.get? cK = none → h.get? r.ns = none → h.get? r.fI = none → h.get? r.cI = none → h.get? r.fL = none → h.get? r.cL = none → h.get? r.fE = none → h.get? r.cE = none → h.get? r.de = none →
      (∀ b o, b ≠ tb → h.get? b = some o → h'.get? b = some o) → h'.get? tb = some (tabO (ps ++ more)) → (∃ G : FZ, (∀ b o, G b = some o → h.get? b = none ∧ h'.get? b = some o) ∧ WarmK G (tabO (ps ++ more))) → wpAny (model PX w) A (do bindName env "K" (.ref cK); pure Flow.next) Q E ⟨h', g, d, tk', os⟩) :
    wpAny (model PX w) A (exec (.ClassDef "K" [.Name "object" ⟨4, 12, 4, 18⟩] [] (cBody (fBody (stmtAt PX 1))) [] [] kSc none "K" ["obj"] ⟨4, 4, 25, 23⟩) env) Q E ⟨h, g, d, tk, os⟩ := by
  rw [arm_exec_ClassDef]
  refine wpAny_bind (wpAny_pure (wpAny_bind (wpAny_standAt (wpAny_bind ?_))))
  unfold buildClassGuard
  refine wpAny_bind (K.bc _ hF ?_)
  refine wpAny_pure (wpAny_bind (wpAny_holding (wpAny_bind ?_)))
  unfold evalArgs
  refine wpAny_bind ?_
  refine wpAny_items_cons (wpAny_Name (ld_glo hs hk (K.ob _ hF (wpAny_items_nil ?_))) (by decide))
  refine wpAny_bind (wpAny_pure ?_)
  dsimp only
  refine wpAny_holding (wpAny_ite_true rfl (wpAny_bind (wpAny_pure ?_)))
  refine wpAny_bind (wpAny_pure (wpAny_pure (wpAny_bind (wpAny_standAt (wpAny_holding ?_)))))
  rw [hq]
  show wpAny _ _ (buildClass "K" "cmp_to_key.<locals>.K" [.type "object"] [] (cBody (fBody (stmtAt PX 1))) kSc ["obj"] 4 env ⟨4, 4, 25, 23⟩ none) _ _ _
  unfold buildClass
  rw [K.gl]
  refine wpAny_bind (wpAny_newObj_type ?_ (by size_fits))
  simp only [List.forIn_cons, List.forIn_nil, List.lookup_nil, List.filter_nil]
  refine wpAny_bind (wpAny_bind (wpAny_bind (wpAny_of_eq (a := true) (by kernel_rfl) ?_)))
  refine wpAny_ite_true rfl ?_
  refine wpAny_ite_false (by decide) ?_
  refine wpAny_pure (wpAny_pure ?_)
  dsimp only [List.nil_append]
  refine wpAny_bind (wpAny_of_eq (a := .type "type") (by kernel_rfl) ?_)
  refine wpAny_bind (wpAny_of_eq (a := true) (by kernel_rfl) ?_)
  refine wpAny_ite_true rfl ?_
  simp only [List.forIn_cons, List.forIn_nil]
  refine wpAny_bind (wpAny_bind (wpAny_bind (wpAny_of_eq (a := .type "type") (by kernel_rfl) (wpAny_bind (wpAny_of_eq (a := true) (by kernel_rfl) ?_)))))
  refine wpAny_ite_true rfl ?_
  refine wpAny_pure (wpAny_pure ?_)
  refine wpAny_bind (wpAny_mkText ?_)
  refine wpAny_ite_false (by decide) ?_
  refine wpAny_bind (wpAny_pure (wpAny_holding (wpAny_bind ?_)))
  have kh := fun b o e => Heap.get?_push_of_some { cls := .type "tuple", dict := none, data := .seq #[.type "object"], slots := #[] } (hF b o e)
  refine prep_get (hA.le (by decide)) (statF_in kh K.stat) fun pb h1 tk1 k1 fr1 e1 => ?_
  dsimp only
  refine wpAny_bind (weakA (n := 0) (hA.le (by decide)) (prep_call (statF_in (fun b o e => k1 b o (kh b o e)) K.stat) e1 (k1 _ _ (Heap.get?_push_size _ rfl)) fun nA h2 tk2 k2 fr2 e2 => ?_))
  have K2 : ∀ b o, F b = some o → h2.get? b = some o := fun b o e => k2 b o (k1 b o (kh b o e))
  have hbT : h2.get? h.objs.size = some { cls := .type "tuple", dict := none, data := .seq #[.type "object"], slots := #[] } := k2 _ _ (k1 _ _ (Heap.get?_push_size _ rfl))
  have htb : h2.get? tb = some (tabO ps) := k2 _ _ (k1 _ _ (Heap.get?_push_of_some _ ht0))
  have hsys : (nA == sysModules) = false := by
    obtain ⟨o, ho⟩ := K.sys
    refine beq_eq_false_iff_ne.mpr fun e => ?_
    rw [e] at fr2
    rw [k1 _ _ (kh _ _ ho)] at fr2
    cases fr2
  have hnA : F nA = none := by
    cases e : F nA with
    | none => rfl
    | some o => rw [k1 _ _ (kh _ _ e)] at fr2; cases fr2
  dsimp only
  refine wpAny_bind (wpAny_of_eq (a := PUnit.unit) (by unfold notTheModulesDict; rw [hsys]; rfl) ?_)
  refine wpAny_bind (wpAny_specialOf (T := "dict") (r := some (.builtin "dict.__getitem__")) ⟨_, e2, rfl⟩ (by rw [typeLookup_type, builtinLookup_eq_fast]; kernel_rfl) ?_)
  refine wpAny_ite_false rfl ?_
  refine wpAny_holding ?_
  refine wpAny_ite_false (by kernel_rfl) ?_
  refine wpAny_bind (wpAny_pure ?_)
  refine wpAny_ite_false (by kernel_rfl) ?_
  refine wpAny_bind (wpAny_pure ?_)
  obtain ⟨oc0, hc0, hh0⟩ := K.c0h
  refine wpAny_bind (mk_ccode K2 K.code hc0 hh0 htb hnf htr e2 hnA K.tbn fun h3 cc cT F1 tk3 oc1 le1 frcc hcc hh1 T1 htb1 kp1 => ?_)
  obtain ⟨hns, bm, o, hbm, hne0, hbo, hcls, hdict, hdata⟩ := (K.gb.le le1) h3 T1.keep
  refine wpAny_bind (wpAny_builtinsFor hns hbm hne0 hbo hcls hdict hdata ?_)
  refine wpAny_bind ?_
  unfold newBodyFrame
  refine wpAny_bind (wpAny_nsGet hns (wpAny_alloc ?_))
  generalize hfo : ({ cls := .type "frame", slots := #[some (Value.ref cc), some (.ref mainGlobals), some (.ref nA), none, some ((mg "__name__").getD .none), none, some (.ref builtinsNs)] } : Obj) = fo
  have T2 := T1.new fo (by rw [← hfo]; rfl)
  have L2 := le1.trans (T1.le fo)
  refine wpAny_bind (wpAny_of_eq (a := cl1 ce) hcl ?_)
  refine wpAny_holding (wpAny_bind (wpAny_enterFrame (K.lim _ fun b o e => T2.1.keep _ _ (L2 _ _ e)) hA.room ?_))
  dsimp only [Option.map_none, Option.toList_none, List.nil_append]
  have he : ({ scope := kSc, locals := nA, globals := mainGlobals, cells := cl1 ce, qual := Str.ofString "cmp_to_key.<locals>.K" ++ Str.ofString ".", code := Value.ref cc, frame := some h3.objs.size, builtins := builtinsNs } : Env) = kEnv nA cc h3.objs.size ce := by kernel_rfl
  rw [he]
  obtain ⟨nmv, hnm⟩ := K.nm
  refine wpAny_bind (wpAny_onRaise (wpAny_bind (nm_load T2.1 ((K.gb.le L2) _ T2.1.keep).1 hnm ?_)))
  refine wpAny_bind (cs_store (on' := dictO #[{ hash := PyData.keyHash w.params "__module__", key := .str "__module__" tk3, val := nmv }] 1) T2.1 (by kernel_rfl) rfl (by kernel_rfl) (by kernel_rfl) rfl fun h4 T4 => ?_)
  refine wpAny_bind (wpAny_mkText ?_)
  refine wpAny_bind (cs_store (on' := dictO #[{ hash := PyData.keyHash w.params "__module__", key := .str "__module__" tk3, val := nmv }, { hash := PyData.keyHash w.params "__qualname__", key := .str "__qualname__" (tk3 + 1 + 1), val := .str "cmp_to_key.<locals>.K" (tk3 + 1) }] 2) T4 (by kernel_rfl) rfl (by kernel_rfl) (by kernel_rfl) rfl fun h5 T5 => ?_)
  refine wpAny_bind (wpAny_mkInt' ?_)
  refine wpAny_bind (cs_store (on' := dictO #[{ hash := PyData.keyHash w.params "__module__", key := .str "__module__" tk3, val := nmv }, { hash := PyData.keyHash w.params "__qualname__", key := .str "__qualname__" (tk3 + 1 + 1), val := .str "cmp_to_key.<locals>.K" (tk3 + 1) }, { hash := PyData.keyHash w.params "__firstlineno__", key := .str "__firstlineno__" (tk3 + 1 + 1 + 1 + 1), val := .int 4 (tk3 + 1 + 1 + 1) }] 3) T5 (by kernel_rfl) rfl (by kernel_rfl) (by kernel_rfl) rfl fun h6 T6 => ?_)
  refine wpAny_pure ?_
  refine wpAny_bind (wpAny_run (codeAny_body (by kernel_rfl) (by kernel_rfl) ?_))
  refine k_body (fr := h3.objs.size) (ce := ce) ((T1.le fo) _ _ hcc) hh1 (K.gb.le L2) T6 ?_
  intro h7 F3 tk4 lS fI fL fG fE fQ fH cI cL cG cE cQ cH ctI ctL ctG ctE ctQ ctH vI vL vG vE vQ vH tI tL tG tE tQ tH kI kL kG kE kQ kH rI rL rG rE rQ rH ps3 nl u3 kS kZ hps le3 hlS nfI ncI ffI fcI nfL ncL ffL fcL nfG ncG ffG fcG nfE ncE ffE fcE nfQ ncQ ffQ fcQ nfH ncH ffH fcH eI T7
  dsimp only
  refine wpAny_bind (wpAny_onRaise (wpAny_bind (wpAny_mkStrs fun fs => wpAny_bind ?_)))
  unfold newTextTuple
  refine wpAny_newObjAsIs_type ?_
  have T8 := T7.new { cls := .type "tuple", dict := none, data := .seq fs.toArray, slots := #[] } rfl
  have L8 := T7.le { cls := .type "tuple", dict := none, data := .seq fs.toArray, slots := #[] }
  refine wpAny_bind (cs_store (on' := dictO #[{ hash := PyData.keyHash w.params "__module__", key := .str "__module__" tk3, val := .str "cpy313.functools" (tk3 + 1 + 1 + 1 + 1 + 1) }, { hash := PyData.keyHash w.params "__qualname__", key := .str "__qualname__" (tk3 + 1 + 1), val := .str "cmp_to_key.<locals>.K" (tk3 + 1) }, { hash := PyData.keyHash w.params "__firstlineno__", key := .str "__firstlineno__" (tk3 + 1 + 1 + 1 + 1), val := .int 4 (tk3 + 1 + 1 + 1) }, { hash := PyData.keyHash w.params "__slots__", key := .str "__slots__" kS, val := .ref lS }, { hash := PyData.keyHash w.params "__init__", key := .str "__init__" kI, val := .ref fI }, { hash := PyData.keyHash w.params "__lt__", key := .str "__lt__" kL, val := .ref fL }, { hash := PyData.keyHash w.params "__gt__", key := .str "__gt__" kG, val := .ref fG }, { hash := PyData.keyHash w.params "__eq__", key := .str "__eq__" kE, val := .ref fE }, { hash := PyData.keyHash w.params "__le__", key := .str "__le__" kQ, val := .ref fQ }, { hash := PyData.keyHash w.params "__ge__", key := .str "__ge__" kH, val := .ref fH }, { hash := PyData.keyHash w.params "__hash__", key := .str "__hash__" kZ, val := .none }, { hash := PyData.keyHash w.params "__static_attributes__", key := .str "__static_attributes__" (tk4 + 1), val := .ref h7.objs.size }] 12) T8.1 (by kernel_rfl) rfl (by kernel_rfl) (by kernel_rfl) rfl fun h9 T9 => ?_)
  refine wpAny_pure ?_
  refine wpAny_ite_false rfl ?_
  dsimp only
  have htbn : tb ≠ nA := fun e => by rw [e, e2] at htb; cases htb
  have n0 : h.objs.size ≠ tb := (Nat.ne_of_lt (Heap.lt_size ht0)).symm
  have hnA1 : h1.get? nA = none := fr2
  have n1 : h.objs.size ≠ nA := fun e => by rw [← e, k1 _ _ (Heap.get?_push_size _ rfl)] at hnA1; cases hnA1
  have hhA : h.get? nA = none := by
    cases e : h.get? nA with
    | none => rfl
    | some o => rw [k1 _ _ (Heap.get?_push_of_some _ e)] at hnA1; cases hnA1
  have hbT1 : F1 h.objs.size = some { cls := .type "tuple", dict := none, data := .seq #[.type "object"], slots := #[] } := kp1 _ _ n0 n1 hbT
  have LA := ((T1.le fo).trans le3).trans L8
  have fresh : ∀ x, F1 x = none → h.get? x = none := fun x hx => by
    cases e : h.get? x with
    | none => rfl
    | some o =>
      have m1 : x ≠ tb := fun e' => by rw [e', htb1] at hx; cases hx
      have m2 : x ≠ nA := fun e' => by rw [e', hhA] at e; cases e
      rw [kp1 x o m1 m2 (k2 _ _ (k1 _ _ (Heap.get?_push_of_some _ e)))] at hx
      cases hx
  have fr2' : ∀ x, (fput F1 h3.objs.size fo) x = none → h.get? x = none := fun x hx => fresh x ((T1.le fo).none hx)
  have hc8 : ∃ o, o = tabO ps3 ∧ FLe _ (fput _ cT o) := ⟨_, rfl, fput_le (o := tabO ps3) T9.cn⟩
  obtain ⟨oT, rfl, L9⟩ := hc8
  have keep9 : ∀ b o, (fput (fput F3 h7.objs.size { cls := .type "tuple", dict := none, data := .seq fs.toArray, slots := #[] }) cT (tabO ps3)) b = some o → h9.get? b = some o := fun b o e => by
    unfold fput at e
    split at e
    · rename_i hb
      cases e; rw [hb]; exact T9.c
    · exact T9.keep b o e
  refine wpAny_bind (cls_call (p := { bT := h.objs.size, lS := lS, fI := fI, fL := fL, fG := fG, fE := fE, fQ := fQ, fH := fH, sT := h7.objs.size, u0 := tk3 + 1 + 1 + 1 + 1 + 1, u1 := tk3 + 1, u2 := tk3 + 1 + 1 + 1, k := fun i => ([tk3, tk3 + 1 + 1, tk3 + 1 + 1 + 1 + 1, kS, kI, kL, kG, kE, kQ, kH, kZ, tk4 + 1] : List Nat).getD i 0 })
    hA keep9 (L9 _ _ ((L2.trans (le3.trans L8)) _ _ K.stat)) (T9.keep _ _ (LA _ _ hbT1)) T9.n ⟨_, L9 _ _ (L8 _ _ ffI), rfl⟩ ⟨_, L9 _ _ (L8 _ _ ffL), rfl⟩ ⟨_, L9 _ _ (L8 _ _ ffG), rfl⟩ ⟨_, L9 _ _ (L8 _ _ ffE), rfl⟩ ⟨_, L9 _ _ (L8 _ _ ffQ), rfl⟩ ⟨_, L9 _ _ (L8 _ _ ffH), rfl⟩ ⟨_, L9 _ _ (fput_self ..), rfl⟩ ⟨_, L9 _ _ (L8 _ _ hlS), rfl⟩ hsys (T9.keep _ _ (L8 _ _ hlS)) ?_)
  intro hZ ns cK de FZ' tkZ leZ0 frd0 hde TZ
  have leZ := L9.trans leZ0
  have frd := L9.none frd0
  refine wpAny_pure ?_
  refine wpAny_bind (wpAny_pure ?_)
  refine wpAny_bind (wpAny_standAt ?_)
  have up := fun x o (e : F1 x = some o) => TZ.keep _ _ (leZ _ _ (LA _ _ e))
  have upB := fun x o (e : F3 x = some o) => TZ.keep _ _ (leZ _ _ (L8 _ _ e))
  have keepA : ∀ b o, b ≠ tb → h.get? b = some o → hZ.get? b = some o := fun b o hb e => by
    have m2 : b ≠ nA := fun e' => by rw [e', hhA] at e; cases e
    exact up b o (kp1 b o hb m2 (k2 _ _ (k1 _ _ (Heap.get?_push_of_some _ e))))
  have frcc' : h.get? cc = none := by
    cases e : h.get? cc with
    | none => rfl
    | some o => rw [k2 _ _ (k1 _ _ (Heap.get?_push_of_some _ e))] at frcc; cases frcc
  have hcTZ : hZ.get? cT = some (tabO ps3) := TZ.keep _ _ (leZ0 _ _ (fput_self ..))
  have inG : ∀ b o, h.get? b = none → hZ.get? b = some o → (if (h.get? b).isNone = true then hZ.get? b else none) = some o := fun b o h1 h2 => by rw [h1]; exact h2
  have Wf : ∃ G : FZ, (∀ b o, G b = some o → h.get? b = none ∧ hZ.get? b = some o) ∧ WarmK G (tabO (ps ++ #[rawInt 4, rawInt 4, .ref cc])) := by
    refine ⟨fun b => if (h.get? b).isNone = true then hZ.get? b else none, fun b o e => ?_, ps ++ #[rawInt 4, rawInt 4, .ref cc], cc, oc1, cT, ps3, rfl, ?_, inG _ _ frcc' (up _ _ hcc), hh1, inG _ _ (fresh _ T1.cn) hcTZ, ?_⟩
    · dsimp only at e
      split at e
      · rename_i hn
        exact ⟨by simpa using hn, e⟩
      · cases e
    · have hlist : (ps ++ #[rawInt 4, rawInt 4, Value.ref cc]).toList = ps.toList ++ [rawInt 4, rawInt 4, .ref cc] := by simp
      rw [hlist]
      exact codeAmong_snoc _ htr hnf
    · rw [hps]
      exact ⟨⟨_, _, _, _, by kernel_rfl, inG _ _ (fr2' _ ncI) (upB _ _ fcI)⟩, ⟨_, _, _, _, by kernel_rfl, inG _ _ (fr2' _ ncL) (upB _ _ fcL)⟩, ⟨_, _, _, _, by kernel_rfl, inG _ _ (fr2' _ ncG) (upB _ _ fcG)⟩, ⟨_, _, _, _, by kernel_rfl, inG _ _ (fr2' _ ncE) (upB _ _ fcE)⟩, ⟨_, _, _, _, by kernel_rfl, inG _ _ (fr2' _ ncQ) (upB _ _ fcQ)⟩, ⟨_, _, _, _, by kernel_rfl, inG _ _ (fr2' _ ncH) (upB _ _ fcH)⟩⟩
  refine q hZ tkZ cK { ns := ns, fI := fI, fL := fL, fE := fE, cI := cI, cL := cL, cE := cE, ce := ce, de := de, bs := h.objs.size, tok := fun i => ([tk, tk3 + 1, tk3, tk3 + 1 + 1 + 1 + 1, kS, kI, kL, kG, kE, kQ, kH, kZ, tk4 + 1, tk4 + 1 + 1 + 1, tk4 + 1 + 1 + 1 + 1, tI, 0, tL, 0, tE, tk4 + 1 + 1] : List Nat).getD i 0, val := fun i => ([.none, .none, .str "cpy313.functools" (tk3 + 1 + 1 + 1 + 1 + 1), .int 4 (tk3 + 1 + 1 + 1), .ref lS, .none, .none, .ref fG, .none, .ref fQ, .ref fH, .none, .ref h7.objs.size, .none, .none, vI, ctL, vL, ctE, vE] : List Value).getD i .none, pm := (mg "__name__").getD .none, rest := fun i => (match i with | 15 => rI | 17 => rL | _ => rE) } _ ?_ rfl (fresh _ (LA.none (leZ.none TZ.cn))) (fresh _ (LA.none (leZ.none TZ.nn))) (fr2' _ nfI) (fr2' _ ncI) (fr2' _ nfL) (fr2' _ ncL) (fr2' _ nfE) (fr2' _ ncE) (fresh _ (LA.none frd)) keepA (up _ _ htb1) Wf
  refine ⟨TZ.c, TZ.n, ?_, upB _ _ fcI, upB _ _ ffL, upB _ _ fcL, upB _ _ ffE, upB _ _ fcE, (let ⟨o, e, c⟩ := hce; ⟨o, keepA _ _ hcet e, c⟩), TZ.keep _ _ hde⟩
  have := upB _ _ ffI
  rw [eI] at this
  exact this
end
end Lay

/- part RTNI -/
open PySem PySem.W PyProof.Rows
set_option Elab.async false
set_option linter.unusedVariables false
set_option maxRecDepth 100000
set_option maxHeartbeats 0
namespace Lay
section
variable {w : World} {A : Around} {E : Value → Shared → Prop} {h : Heap} {g : Array GenState} {d : Drawn} {tk : Nat} {os : OsState} {F : FZ} {nA cT cc fr ce : Addr} {on ot : Obj}
theorem k_body_hit {mg : Str → Option Value} {oc : Obj} {k0 k1 k2 u1 u2 : Tok} {m0 : Value} {cP cI cL cG cE cQ cH : Addr} {ps3 : Array Value} {Q : Flow → Shared → Prop} (hcc : F cc = some oc) (hh : CodeHead oc cP) (hP : F cP = some (tabO ps3)) (hI : codeAmong (fPos (stMeth PX 2)) ps3.toList = some (.ref cI)) (hL : codeAmong (fPos (stMeth PX 3)) ps3.toList = some (.ref cL)) (hG : codeAmong (fPos (stMeth PX 4)) ps3.toList = some (.ref cG)) (hE : codeAmong (fPos (stMeth PX 5)) ps3.toList = some (.ref cE)) (hQ : codeAmong (fPos (stMeth PX 6)) ps3.toList = some (.ref cQ)) (hH : codeAmong (fPos (stMeth PX 7)) ps3.toList = some (.ref cH)) (GG : GB F mg)
    (T0 : TS F h nA cT (dictO #[{ hash := PyData.keyHash w.params "__module__", key := .str "__module__" k0, val := m0 }, { hash := PyData.keyHash w.params "__qualname__", key := .str "__qualname__" k1, val := .str "cmp_to_key.<locals>.K" u1 }, { hash := PyData.keyHash w.params "__firstlineno__", key := .str "__firstlineno__" k2, val := .int 4 u2 }] 3) ot)
    (q : ∀ h' F' tk' (lS fI fL fG fE fQ fH : Addr) (ctI ctL ctG ctE ctQ ctH : Value) (kI kL kG kE kQ kH : Tok) (nl : Nat) (u3 kS kZ : Tok), FLe F F' → F' lS = some { cls := .type "list", dict := none, data := .seq #[.str "obj" u3] nl, slots := #[] } → F fI = none → F' fI = some (mf mg 2 "__init__" "cmp_to_key.<locals>.K.__init__" [] cI ctI) → F fL = none → F' fL = some (mf mg 3 "__lt__" "cmp_to_key.<locals>.K.__lt__" (cl1 ce) cL ctL) → F fG = none → F' fG = some (mf mg 4 "__gt__" "cmp_to_key.<locals>.K.__gt__" (cl1 ce) cG ctG) → F fE = none → F' fE = some (mf mg 5 "__eq__" "cmp_to_key.<locals>.K.__eq__" (cl1 ce) cE ctE) → F fQ = none → F' fQ = some (mf mg 6 "__le__" "cmp_to_key.<locals>.K.__le__" (cl1 ce) cQ ctQ) → F fH = none → F' fH = some (mf mg 7 "__ge__" "cmp_to_key.<locals>.K.__ge__" (cl1 ce) cH ctH) → ctI = .none →
      TS F' h' nA cT (dictO #[{ hash := PyData.keyHash w.params "__module__", key := .str "__module__" k0, val := .str "cpy313.functools" tk }, { hash := PyData.keyHash w.params "__qualname__", key := .str "__qualname__" k1, val := .str "cmp_to_key.<locals>.K" u1 }, { hash := PyData.keyHash w.params "__firstlineno__", key := .str "__firstlineno__" k2, val := .int 4 u2 }, { hash := PyData.keyHash w.params "__slots__", key := .str "__slots__" kS, val := .ref lS }, { hash := PyData.keyHash w.params "__init__", key := .str "__init__" kI, val := .ref fI }, { hash := PyData.keyHash w.params "__lt__", key := .str "__lt__" kL, val := .ref fL }, { hash := PyData.keyHash w.params "__gt__", key := .str "__gt__" kG, val := .ref fG }, { hash := PyData.keyHash w.params "__eq__", key := .str "__eq__" kE, val := .ref fE }, { hash := PyData.keyHash w.params "__le__", key := .str "__le__" kQ, val := .ref fQ }, { hash := PyData.keyHash w.params "__ge__", key := .str "__ge__" kH, val := .ref fH }, { hash := PyData.keyHash w.params "__hash__", key := .str "__hash__" kZ, val := .none }] 11) ot → Q .next ⟨h', g, d, tk', os⟩) :
    wpAny (model PX w) A (execs (cBody (fBody (stmtAt PX 1))) (kEnv nA cc fr ce)) Q E ⟨h, g, d, tk, os⟩ := by
  rw [kBody_eq]
  have hns : ∀ {x : Str} (hx : (x ∈ ([Str.ofString "__module__", Str.ofString "__slots__", Str.ofString "__init__", Str.ofString "__lt__", Str.ofString "__gt__", Str.ofString "__eq__", Str.ofString "__le__", Str.ofString "__ge__", Str.ofString "__hash__"] : List Str))) (v : Value), storeName (kEnv nA cc fr ce) x v = localSet (kEnv nA cc fr ce) x v := fun hx v => k_scl nA cc fr ce hx v
  refine wpAny_execs_cons (cs_assign (wpAny_Constant_str ⟨_, _, _, _, _, dictO #[{ hash := PyData.keyHash w.params "__module__", key := .str "__module__" k0, val := .str "cpy313.functools" tk }, { hash := PyData.keyHash w.params "__qualname__", key := .str "__qualname__" k1, val := .str "cmp_to_key.<locals>.K" u1 }, { hash := PyData.keyHash w.params "__firstlineno__", key := .str "__firstlineno__" k2, val := .int 4 u2 }] 3, rfl, T0, by kernel_rfl, by kernel_rfl, rfl, fun h1 T1 => ?_⟩) (hns (by simp)) rfl (by kernel_rfl) (by kernel_rfl) (by rfl))
  show wpAny _ _ (execs _ _) _ _ _
  refine wpAny_execs_cons (cs_assign (nA := nA) (cT := cT) (ot := ot) (wpAny_List (wpAny_items_cons (wpAny_Constant_str (wpAny_items_nil ⟨by show (1 : Nat) ≤ sizeLine; decide, ?_⟩)))) (hns (by simp)) rfl (by kernel_rfl) (by kernel_rfl) (by rfl))
  have T2 := T1.new { cls := .type "list", dict := none, data := .seq [Value.str (Str.ofString "obj") (tk + 1 + 1)].toArray } rfl
  have L2 := T1.le { cls := .type "list", dict := none, data := .seq [Value.str (Str.ofString "obj") (tk + 1 + 1)].toArray }
  refine ⟨_, _, _, _, _, dictO #[{ hash := PyData.keyHash w.params "__module__", key := .str "__module__" k0, val := .str "cpy313.functools" tk }, { hash := PyData.keyHash w.params "__qualname__", key := .str "__qualname__" k1, val := .str "cmp_to_key.<locals>.K" u1 }, { hash := PyData.keyHash w.params "__firstlineno__", key := .str "__firstlineno__" k2, val := .int 4 u2 }, { hash := PyData.keyHash w.params "__slots__", key := .str "__slots__" (tk + 1 + 1 + 1), val := .ref h1.objs.size }] 4, rfl, T2.1, ?s1, ?s2, rfl, ?s3⟩
  case s1 => kernel_rfl
  case s2 => kernel_rfl
  intro h3 T3
  show wpAny _ _ (execs _ _) _ _ _
  try dsimp only
  refine wpAny_execs_cons (cs_def_hit (nm := "__init__") (qn := "cmp_to_key.<locals>.K.__init__") (cl := []) (on' := fun fM tz => dictO #[{ hash := PyData.keyHash w.params "__module__", key := .str "__module__" k0, val := .str "cpy313.functools" tk }, { hash := PyData.keyHash w.params "__qualname__", key := .str "__qualname__" k1, val := .str "cmp_to_key.<locals>.K" u1 }, { hash := PyData.keyHash w.params "__firstlineno__", key := .str "__firstlineno__" k2, val := .int 4 u2 }, { hash := PyData.keyHash w.params "__slots__", key := .str "__slots__" (tk + 1 + 1 + 1), val := .ref h1.objs.size }, { hash := PyData.keyHash w.params "__init__", key := .str "__init__" tz, val := .ref fM }] 5) T3 (fun _ => rfl) (hns (by simp)) rfl rfl (L2 _ _ hcc) hh (L2 _ _ hP) hI (GG.le L2) rfl (by kernel_rfl) rfl (by kernel_rfl) (by kernel_rfl) (fun _ _ => by kernel_rfl) (fun _ _ => rfl) ?_)
  intro zI fI ctI FI kI leI nfI ffI eI TI
  show wpAny _ _ (execs _ _) _ _ _
  have LI := L2.trans leI
  try dsimp only at TI
  refine wpAny_execs_cons (cs_def_hit (nm := "__lt__") (qn := "cmp_to_key.<locals>.K.__lt__") (cl := (cl1 ce)) (on' := fun fM tz => dictO #[{ hash := PyData.keyHash w.params "__module__", key := .str "__module__" k0, val := .str "cpy313.functools" tk }, { hash := PyData.keyHash w.params "__qualname__", key := .str "__qualname__" k1, val := .str "cmp_to_key.<locals>.K" u1 }, { hash := PyData.keyHash w.params "__firstlineno__", key := .str "__firstlineno__" k2, val := .int 4 u2 }, { hash := PyData.keyHash w.params "__slots__", key := .str "__slots__" (tk + 1 + 1 + 1), val := .ref h1.objs.size }, { hash := PyData.keyHash w.params "__init__", key := .str "__init__" kI, val := .ref fI }, { hash := PyData.keyHash w.params "__lt__", key := .str "__lt__" tz, val := .ref fM }] 6) TI (fun _ => rfl) (hns (by simp)) rfl rfl (LI _ _ hcc) hh (LI _ _ hP) hL (GG.le LI) rfl (by kernel_rfl) rfl (by kernel_rfl) (by kernel_rfl) (fun _ _ => by kernel_rfl) (fun _ _ => rfl) ?_)
  intro zL fL ctL FL kL leL nfL ffL eL TL
  show wpAny _ _ (execs _ _) _ _ _
  have LL := LI.trans leL
  try dsimp only at TL
  refine wpAny_execs_cons (cs_def_hit (nm := "__gt__") (qn := "cmp_to_key.<locals>.K.__gt__") (cl := (cl1 ce)) (on' := fun fM tz => dictO #[{ hash := PyData.keyHash w.params "__module__", key := .str "__module__" k0, val := .str "cpy313.functools" tk }, { hash := PyData.keyHash w.params "__qualname__", key := .str "__qualname__" k1, val := .str "cmp_to_key.<locals>.K" u1 }, { hash := PyData.keyHash w.params "__firstlineno__", key := .str "__firstlineno__" k2, val := .int 4 u2 }, { hash := PyData.keyHash w.params "__slots__", key := .str "__slots__" (tk + 1 + 1 + 1), val := .ref h1.objs.size }, { hash := PyData.keyHash w.params "__init__", key := .str "__init__" kI, val := .ref fI }, { hash := PyData.keyHash w.params "__lt__", key := .str "__lt__" kL, val := .ref fL }, { hash := PyData.keyHash w.params "__gt__", key := .str "__gt__" tz, val := .ref fM }] 7) TL (fun _ => rfl) (hns (by simp)) rfl rfl (LL _ _ hcc) hh (LL _ _ hP) hG (GG.le LL) rfl (by kernel_rfl) rfl (by kernel_rfl) (by kernel_rfl) (fun _ _ => by kernel_rfl) (fun _ _ => rfl) ?_)
  intro zG fG ctG FG kG leG nfG ffG eG TG
  show wpAny _ _ (execs _ _) _ _ _
  have LG := LL.trans leG
  try dsimp only at TG
  refine wpAny_execs_cons (cs_def_hit (nm := "__eq__") (qn := "cmp_to_key.<locals>.K.__eq__") (cl := (cl1 ce)) (on' := fun fM tz => dictO #[{ hash := PyData.keyHash w.params "__module__", key := .str "__module__" k0, val := .str "cpy313.functools" tk }, { hash := PyData.keyHash w.params "__qualname__", key := .str "__qualname__" k1, val := .str "cmp_to_key.<locals>.K" u1 }, { hash := PyData.keyHash w.params "__firstlineno__", key := .str "__firstlineno__" k2, val := .int 4 u2 }, { hash := PyData.keyHash w.params "__slots__", key := .str "__slots__" (tk + 1 + 1 + 1), val := .ref h1.objs.size }, { hash := PyData.keyHash w.params "__init__", key := .str "__init__" kI, val := .ref fI }, { hash := PyData.keyHash w.params "__lt__", key := .str "__lt__" kL, val := .ref fL }, { hash := PyData.keyHash w.params "__gt__", key := .str "__gt__" kG, val := .ref fG }, { hash := PyData.keyHash w.params "__eq__", key := .str "__eq__" tz, val := .ref fM }] 8) TG (fun _ => rfl) (hns (by simp)) rfl rfl (LG _ _ hcc) hh (LG _ _ hP) hE (GG.le LG) rfl (by kernel_rfl) rfl (by kernel_rfl) (by kernel_rfl) (fun _ _ => by kernel_rfl) (fun _ _ => rfl) ?_)
  intro zE fE ctE FE kE leE nfE ffE eE TE
  show wpAny _ _ (execs _ _) _ _ _
  have LE := LG.trans leE
  try dsimp only at TE
  refine wpAny_execs_cons (cs_def_hit (nm := "__le__") (qn := "cmp_to_key.<locals>.K.__le__") (cl := (cl1 ce)) (on' := fun fM tz => dictO #[{ hash := PyData.keyHash w.params "__module__", key := .str "__module__" k0, val := .str "cpy313.functools" tk }, { hash := PyData.keyHash w.params "__qualname__", key := .str "__qualname__" k1, val := .str "cmp_to_key.<locals>.K" u1 }, { hash := PyData.keyHash w.params "__firstlineno__", key := .str "__firstlineno__" k2, val := .int 4 u2 }, { hash := PyData.keyHash w.params "__slots__", key := .str "__slots__" (tk + 1 + 1 + 1), val := .ref h1.objs.size }, { hash := PyData.keyHash w.params "__init__", key := .str "__init__" kI, val := .ref fI }, { hash := PyData.keyHash w.params "__lt__", key := .str "__lt__" kL, val := .ref fL }, { hash := PyData.keyHash w.params "__gt__", key := .str "__gt__" kG, val := .ref fG }, { hash := PyData.keyHash w.params "__eq__", key := .str "__eq__" kE, val := .ref fE }, { hash := PyData.keyHash w.params "__le__", key := .str "__le__" tz, val := .ref fM }] 9) TE (fun _ => rfl) (hns (by simp)) rfl rfl (LE _ _ hcc) hh (LE _ _ hP) hQ (GG.le LE) rfl (by kernel_rfl) rfl (by kernel_rfl) (by kernel_rfl) (fun _ _ => by kernel_rfl) (fun _ _ => rfl) ?_)
  intro zQ fQ ctQ FQ kQ leQ nfQ ffQ eQ TQ
  show wpAny _ _ (execs _ _) _ _ _
  have LQ := LE.trans leQ
  try dsimp only at TQ
  refine wpAny_execs_cons (cs_def_hit (nm := "__ge__") (qn := "cmp_to_key.<locals>.K.__ge__") (cl := (cl1 ce)) (on' := fun fM tz => dictO #[{ hash := PyData.keyHash w.params "__module__", key := .str "__module__" k0, val := .str "cpy313.functools" tk }, { hash := PyData.keyHash w.params "__qualname__", key := .str "__qualname__" k1, val := .str "cmp_to_key.<locals>.K" u1 }, { hash := PyData.keyHash w.params "__firstlineno__", key := .str "__firstlineno__" k2, val := .int 4 u2 }, { hash := PyData.keyHash w.params "__slots__", key := .str "__slots__" (tk + 1 + 1 + 1), val := .ref h1.objs.size }, { hash := PyData.keyHash w.params "__init__", key := .str "__init__" kI, val := .ref fI }, { hash := PyData.keyHash w.params "__lt__", key := .str "__lt__" kL, val := .ref fL }, { hash := PyData.keyHash w.params "__gt__", key := .str "__gt__" kG, val := .ref fG }, { hash := PyData.keyHash w.params "__eq__", key := .str "__eq__" kE, val := .ref fE }, { hash := PyData.keyHash w.params "__le__", key := .str "__le__" kQ, val := .ref fQ }, { hash := PyData.keyHash w.params "__ge__", key := .str "__ge__" tz, val := .ref fM }] 10) TQ (fun _ => rfl) (hns (by simp)) rfl rfl (LQ _ _ hcc) hh (LQ _ _ hP) hH (GG.le LQ) rfl (by kernel_rfl) rfl (by kernel_rfl) (by kernel_rfl) (fun _ _ => by kernel_rfl) (fun _ _ => rfl) ?_)
  intro zH fH ctH FH kH leH nfH ffH eH TH
  show wpAny _ _ (execs _ _) _ _ _
  have LH := LQ.trans leH
  try dsimp only at TH
  refine wpAny_execs_cons (cs_assign (wpAny_Constant_none ⟨_, _, _, _, _, dictO #[{ hash := PyData.keyHash w.params "__module__", key := .str "__module__" k0, val := .str "cpy313.functools" tk }, { hash := PyData.keyHash w.params "__qualname__", key := .str "__qualname__" k1, val := .str "cmp_to_key.<locals>.K" u1 }, { hash := PyData.keyHash w.params "__firstlineno__", key := .str "__firstlineno__" k2, val := .int 4 u2 }, { hash := PyData.keyHash w.params "__slots__", key := .str "__slots__" (tk + 1 + 1 + 1), val := .ref h1.objs.size }, { hash := PyData.keyHash w.params "__init__", key := .str "__init__" kI, val := .ref fI }, { hash := PyData.keyHash w.params "__lt__", key := .str "__lt__" kL, val := .ref fL }, { hash := PyData.keyHash w.params "__gt__", key := .str "__gt__" kG, val := .ref fG }, { hash := PyData.keyHash w.params "__eq__", key := .str "__eq__" kE, val := .ref fE }, { hash := PyData.keyHash w.params "__le__", key := .str "__le__" kQ, val := .ref fQ }, { hash := PyData.keyHash w.params "__ge__", key := .str "__ge__" kH, val := .ref fH }, { hash := PyData.keyHash w.params "__hash__", key := .str "__hash__" (kH + 1), val := .none }] 11, rfl, TH, ?s4, ?s5, rfl, ?s6⟩) (hns (by simp)) rfl (by kernel_rfl) (by kernel_rfl) (by rfl))
  case s4 => kernel_rfl
  case s5 => kernel_rfl
  intro h9 T9
  refine wpAny_execs_nil ?_
  have hlS := (((((leI.trans leL).trans leG).trans leE).trans leQ).trans leH) _ _ (fput_self ..)
  exact q _ _ _ _ fI fL fG fE fQ fH ctI ctL ctG ctE ctQ ctH kI kL kG kE kQ kH _ _ _ _ LH hlS (L2.none nfI) (((((leL.trans leG).trans leE).trans leQ).trans leH) _ _ ffI) ((L2.trans leI).none nfL) ((((leG.trans leE).trans leQ).trans leH) _ _ ffL) (((L2.trans leI).trans leL).none nfG) (((leE.trans leQ).trans leH) _ _ ffG) ((((L2.trans leI).trans leL).trans leG).none nfE) ((leQ.trans leH) _ _ ffE) (((((L2.trans leI).trans leL).trans leG).trans leE).none nfQ) (leH _ _ ffQ) ((((((L2.trans leI).trans leL).trans leG).trans leE).trans leQ).none nfH) ffH (eI rfl) T9
end
end Lay

/- part RTNW -/
open PySem PySem.W PyProof.Rows
set_option Elab.async false
set_option linter.unusedVariables false
set_option maxRecDepth 100000
set_option maxHeartbeats 0
namespace Lay
section
variable {w : World} {A : Around} {E : Value → Shared → Prop} {h : Heap} {g : Array GenState} {d : Drawn} {tk : Nat} {os : OsState} {F : FZ}
theorem mk_ccode_hit {M : Model} {env : Env} {c0 tb cc : Addr} {oc : Obj} {ps : Array Value} {nm qn : Str} {fl : Nat} {pos : Pos} {sc : Scope} {Q : Value → Shared → Prop} (hF : ∀ b o, F b = some o → h.get? b = some o)
    (hcode : env.code = .ref c0) (hc0 : F c0 = some oc) (hh : CodeHead oc tb) (htb : h.get? tb = some (tabO ps)) (hit : codeAmong pos ps.toList = some (.ref cc))
    (q : Q (.ref cc) ⟨h, g, d, tk, os⟩) :
    wpAny M A (classCode env pos fl nm qn sc) Q E ⟨h, g, d, tk, os⟩ := by
  obtain ⟨vs, hd, h11, ⟨f18, t18, h18⟩, ⟨n7, t7, h7⟩, ⟨b9, h9⟩, ⟨n10, t10, h10⟩⟩ := hh
  unfold classCode codeAt
  rw [hcode, if_neg (show ¬ ((Value.ref c0 == Value.none) = true) from Bool.false_ne_true)]
  refine wpAny_bind (wpAny_fieldsOf (hF _ _ hc0) hd ?_)
  rw [h11]
  refine wpAny_bind (wpAny_fieldsOf htb rfl ?_)
  rw [hit]
  exact wpAny_pure q
theorem k_class_hit {cc cP : Addr} {oc1 : Obj} {ps3 : Array Value} {cI cL cG cE cQ cH : Addr} {vI vL vG vE vQ vH : Value} {tI tL tG tE tQ tH : Tok} {rI rL rG rE rQ rH : List Value} {f : Value} {ce : Addr} {mg : Str → Option Value} {env : Env} {tb c0 : Addr} {ps : Array Value} {Q : Flow → Shared → Prop} (hA : AOk 2 A) (ht0 : h.get? tb = some (tabO ps)) (hit : codeAmong ⟨4, 4, 25, 23⟩ ps.toList = some (.ref cc)) (Hcc : F cc = some oc1) (hh1 : CodeHead oc1 cP) (HP : F cP = some (tabO ps3)) (aI : codeAmong (fPos (stMeth PX 2)) ps3.toList = some (.ref cI)) (bI : F cI = some (codeO vI "cmp_to_key.<locals>.K.__init__" tI rI)) (aL : codeAmong (fPos (stMeth PX 3)) ps3.toList = some (.ref cL)) (bL : F cL = some (codeO vL "cmp_to_key.<locals>.K.__lt__" tL rL)) (aG : codeAmong (fPos (stMeth PX 4)) ps3.toList = some (.ref cG)) (bG : F cG = some (codeO vG "cmp_to_key.<locals>.K.__gt__" tG rG)) (aE : codeAmong (fPos (stMeth PX 5)) ps3.toList = some (.ref cE)) (bE : F cE = some (codeO vE "cmp_to_key.<locals>.K.__eq__" tE rE)) (aQ : codeAmong (fPos (stMeth PX 6)) ps3.toList = some (.ref cQ)) (bQ : F cQ = some (codeO vQ "cmp_to_key.<locals>.K.__le__" tQ rQ)) (aH : codeAmong (fPos (stMeth PX 7)) ps3.toList = some (.ref cH)) (bH : F cH = some (codeO vH "cmp_to_key.<locals>.K.__ge__" tH rH)) (hcl : closureFor kSc env = pure (cl1 ce)) (K : MK w F mg env tb c0) (hF : ∀ b o, F b = some o → h.get? b = some o) (hs : env.scope.kind = .function) (hk : env.kindOf "object" = some .globalImplicit) (hq : qualnameIn env "K" "K" = "cmp_to_key.<locals>.K")
    (hce : ∃ o, h.get? ce = some o ∧ o.data = .cell (some f)) (hcet : ce ≠ tb)
    (q : ∀ h' tk' cK r, KFacts h'.get? PX w.params cK f r → r.ce = ce → h.get? cK = none → h.get? r.ns = none → h.get? r.fI = none → r.cI = cI → h.get? r.fL = none → r.cL = cL → h.get? r.fE = none → r.cE = cE → h.get? r.de = none →
      (∀ b o, b ≠ tb → h.get? b = some o → h'.get? b = some o) → h'.get? tb = some (tabO ps) → wpAny (model PX w) A (do bindName env "K" (.ref cK); pure Flow.next) Q E ⟨h', g, d, tk', os⟩) :
    wpAny (model PX w) A (exec (.ClassDef "K" [.Name "object" ⟨4, 12, 4, 18⟩] [] (cBody (fBody (stmtAt PX 1))) [] [] kSc none "K" ["obj"] ⟨4, 4, 25, 23⟩) env) Q E ⟨h, g, d, tk, os⟩ := by
  rw [arm_exec_ClassDef]
  refine wpAny_bind (wpAny_pure (wpAny_bind (wpAny_standAt (wpAny_bind ?_))))
  unfold buildClassGuard
  refine wpAny_bind (K.bc _ hF ?_)
  refine wpAny_pure (wpAny_bind (wpAny_holding (wpAny_bind ?_)))
  unfold evalArgs
  refine wpAny_bind ?_
  refine wpAny_items_cons (wpAny_Name (ld_glo hs hk (K.ob _ hF (wpAny_items_nil ?_))) (by decide))
  refine wpAny_bind (wpAny_pure ?_)
  dsimp only
  refine wpAny_holding (wpAny_ite_true rfl (wpAny_bind (wpAny_pure ?_)))
  refine wpAny_bind (wpAny_pure (wpAny_pure (wpAny_bind (wpAny_standAt (wpAny_holding ?_)))))
  rw [hq]
  show wpAny _ _ (buildClass "K" "cmp_to_key.<locals>.K" [.type "object"] [] (cBody (fBody (stmtAt PX 1))) kSc ["obj"] 4 env ⟨4, 4, 25, 23⟩ none) _ _ _
  unfold buildClass
  rw [K.gl]
  refine wpAny_bind (wpAny_newObj_type ?_ (by size_fits))
  simp only [List.forIn_cons, List.forIn_nil, List.lookup_nil, List.filter_nil]
  refine wpAny_bind (wpAny_bind (wpAny_bind (wpAny_of_eq (a := true) (by kernel_rfl) ?_)))
  refine wpAny_ite_true rfl ?_
  refine wpAny_ite_false (by decide) ?_
  refine wpAny_pure (wpAny_pure ?_)
  dsimp only [List.nil_append]
  refine wpAny_bind (wpAny_of_eq (a := .type "type") (by kernel_rfl) ?_)
  refine wpAny_bind (wpAny_of_eq (a := true) (by kernel_rfl) ?_)
  refine wpAny_ite_true rfl ?_
  simp only [List.forIn_cons, List.forIn_nil]
  refine wpAny_bind (wpAny_bind (wpAny_bind (wpAny_of_eq (a := .type "type") (by kernel_rfl) (wpAny_bind (wpAny_of_eq (a := true) (by kernel_rfl) ?_)))))
  refine wpAny_ite_true rfl ?_
  refine wpAny_pure (wpAny_pure ?_)
  refine wpAny_bind (wpAny_mkText ?_)
  refine wpAny_ite_false (by decide) ?_
  refine wpAny_bind (wpAny_pure (wpAny_holding (wpAny_bind ?_)))
  have kh := fun b o e => Heap.get?_push_of_some { cls := .type "tuple", dict := none, data := .seq #[.type "object"], slots := #[] } (hF b o e)
  refine prep_get (hA.le (by decide)) (statF_in kh K.stat) fun pb h1 tk1 k1 fr1 e1 => ?_
  dsimp only
  refine wpAny_bind (weakA (n := 0) (hA.le (by decide)) (prep_call (statF_in (fun b o e => k1 b o (kh b o e)) K.stat) e1 (k1 _ _ (Heap.get?_push_size _ rfl)) fun nA h2 tk2 k2 fr2 e2 => ?_))
  have K2 : ∀ b o, F b = some o → h2.get? b = some o := fun b o e => k2 b o (k1 b o (kh b o e))
  have hbT : h2.get? h.objs.size = some { cls := .type "tuple", dict := none, data := .seq #[.type "object"], slots := #[] } := k2 _ _ (k1 _ _ (Heap.get?_push_size _ rfl))
  have htb : h2.get? tb = some (tabO ps) := k2 _ _ (k1 _ _ (Heap.get?_push_of_some _ ht0))
  have hsys : (nA == sysModules) = false := by
    obtain ⟨o, ho⟩ := K.sys
    refine beq_eq_false_iff_ne.mpr fun e => ?_
    rw [e] at fr2
    rw [k1 _ _ (kh _ _ ho)] at fr2
    cases fr2
  have hnA : F nA = none := by
    cases e : F nA with
    | none => rfl
    | some o => rw [k1 _ _ (kh _ _ e)] at fr2; cases fr2
  dsimp only
  refine wpAny_bind (wpAny_of_eq (a := PUnit.unit) (by unfold notTheModulesDict; rw [hsys]; rfl) ?_)
  refine wpAny_bind (wpAny_specialOf (T := "dict") (r := some (.builtin "dict.__getitem__")) ⟨_, e2, rfl⟩ (by rw [typeLookup_type, builtinLookup_eq_fast]; kernel_rfl) ?_)
  refine wpAny_ite_false rfl ?_
  refine wpAny_holding ?_
  refine wpAny_ite_false (by kernel_rfl) ?_
  refine wpAny_bind (wpAny_pure ?_)
  refine wpAny_ite_false (by kernel_rfl) ?_
  refine wpAny_bind (wpAny_pure ?_)
  obtain ⟨oc0, hc0, hh0⟩ := K.c0h
  refine wpAny_bind (mk_ccode_hit K2 K.code hc0 hh0 htb hit ?_)
  have htbnA : nA ≠ tb := fun e => by rw [e, htb] at e2; cases e2
  have hFtb := K.tbn
  obtain ⟨F1, hF1⟩ : ∃ F1 : FZ, F1 = fun b => if b = nA ∨ b = tb then none else h2.get? b := ⟨_, rfl⟩
  have kp1 : ∀ b o, b ≠ tb → b ≠ nA → h2.get? b = some o → F1 b = some o := fun b o q1 q2 e => by
    rw [hF1]; dsimp only
    rw [if_neg (by rintro (q | q); exact q2 q; exact q1 q)]; exact e
  have le1 : FLe F F1 := fun b o e => kp1 b o (fun q => by rw [q, hFtb] at e; cases e) (fun q => by rw [q, hnA] at e; cases e) (K2 b o e)
  have T1 : TS F1 h2 nA tb (dictO #[] 0) (tabO ps) := by
    refine ⟨fun b o e => ?_, e2, htb, by rw [hF1]; simp, by rw [hF1]; simp, htbnA⟩
    rw [hF1] at e; dsimp only at e
    split at e
    · cases e
    · exact e
  have hcc := le1 _ _ Hcc
  have htb1 : True := trivial
  obtain ⟨hns, bm, o, hbm, hne0, hbo, hcls, hdict, hdata⟩ := (K.gb.le le1) h2 T1.keep
  refine wpAny_bind (wpAny_builtinsFor hns hbm hne0 hbo hcls hdict hdata ?_)
  refine wpAny_bind ?_
  unfold newBodyFrame
  refine wpAny_bind (wpAny_nsGet hns (wpAny_alloc ?_))
  generalize hfo : ({ cls := .type "frame", slots := #[some (Value.ref cc), some (.ref mainGlobals), some (.ref nA), none, some ((mg "__name__").getD .none), none, some (.ref builtinsNs)] } : Obj) = fo
  have T2 := T1.new fo (by rw [← hfo]; rfl)
  have L2 := le1.trans (T1.le fo)
  refine wpAny_bind (wpAny_of_eq (a := cl1 ce) hcl ?_)
  refine wpAny_holding (wpAny_bind (wpAny_enterFrame (K.lim _ fun b o e => T2.1.keep _ _ (L2 _ _ e)) hA.room ?_))
  dsimp only [Option.map_none, Option.toList_none, List.nil_append]
  have he : ({ scope := kSc, locals := nA, globals := mainGlobals, cells := cl1 ce, qual := Str.ofString "cmp_to_key.<locals>.K" ++ Str.ofString ".", code := Value.ref cc, frame := some h2.objs.size, builtins := builtinsNs } : Env) = kEnv nA cc h2.objs.size ce := by kernel_rfl
  rw [he]
  obtain ⟨nmv, hnm⟩ := K.nm
  refine wpAny_bind (wpAny_onRaise (wpAny_bind (nm_load T2.1 ((K.gb.le L2) _ T2.1.keep).1 hnm ?_)))
  refine wpAny_bind (cs_store (on' := dictO #[{ hash := PyData.keyHash w.params "__module__", key := .str "__module__" tk2, val := nmv }] 1) T2.1 (by kernel_rfl) rfl (by kernel_rfl) (by kernel_rfl) rfl fun h4 T4 => ?_)
  refine wpAny_bind (wpAny_mkText ?_)
  refine wpAny_bind (cs_store (on' := dictO #[{ hash := PyData.keyHash w.params "__module__", key := .str "__module__" tk2, val := nmv }, { hash := PyData.keyHash w.params "__qualname__", key := .str "__qualname__" (tk2 + 1 + 1), val := .str "cmp_to_key.<locals>.K" (tk2 + 1) }] 2) T4 (by kernel_rfl) rfl (by kernel_rfl) (by kernel_rfl) rfl fun h5 T5 => ?_)
  refine wpAny_bind (wpAny_mkInt' ?_)
  refine wpAny_bind (cs_store (on' := dictO #[{ hash := PyData.keyHash w.params "__module__", key := .str "__module__" tk2, val := nmv }, { hash := PyData.keyHash w.params "__qualname__", key := .str "__qualname__" (tk2 + 1 + 1), val := .str "cmp_to_key.<locals>.K" (tk2 + 1) }, { hash := PyData.keyHash w.params "__firstlineno__", key := .str "__firstlineno__" (tk2 + 1 + 1 + 1 + 1), val := .int 4 (tk2 + 1 + 1 + 1) }] 3) T5 (by kernel_rfl) rfl (by kernel_rfl) (by kernel_rfl) rfl fun h6 T6 => ?_)
  refine wpAny_pure ?_
  refine wpAny_bind (wpAny_run (codeAny_body (by kernel_rfl) (by kernel_rfl) ?_))
  refine k_body_hit (fr := h2.objs.size) (ce := ce) ((T1.le fo) _ _ hcc) hh1 (L2 _ _ HP) aI aL aG aE aQ aH (K.gb.le L2) T6 ?_
  intro h7 F3 tk4 lS fI fL fG fE fQ fH ctI ctL ctG ctE ctQ ctH kI kL kG kE kQ kH nl u3 kS kZ le3 hlS nfI ffI nfL ffL nfG ffG nfE ffE nfQ ffQ nfH ffH eI T7
  dsimp only
  refine wpAny_bind (wpAny_onRaise (wpAny_bind (wpAny_mkStrs fun fs => wpAny_bind ?_)))
  unfold newTextTuple
  refine wpAny_newObjAsIs_type ?_
  have T8 := T7.new { cls := .type "tuple", dict := none, data := .seq fs.toArray, slots := #[] } rfl
  have L8 := T7.le { cls := .type "tuple", dict := none, data := .seq fs.toArray, slots := #[] }
  refine wpAny_bind (cs_store (on' := dictO #[{ hash := PyData.keyHash w.params "__module__", key := .str "__module__" tk2, val := .str "cpy313.functools" (tk2 + 1 + 1 + 1 + 1 + 1) }, { hash := PyData.keyHash w.params "__qualname__", key := .str "__qualname__" (tk2 + 1 + 1), val := .str "cmp_to_key.<locals>.K" (tk2 + 1) }, { hash := PyData.keyHash w.params "__firstlineno__", key := .str "__firstlineno__" (tk2 + 1 + 1 + 1 + 1), val := .int 4 (tk2 + 1 + 1 + 1) }, { hash := PyData.keyHash w.params "__slots__", key := .str "__slots__" kS, val := .ref lS }, { hash := PyData.keyHash w.params "__init__", key := .str "__init__" kI, val := .ref fI }, { hash := PyData.keyHash w.params "__lt__", key := .str "__lt__" kL, val := .ref fL }, { hash := PyData.keyHash w.params "__gt__", key := .str "__gt__" kG, val := .ref fG }, { hash := PyData.keyHash w.params "__eq__", key := .str "__eq__" kE, val := .ref fE }, { hash := PyData.keyHash w.params "__le__", key := .str "__le__" kQ, val := .ref fQ }, { hash := PyData.keyHash w.params "__ge__", key := .str "__ge__" kH, val := .ref fH }, { hash := PyData.keyHash w.params "__hash__", key := .str "__hash__" kZ, val := .none }, { hash := PyData.keyHash w.params "__static_attributes__", key := .str "__static_attributes__" (tk4 + 1), val := .ref h7.objs.size }] 12) T8.1 (by kernel_rfl) rfl (by kernel_rfl) (by kernel_rfl) rfl fun h9 T9 => ?_)
  refine wpAny_pure ?_
  refine wpAny_ite_false rfl ?_
  dsimp only
  have htbn : tb ≠ nA := fun e => by rw [e, e2] at htb; cases htb
  have n0 : h.objs.size ≠ tb := (Nat.ne_of_lt (Heap.lt_size ht0)).symm
  have hnA1 : h1.get? nA = none := fr2
  have n1 : h.objs.size ≠ nA := fun e => by rw [← e, k1 _ _ (Heap.get?_push_size _ rfl)] at hnA1; cases hnA1
  have hhA : h.get? nA = none := by
    cases e : h.get? nA with
    | none => rfl
    | some o => rw [k1 _ _ (Heap.get?_push_of_some _ e)] at hnA1; cases hnA1
  have hbT1 : F1 h.objs.size = some { cls := .type "tuple", dict := none, data := .seq #[.type "object"], slots := #[] } := kp1 _ _ n0 n1 hbT
  have LA := ((T1.le fo).trans le3).trans L8
  have fresh : ∀ x, x ≠ tb → F1 x = none → h.get? x = none := fun x m1 hx => by
    cases e : h.get? x with
    | none => rfl
    | some o =>
      have m2 : x ≠ nA := fun e' => by rw [e', hhA] at e; cases e
      rw [kp1 x o m1 m2 (k2 _ _ (k1 _ _ (Heap.get?_push_of_some _ e)))] at hx
      cases hx
  have fr2' : ∀ x, x ≠ tb → (fput F1 h2.objs.size fo) x = none → h.get? x = none := fun x m hx => fresh x m ((T1.le fo).none hx)
  have nt3 : ∀ {x o}, F3 x = some o → x ≠ tb := fun e e' => by rw [e', T7.cn] at e; cases e
  have hc8 : ∃ o, o = tabO ps ∧ FLe _ (fput _ tb o) := ⟨_, rfl, fput_le (o := tabO ps) T9.cn⟩
  obtain ⟨oT, rfl, L9⟩ := hc8
  have keep9 : ∀ b o, (fput (fput F3 h7.objs.size { cls := .type "tuple", dict := none, data := .seq fs.toArray, slots := #[] }) tb (tabO ps)) b = some o → h9.get? b = some o := fun b o e => by
    unfold fput at e
    split at e
    · rename_i hb
      cases e; rw [hb]; exact T9.c
    · exact T9.keep b o e
  refine wpAny_bind (cls_call (p := { bT := h.objs.size, lS := lS, fI := fI, fL := fL, fG := fG, fE := fE, fQ := fQ, fH := fH, sT := h7.objs.size, u0 := tk2 + 1 + 1 + 1 + 1 + 1, u1 := tk2 + 1, u2 := tk2 + 1 + 1 + 1, k := fun i => ([tk2, tk2 + 1 + 1, tk2 + 1 + 1 + 1 + 1, kS, kI, kL, kG, kE, kQ, kH, kZ, tk4 + 1] : List Nat).getD i 0 })
    hA keep9 (L9 _ _ ((L2.trans (le3.trans L8)) _ _ K.stat)) (T9.keep _ _ (LA _ _ hbT1)) T9.n ⟨_, L9 _ _ (L8 _ _ ffI), rfl⟩ ⟨_, L9 _ _ (L8 _ _ ffL), rfl⟩ ⟨_, L9 _ _ (L8 _ _ ffG), rfl⟩ ⟨_, L9 _ _ (L8 _ _ ffE), rfl⟩ ⟨_, L9 _ _ (L8 _ _ ffQ), rfl⟩ ⟨_, L9 _ _ (L8 _ _ ffH), rfl⟩ ⟨_, L9 _ _ (fput_self ..), rfl⟩ ⟨_, L9 _ _ (L8 _ _ hlS), rfl⟩ hsys (T9.keep _ _ (L8 _ _ hlS)) ?_)
  intro hZ ns cK de FZ' tkZ leZ0 frd0 hde TZ
  have leZ := L9.trans leZ0
  have frd := L9.none frd0
  refine wpAny_pure ?_
  refine wpAny_bind (wpAny_pure ?_)
  refine wpAny_bind (wpAny_standAt ?_)
  have up := fun x o (e : F1 x = some o) => TZ.keep _ _ (leZ _ _ (LA _ _ e))
  have upB := fun x o (e : F3 x = some o) => TZ.keep _ _ (leZ _ _ (L8 _ _ e))
  have keepA : ∀ b o, b ≠ tb → h.get? b = some o → hZ.get? b = some o := fun b o hb e => by
    have m2 : b ≠ nA := fun e' => by rw [e', hhA] at e; cases e
    exact up b o (kp1 b o hb m2 (k2 _ _ (k1 _ _ (Heap.get?_push_of_some _ e))))
  have hcTZ : hZ.get? tb = some (tabO ps) := TZ.keep _ _ (leZ0 _ _ (fput_self ..))
  have ntZ : ∀ x, FZ' x = none → x ≠ tb := fun x e e' => by
    have := leZ0 _ _ (fput_self ..)
    rw [e', this] at e; cases e
  have ntde : de ≠ tb := fun e' => by rw [e', fput_self] at frd0; cases frd0
  refine q hZ tkZ cK { ns := ns, fI := fI, fL := fL, fE := fE, cI := cI, cL := cL, cE := cE, ce := ce, de := de, bs := h.objs.size, tok := fun i => ([tk, tk2 + 1, tk2, tk2 + 1 + 1 + 1 + 1, kS, kI, kL, kG, kE, kQ, kH, kZ, tk4 + 1, tk4 + 1 + 1 + 1, tk4 + 1 + 1 + 1 + 1, tI, 0, tL, 0, tE, tk4 + 1 + 1] : List Nat).getD i 0, val := fun i => ([.none, .none, .str "cpy313.functools" (tk2 + 1 + 1 + 1 + 1 + 1), .int 4 (tk2 + 1 + 1 + 1), .ref lS, .none, .none, .ref fG, .none, .ref fQ, .ref fH, .none, .ref h7.objs.size, .none, .none, vI, ctL, vL, ctE, vE] : List Value).getD i .none, pm := (mg "__name__").getD .none, rest := fun i => (match i with | 15 => rI | 17 => rL | _ => rE) } ?_ rfl (fresh _ (ntZ _ TZ.cn) (LA.none (leZ.none TZ.cn))) (fresh _ (ntZ _ TZ.nn) (LA.none (leZ.none TZ.nn))) (fr2' _ (nt3 ffI) nfI) rfl (fr2' _ (nt3 ffL) nfL) rfl (fr2' _ (nt3 ffE) nfE) rfl (fresh _ ntde (LA.none frd)) keepA hcTZ
  refine ⟨TZ.c, TZ.n, ?_, up _ _ (le1 _ _ bI), upB _ _ ffL, up _ _ (le1 _ _ bL), upB _ _ ffE, up _ _ (le1 _ _ bE), (let ⟨o, e, c⟩ := hce; ⟨o, keepA _ _ hcet e, c⟩), TZ.keep _ _ hde⟩
  have := upB _ _ ffI
  rw [eI] at this
  exact this
end
end Lay

/- part RKL -/
open PySem PySem.W PyProof.Rows
set_option Elab.async false
set_option linter.unusedVariables false
set_option maxRecDepth 100000
namespace Lay
variable {X : Cx} {n : Nat} {μ : Mu}

theorem mro_object : mroOf (.type "object") = pure [.type "object"] := by rfl
theorem look_object_lt : ∃ y, typeLookup (.type "object") "__lt__" = pure y := ⟨some (.builtin "object.__lt__"), by rw [typeLookup_type, builtinLookup_eq_fast]; kernel_rfl⟩
theorem look_object_eq : ∃ y, typeLookup (.type "object") "__eq__" = pure y := ⟨some (.builtin "object.__eq__"), by rw [typeLookup_type, builtinLookup_eq_fast]; kernel_rfl⟩
theorem look_object_ga : typeLookup (.type "object") "__getattribute__" = pure (some (.builtin "object.__getattribute__")) := by rw [typeLookup_type, builtinLookup_eq_fast]; kernel_rfl
theorem KFacts.nsOf {F : FZ} {h : Heap} {p : Program} {P : Params} {cK : Addr} {f : Value} {r : KRec} (K : KFacts F p P cK f r) (fz : Froz F h) : ∃ m, h.Ns r.ns m ∧ m "__lt__" = some (.ref r.fL) ∧ m "__eq__" = some (.ref r.fE) ∧ m "__getattribute__" = none := by
  refine ⟨_, ⟨_, _, _, fz _ _ K.ns, rfl, fun e he => ?_, fun _ => rfl⟩, rfl, rfl, rfl⟩
  simp only [List.mem_toArray, List.mem_cons, List.not_mem_nil, or_false] at he
  rcases he with rfl | rfl | rfl | rfl | rfl | rfl | rfl | rfl | rfl | rfl | rfl | rfl | rfl <;> exact ⟨_, _, rfl⟩
theorem KFacts.special {F : FZ} {h : Heap} {p : Program} {P : Params} {cK x dx : Addr} {f u : Value} {r : KRec} (K : KFacts F p P cK f r) (fz : Froz F h) (hx : F x = some { cls := .ref cK, dict := some dx, data := .plain, slots := #[some u] }) :
    h.OwnSpecial x cK r.fL "object" "__lt__" ∧ h.OwnSpecial x cK r.fE "object" "__eq__" := by
  obtain ⟨m, hn, h1, h2, _⟩ := K.nsOf fz
  obtain ⟨y1, hy1⟩ := look_object_lt
  obtain ⟨y2, hy2⟩ := look_object_eq
  exact ⟨⟨_, _, _, _, _, _, _, _, _, _, _, _, _, _, _, _, _, _, _, _, y1, fz _ _ hx, rfl, fz _ _ K.cls, hn, h1, fz _ _ K.lt, rfl, mro_object, hy1⟩,
    ⟨_, _, _, _, _, _, _, _, _, _, _, _, _, _, _, _, _, _, _, _, y2, fz _ _ hx, rfl, fz _ _ K.cls, hn, h2, fz _ _ K.eq, rfl, mro_object, hy2⟩⟩
end Lay

/- part RKC -/
open PySem PySem.W PyProof.Rows
set_option Elab.async false
set_option linter.unusedVariables false
set_option maxRecDepth 100000
namespace Lay
variable {X : Cx} {n : Nat} {μ : Mu}

/-- the standing facts of a law's call -/
structure Std (X : Cx) : Prop where
  prog : X.prog = PX
  stat : X.h₁.get? 2 = some (statO X.w.params)
  statT : (2 : Addr) ≠ X.tb
  lim : ∀ h, Based X h → h.NoLimit
theorem Std.frag {F : FZ} {s : Shared} (C : Std X) (H : HC X F μ s) : (statF X.w.params).In s.heap := fun a o e => by
  have e : List.lookup a [((2 : Addr), statO X.w.params)] = some o := e
  rw [List.lookup_cons] at e
  cases h : a == (2 : Addr) with
  | true =>
    rw [h] at e
    obtain rfl := beq_iff_eq.mp h
    cases e
    exact H.fz _ _ (H.base _ _ C.stat C.statT)
  | false => rw [h] at e; cases e
theorem k_attr {A : Around} {F : FZ} {s : Shared} {cK x dx a : Addr} {f : Value} {r : KRec} {Q : Value → Shared → Prop} {E : Value → Shared → Prop} (C : Std X) (hA : AOk n A) (H : HC X F μ s) (K : KFacts F PX X.w.params cK f r)
    (hx : F x = some { cls := .ref cK, dict := some dx, data := .plain, slots := #[some (.ref a)] }) (h : ∀ tk, Q (.ref a) { s with toks := tk }) : wpAny (model X.prog X.w) A (getAttr (.ref x) "obj" true) Q E s := by
  have fz : Froz F s.heap := fun a o e => H.fz a o e
  obtain ⟨m, hn, _, _, hm⟩ := K.nsOf fz
  unfold getAttr
  refine wpAny_bind (wpAny_mkText ?_)
  unfold getAttrBy
  refine wpAny_holding (wpAny_bind (wpAny_typeOf_ref (fz _ _ hx) ?_))
  refine wpAny_bind (wpAny_typeLookup_exc (h := s.heap) (fz _ _ K.cls) hn mro_object look_object_ga ?_)
  rw [hm]
  dsimp only
  rw [if_pos (by rfl)]
  unfold getAttrEveryday
  refine wpAny_bind (wpAny_onRaise ?_)
  rw [C.prog]
  refine weakA hA (k_obj (C.frag H) (K.mono fz) (fz _ _ hx) ?_)
  exact wpAny_pure (h _)

/-- a call of a comparing method -/
theorem k_call {A : Around} {F : FZ} {s : Shared} {cK x y dx dy a b fM cM ce : Addr} {f pm ct : Value} {r : KRec} {st : Stmt} {q : Str} {fd : FuncData} {op : CmpOp} {da db : D} {P : Int → Prop} {res : Int → Bool} {p1 p2 p3 p4 p5 p6 p7 p8 p9 : Pos} {kk : Nat} (C : Std X) (hA : AOk (n + 2) A) (H : HC X F μ s) (K : KFacts F PX X.w.params cK f r)
    (hx : F x = some { cls := .ref cK, dict := some dx, data := .plain, slots := #[some (.ref a)] }) (hy : F y = some { cls := .ref cK, dict := some dy, data := .plain, slots := #[some (.ref b)] })
    (ra : Rep F da (.ref a)) (rb : Rep F db (.ref b)) (hce : ∃ o, F ce = some o ∧ o.data = .cell (some f))
    (hfd : fd = { name := fName st, qualname := q, params := fArgs st, body := .stmts (fBody st), scope := fScope st, globals := mainGlobals, closure := [("mycmp", ce)], defaults := .none, kwdefaults := .none, doc := .none, pyModule := pm, code := .ref cM, closureTuple := ct, builtins := builtinsNs })
    (hM : F fM = some { cls := .type "function", dict := none, data := .func fd, slots := #[] }) (hcd : s.heap.CodeRec (.ref cM) q)
    (hbody : fBody st = [.Return (some (.Compare (.Call (.Name "mycmp" p1) [.Attribute (.Name "self" p2) "obj" p3, .Attribute (.Name "other" p4) "obj" p5] [] p6) [op] [.Constant (.int 0) kk p7] p8)) p9])
    (hself : (fScope st).names.lookup (Str.ofString "self") = some .local) (hother : (fScope st).names.lookup (Str.ofString "other") = some .local) (hmy : (fScope st).names.lookup (Str.ofString "mycmp") = some .free) (hcell : ∀ x ∈ (fScope st).names, x.2 ≠ .cell)
    (hco : (fScope st).isCoroutine = false) (hgen : (fScope st).isGenerator = false) (hkind : (fScope st).kind = .function) (hbind : ∀ vx vy : Value, bindArgs fd ⟨[vx, vy], []⟩ = pure [(Str.ofString "self", vx), (Str.ofString "other", vy)])
    (hm : behindInMarks op (.Constant (.int 0) kk p7) = false)
    (kf : KeepOk X f) (hf : CallP X n f [da, db] μ fun d μ' => ∃ c, P c ∧ d = .int c ∧ μ' = μ) (hop : ∀ c, Cmp X n op (.int c) (.int 0) μ fun d μ' => d = .bool (res c) ∧ μ' = μ) :
    wpAny (model X.prog X.w) A (call (.ref fM) [.ref x, .ref y]) (Post X (fun d μ' => ∃ c, P c ∧ d = .bool (res c) ∧ μ' = μ) F μ s) Never s := by
  have fz : Froz F s.heap := fun a o e => H.fz a o e
  subst hfd
  refine wpAny_call (codeAny_call_function hA.room (fz _ _ hM) rfl hco hgen rfl hcd ?_)
  rw [hbind]
  refine wpAny_pure (wpAny_newFunctionEnv hcell (by simp [hself, hother]) (fun h₁ hns hsb => ?_) hkind)
  have keep : ∀ b o, s.heap.get? b = some o → h₁.get? b = some o := fun b o e => hsb.extBut b o (Nat.ne_of_lt (Heap.lt_size e)) (Heap.get?_push_of_some _ e)
  refine ⟨C.lim _ fun b o e hb => keep b o (H.based b o e hb), codeAny_func ?_⟩
  generalize hs₁ : ({ s with heap := h₁, toks := s.toks + ([("self", .ref x), ("other", .ref y)] : List (Str × Value)).length } : Shared) = s₁
  have H₁ : HC X F μ s₁ := by rw [← hs₁]; exact H.grow keep rfl rfl
  have S₁ : Step No F μ s F μ s₁ := by rw [← hs₁]; exact .grow keep
  have hns₁ : s₁.heap.Ns s.heap.objs.size (fun x' => [(("self" : Str), Value.ref x), ("other", .ref y)].reverse.lookup x') := by rw [← hs₁]; exact hns
  have hLF := H.none_of_fresh (push_none (h := s.heap))
  show wpAny (model X.prog X.w) (A.deeper _) (execs (fBody st) _) _ _ s₁
  rw [hbody]
  generalize hE : newEnv (fScope st) s.heap.objs.size mainGlobals [("mycmp", ce)] (q ++ ".<locals>.") (some fM) (.ref cM) none builtinsNs = env
  have ek : env.scope.kind = .function := by rw [← hE]; exact hkind
  have eL : env.locals = s.heap.objs.size := by rw [← hE]; rfl
  have e1 : env.kindOf "self" = some .local := by rw [← hE]; exact hself
  have e2 : env.kindOf "other" = some .local := by rw [← hE]; exact hother
  have e3 : env.kindOf "mycmp" = some .free := by rw [← hE]; exact hmy
  have e4 : env.cells.lookup (Str.ofString "mycmp") = some ce := by rw [← hE]; rfl
  have hA' : AOk (n + 1) (A.deeper env) := hA.deeper
  rw [← eL] at hns₁
  have nsAt : ∀ {F' μ' s'}, Step No F μ s₁ F' μ' s' → s'.heap.Ns env.locals (fun x' => [(("self" : Str), Value.ref x), ("other", .ref y)].reverse.lookup x') := fun {F' μ' s'} S' => hns₁.at' fun o e => S'.keep _ o e (by rw [eL]; exact hLF.2.1) id
  refine wpAny_execs_cons (wpAny_Return_some (wpAny_Compare1 ?_ hm))
  refine wpAny_mono (E := Never) (Q := Post X (fun d μ' => ∃ c, P c ∧ d = .int c ∧ μ' = μ) F μ s₁) ?_ ?_ fun _ _ e => e.elim
  · refine Call_ (wpAny_Name (wpAny_loadName_free ek e3 e4 (let ⟨o, e, c⟩ := hce; ⟨o, H₁.fz _ _ e, c⟩) ?_) (by decide)) rfl
    refine callWith_of (P := Based X) rfl (fun h hb => kf h hb) ?_
    refine Calls.evalArgs_plain ?_
    show wpAny _ _ (spliced [(false, _), (false, _)]) _ _ s₁
    have attr : ∀ {nm : Str} {z dz c : Addr} {pa pb : Pos} {s' : Shared} {Q : Value → Shared → Prop}, env.kindOf nm = some .local → (nm == ("__debug__" : Str)) = false → HC X F μ s' → s'.heap.Ns env.locals (fun x' => [(("self" : Str), Value.ref x), ("other", .ref y)].reverse.lookup x') →
        [(("self" : Str), Value.ref x), ("other", .ref y)].reverse.lookup nm = some (.ref z) → F z = some { cls := .ref cK, dict := some dz, data := .plain, slots := #[some (.ref c)] } → (∀ tk, Q (.ref c) { s' with toks := tk }) →
        wpAny (model X.prog X.w) (A.deeper env) (eval (.Attribute (.Name nm pa) "obj" pb) env) Q Never s' := fun {nm z dz c pa pb s' Q} hk hd H' hn hz hF hQ => by
      rw [arm_eval_Attribute]
      show wpAny _ _ (do let o ← eval (.Name nm pa) env; standAt pb.atName; let r ← holding [o] (getAttr o "obj" true); letTemporaryGo (.Name nm pa) o r; pure r) _ _ s'
      refine wpAny_bind (wpAny_Name (wpAny_loadName_local ek hk hn hz ?_) hd)
      refine wpAny_bind (wpAny_standAt (wpAny_bind (wpAny_holding ?_)))
      refine k_attr C hA' H' K hF fun tk => ?_
      exact wpAny_bind (wpAny_pure (wpAny_pure (hQ tk)))
    refine Calls.spliced_cons (attr e1 (by decide) H₁ (nsAt (.refl ..)) rfl hx fun tk => ?_)
    have H₂ : HC X F μ { s₁ with toks := tk } := H₁.grow (fun _ _ e => e) rfl rfl
    refine Calls.spliced_cons (attr e2 (by decide) H₂ (nsAt (.grow fun _ _ e => e)) rfl hy fun tk' => ?_)
    have H₃ : HC X F μ { s₁ with toks := tk' } := H₁.grow (fun _ _ e => e) rfl rfl
    refine Calls.spliced_nil ⟨H₃.based, ?_⟩
    refine wpAny_mono (hf (A.deeper env) F _ [.ref a, .ref b] (hA'.le (Nat.le_succ _)) H₃ ⟨_, _, rfl, ra, _, _, rfl, rb, rfl⟩) (fun v s' p => Post.after (show Step No F μ s₁ F μ { s₁ with toks := tk' } from .grow fun _ _ e => e) p) fun _ _ e => e
  · rintro v s₂ ⟨d, μ₂, F₂, ⟨c, hc, rfl, rfl⟩, rd, H₂, S₂⟩
    refine wpAny_Constant_int ?_
    have H₃ : HC X F₂ μ₂ { s₂ with toks := s₂.toks + 1 } := H₂.grow (fun _ _ e => e) rfl rfl
    refine wpAny_mono (hop c (A.deeper env) F₂ _ v _ (hA'.le (Nat.le_succ _)) H₃ rd ⟨_, rfl⟩) ?_ fun _ _ e => e.elim
    rintro u s₃ ⟨d, μ₃, F₃, ⟨rfl, rfl⟩, rd', H₄, S₃⟩
    exact ⟨_, _, F₃, ⟨c, hc, rfl, rfl⟩, rd', H₄, S₁.trans (S₂.trans (Step.trans (show Step No F₂ μ₃ s₂ F₂ μ₃ { s₂ with toks := s₂.toks + 1 } from .grow fun _ _ e => e) S₃))⟩
end Lay

/- part RKD -/
open PySem PySem.W PyProof.Rows
set_option Elab.async false
set_option linter.unusedVariables false
set_option maxRecDepth 100000
namespace Lay
variable {X : Cx} {n : Nat} {μ : Mu}

abbrev inst (X : Cx) (c : Addr) (f : Value) (d : D) : D := .inst PX X.w.params c f d
theorem CallD.knew {c : Addr} {f : Value} {d : D} {Q : D → Mu → Prop} (C : Std X) (h : Q (inst X c f d) μ) : CallD X n (.kcl PX X.w.params c f) [d] μ Q := by
  rintro A F s _ _ hA H ⟨rfl, r, K⟩ ⟨v, _, rfl, rd, rfl⟩
  have fz : Froz F s.heap := fun a o e => H.fz a o e
  rw [C.prog]
  refine weakA hA (k_new (C.frag H) (K.mono fz) fun a dd h' tk' hk hfr ho => ?_)
  obtain ⟨H', S'⟩ := H.freeze (s' := ⟨h', s.gens, s.drawn, tk', s.os⟩) hfr ho hk rfl rfl
  have le := fput_le (o := { cls := .ref c, dict := some dd, data := .plain, slots := #[some v] }) (H.none_of_fresh hfr).1
  exact ⟨_, μ, _, h, ⟨a, dd, v, rfl, fput_self .., ⟨r, K.mono le⟩, rd.mono le⟩, H', S'⟩
theorem code_lt {F : FZ} {h : Heap} {cK : Addr} {f : Value} {r : KRec} {p : Program} {P : Params} (K : KFacts F p P cK f r) (fz : Froz F h) : h.CodeRec (.ref r.cL) "cmp_to_key.<locals>.K.__lt__" := ⟨_, _, _, _, rfl, fz _ _ K.ltC, rfl, rfl⟩
theorem code_eq {F : FZ} {h : Heap} {cK : Addr} {f : Value} {r : KRec} {p : Program} {P : Params} (K : KFacts F p P cK f r) (fz : Froz F h) : h.CodeRec (.ref r.cE) "cmp_to_key.<locals>.K.__eq__" := ⟨_, _, _, _, rfl, fz _ _ K.eqC, rfl, rfl⟩
/-- what a comparing call answers -/
def Ask (X : Cx) (n : Nat) (f : Value) (a b : D) (μ : Mu) (P : Int → Prop) : Prop := CallP X n f [a, b] μ fun d μ' => ∃ c, P c ∧ d = .int c ∧ μ' = μ
theorem k_lt {A : Around} {F : FZ} {s : Shared} {cK x y dx dy a b : Addr} {f : Value} {r : KRec} {da db : D} {P : Int → Prop} (C : Std X) (hA : AOk (n + 2) A) (H : HC X F μ s) (K : KFacts F PX X.w.params cK f r)
    (hx : F x = some { cls := .ref cK, dict := some dx, data := .plain, slots := #[some (.ref a)] }) (hy : F y = some { cls := .ref cK, dict := some dy, data := .plain, slots := #[some (.ref b)] })
    (ra : Rep F da (.ref a)) (rb : Rep F db (.ref b)) (kf : KeepOk X f) (hf : Ask X n f da db μ P) :
    wpAny (model X.prog X.w) A (call (.ref r.fL) [.ref x, .ref y]) (Post X (fun d μ' => ∃ c, P c ∧ d = .bool (decide (c < 0)) ∧ μ' = μ) F μ s) Never s :=
  k_call (st := stMeth PX 3) (op := .Lt) C hA H K hx hy ra rb K.cell rfl K.lt (code_lt K fun a o e => H.fz a o e) rfl rfl rfl rfl (by decide) rfl rfl rfl (fun _ _ => rfl) (by with_unfolding_all rfl) kf hf fun c => Cmp.lt ⟨rfl, rfl⟩
theorem k_eq {A : Around} {F : FZ} {s : Shared} {cK x y dx dy a b : Addr} {f : Value} {r : KRec} {da db : D} {P : Int → Prop} (C : Std X) (hA : AOk (n + 2) A) (H : HC X F μ s) (K : KFacts F PX X.w.params cK f r)
    (hx : F x = some { cls := .ref cK, dict := some dx, data := .plain, slots := #[some (.ref a)] }) (hy : F y = some { cls := .ref cK, dict := some dy, data := .plain, slots := #[some (.ref b)] })
    (ra : Rep F da (.ref a)) (rb : Rep F db (.ref b)) (kf : KeepOk X f) (hf : Ask X n f da db μ P) :
    wpAny (model X.prog X.w) A (call (.ref r.fE) [.ref x, .ref y]) (Post X (fun d μ' => ∃ c, P c ∧ d = .bool (c == 0) ∧ μ' = μ) F μ s) Never s :=
  k_call (st := stMeth PX 5) (op := .Eq) C hA H K hx hy ra rb K.cell rfl K.eq (code_eq K fun a o e => H.fz a o e) rfl rfl rfl rfl (by decide) rfl rfl rfl (fun _ _ => rfl) (by with_unfolding_all rfl) kf hf fun c => Cmp.eq ⟨rfl, rfl⟩
def IsTup (d : D) : Prop := ∃ l, d = .tup l
theorem IsTup.ref {d : D} {F : FZ} {v : Value} (h : IsTup d) (r : Rep F d v) : ∃ a, v = .ref a := by
  obtain ⟨l, rfl⟩ := h
  obtain ⟨a, _, _, _, e, _⟩ := r
  exact ⟨a, e⟩
theorem CmpK.insts {c : Addr} {f : Value} {ds : List D} {lt : Nat → Nat → Bool} (C : Std X) (h2 : 2 ≤ ds.length) (ht : ∀ d ∈ ds, IsTup d) (kf : KeepOk X f)
    (hf : ∀ i j, i < ds.length → j < ds.length → Ask X n f (ds.getD i .none) (ds.getD j .none) μ fun k => (k < 0 ↔ lt i j = true)) : CmpK X (n + 2) (ds.map (inst X c f)) μ lt := by
  intro A F s vs hA H r
  have hz := r.length
  rw [List.length_map] at hz
  refine kas_kind (T := .ref c) (by omega) (fun v hv => ?_) (by rfl) (by simp) ⟨rfl, fun i j hi hj F₂ s₂ H₂ le => ?_⟩
  · obtain ⟨i, hi, rfl⟩ := List.getElem_of_mem hv
    have hi' : i < ds.length := by omega
    have : ∃ v, vs[i]? = some v ∧ Rep F (inst X c f ds[i]) v := r.get (i := i) (d := inst X c f ds[i]) (by simp [hi'])
    obtain ⟨v, hv', rv⟩ := this
    rw [List.getElem?_eq_getElem hi] at hv'
    obtain ⟨a, dd, u, e, hF, _⟩ := rv
    obtain rfl := Option.some.inj hv'
    rw [e]
    exact fun A' Q' E' s' k q => wpAny_typeOf_ref (k _ _ (H.fz _ _ hF)) q
  · rw [List.length_map] at hi hj
    have r₂ := r.mono le
    have get : ∀ i, i < ds.length → ∃ x dx a, vs.getD i Value.none = .ref x ∧ F₂ x = some { cls := .ref c, dict := some dx, data := .plain, slots := #[some (.ref a)] } ∧ KCl F₂ PX X.w.params c f ∧ Rep F₂ (ds.getD i .none) (.ref a) := fun i hi => by
      obtain ⟨v, hv, rv⟩ := r₂.get (i := i) (d := inst X c f ds[i]) (by simp [hi])
      obtain ⟨x, dx, u, rfl, hF, hK, hr⟩ := rv
      obtain ⟨a, rfl⟩ := (ht _ (List.getElem_mem hi)).ref hr
      exact ⟨x, dx, a, by simp [List.getD, hv], hF, hK, by simpa [List.getD, hi] using hr⟩
    obtain ⟨x, dx, a, ex, hx, ⟨r, K⟩, ra⟩ := get i hi
    obtain ⟨y, dy, b, ey, hy, _, rb⟩ := get j hj
    rw [ex, ey, keyLt'_oneType, oneLt'_eq]
    simp only [if_true]
    have fz : Froz F₂ s₂.heap := fun a o e => H₂.fz a o e
    refine wpAny_bind (wpAny_cRoomFor hA.units ?_)
    refine wpAny_bind (wpAny_callSpecialIfBound?_own (h := s₂.heap) (K.special fz hx).1 (wpAny_mono (k_lt C hA H₂ K hx hy ra rb kf (hf i j hi hj)) ?_ fun _ _ e => e))
    rintro v s₃ ⟨d, μ₃, F₃, ⟨k, hk, rfl, rfl⟩, rd, H₃, S₃⟩
    obtain rfl := rd
    refine wpAny_truthy_bool ⟨μ₃, F₃, ⟨?_, rfl⟩, H₃, S₃⟩
    by_cases q : k < 0
    · rw [hk.mp q]; simpa using q
    · have : lt i j ≠ true := fun e => q (hk.mpr e)
      rw [Bool.eq_false_iff.mpr this]; simpa using q
/-- == of two of its things -/
theorem Cmp.eqK {c : Addr} {f : Value} {da db : D} {P : Int → Prop} {Q : D → Mu → Prop} (C : Std X) (ha : IsTup da) (hb : IsTup db) (kf : KeepOk X f) (hf : Ask X n f da db μ P) (h : ∀ k, P k → Q (.bool (k == 0)) μ) : Cmp X (n + 2) .Eq (inst X c f da) (inst X c f db) μ Q := by
  rintro A F s _ _ hA H ⟨x, dx, u, rfl, hx, ⟨r, K⟩, ra⟩ ⟨y, dy, u', rfl, hy, _, rb⟩
  obtain ⟨a, rfl⟩ := ha.ref ra
  obtain ⟨b, rfl⟩ := hb.ref rb
  have fz : Froz F s.heap := fun a o e => H.fz a o e
  refine compareOp_own_same (op := .Eq) rfl ⟨by decide, by decide, by decide, by decide⟩ (K.special fz hx).2 (fz _ _ hy) rfl hA.units (wpAny_mono (k_eq C hA H K hx hy ra rb kf hf) ?_ fun _ _ e => e)
  rintro v s₃ ⟨d, μ₃, F₃, ⟨k, hk, rfl, rfl⟩, rd, H₃, S₃⟩
  obtain rfl := rd
  exact ⟨_, rfl, _, μ₃, F₃, h k hk, rfl, H₃, S₃⟩
end Lay

/- part RTNX -/
open PySem PySem.W PyProof.Rows
set_option Elab.async false
set_option linter.unusedVariables false
set_option maxRecDepth 100000
set_option maxHeartbeats 0
namespace Lay
variable {X : Cx} {n : Nat} {μ : Mu}
/-- what a call of cmp_to_key stands on: fa the function, c0 its code, tb the code's table -/
structure CKF (X : Cx) (fa c0 : Addr) (fd : FuncData) (mg mb : Str → Option Value) (ps0 : Array Value) : Prop where
  fn : FnOk X fa fd (fBody (stmtAt PX 1))
  fdE : fd.scope = fScope (stmtAt PX 1) ∧ fd.code = .ref c0 ∧ fd.globals = mainGlobals ∧ fd.builtins = builtinsNs ∧ fd.qualname = "cmp_to_key"
  std : Std X
  ns : X.h₁.Ns mainGlobals mg
  nb : X.h₁.Ns builtinsNs mb
  nt : mainGlobals ≠ X.tb ∧ builtinsNs ≠ X.tb ∧ sysModules ≠ X.tb ∧ c0 ≠ X.tb ∧ X.tb ≠ cStatics
  bm : ∃ bm o, mg "__builtins__" = some (.ref bm) ∧ bm ≠ builtinsNs ∧ bm ≠ X.tb ∧ X.h₁.get? bm = some o ∧ o.cls = .type "module" ∧ o.dict = some builtinsNs ∧ o.data = .plain
  nm : ∃ v, mg "__name__" = some v
  bc : mb "__build_class__" = some (.builtin "__build_class__")
  ob : mg "object" = none ∧ mb "object" = some (.type "object")
  sys : ∃ o, X.h₁.get? sysModules = some o
  c0h : ∃ oc, X.h₁.get? c0 = some oc ∧ CodeHead oc X.tb
  tab : X.h₁.TableAt c0 X.tb ps0
  bind : ∀ v : Value, bindArgs fd ⟨[v], []⟩ = pure [(Str.ofString "mycmp", v)]
theorem CallP.mkKcold {fa c0 : Addr} {fd : FuncData} {mg mb : Str → Option Value} {ps0 ps : Array Value} {f : Value} {Q : D → Mu → Prop} (C : CKF X fa c0 fd mg mb ps0) (ht : μ X.tb = some (.obj (tabO ps))) (hnf : codeAmong ⟨4, 4, 25, 23⟩ ps.toList = none) (htr : TriplesOk ps.toList)
    (h : ∀ c, Q (.kcl PX X.w.params c f) (mput μ X.tb (.pred WarmK))) : CallP X (n + 3) (.ref fa) [.raw f] μ Q := fun A F s vs hA H r => by
  obtain ⟨o, ho, hd⟩ := C.fn.at'
  have B := H.based
  obtain ⟨fs, fc, fg, fb, fq⟩ := C.fdE
  obtain ⟨v, vs', rfl, rv, rn⟩ := r
  obtain rfl : v = f := rv
  obtain rfl : vs' = [] := rn
  refine wpAny_call (codeAny_call_function hA.room (B fa o ho C.fn.ne) hd C.fn.co C.fn.gen C.fn.body (C.fn.code _ B) ?_)
  rw [C.bind]
  refine wpAny_pure ?_
  rw [C.fn.clo]
  refine wpAny_newFunctionEnv_cells C.fn.kind (fun x hx => ?_) fun env he s₁ I => ?_
  · obtain rfl := List.mem_singleton.mp hx
    refine .inr ⟨by rw [fs]; kernel_rfl, by rw [fs]; kernel_rfl⟩
  have hE : env = callEnvC fd s.heap.objs.size fa := he
  subst hE
  clear he
  obtain ⟨⟨⟨h₁, tk, rfl⟩, ns, keep, fr⟩, cell, apart, above⟩ := I
  refine ⟨C.fn.lim _ fun b o e hb => keep b o (B b o e hb), codeAny_func ?_⟩
  have hE : callEnvC fd s.heap.objs.size fa = newEnv (fScope (stmtAt PX 1)) s.heap.objs.size mainGlobals [(Str.ofString "mycmp", s.heap.objs.size + 1)] "cmp_to_key.<locals>." (some fa) (.ref c0) none builtinsNs := by
    unfold callEnvC
    rw [fs, fc, fg, fb, fq]
    kernel_rfl
  rw [clsStmt_eq]
  rw [hE] at ns cell apart above ⊢
  generalize hL : s.heap.objs.size = L at *
  have hce := cell (Str.ofString "mycmp") (L + 1) (by rfl)
  obtain ⟨htF, _, otb, hotb, rfl⟩ := H.cell _ _ ht
  have frL : ∀ b, L ≤ b → s.heap.get? b = none := fun b hb => by
    cases e : s.heap.get? b with
    | none => rfl
    | some o' => exact absurd (Heap.lt_size e) (Nat.not_lt.mpr (hL ▸ hb))
  have ltb : X.tb < L := hL ▸ Heap.lt_size hotb
  have b1 : Based X h₁ := fun b o e hb => keep b o (B b o e hb)
  let F1 : FZ := fun b => if b = X.tb then none else h₁.get? b
  have hF1 : ∀ b o, F1 b = some o → h₁.get? b = some o := fun b o e => by
    dsimp only [F1] at e
    split at e
    · cases e
    · exact e
  have f1 : ∀ b o, b ≠ X.tb → h₁.get? b = some o → F1 b = some o := fun b o hb e => by dsimp only [F1]; rw [if_neg hb]; exact e
  have hb1 : ∀ h' : Heap, (∀ b o, F1 b = some o → h'.get? b = some o) → Based X h' := fun h' k b o e hb => k b o (f1 b o hb (b1 b o e hb))
  obtain ⟨bm, obm, m1, m2, m3, m4, m5, m6, m7⟩ := C.bm
  obtain ⟨osy, hosy⟩ := C.sys
  obtain ⟨oc, hoc, hoch⟩ := C.c0h
  obtain ⟨t1, t2, t3, t4, t5⟩ := C.nt
  have K : MK X.w F1 mg (newEnv (fScope (stmtAt PX 1)) L mainGlobals [(Str.ofString "mycmp", L + 1)] "cmp_to_key.<locals>." (some fa) (.ref c0) none builtinsNs) X.tb c0 := {
    gb := fun h' k => ⟨Ns_based C.ns t1 (hb1 h' k), bm, obm, m1, m2, hb1 h' k _ _ m4 m3, m5, m6, m7⟩
    nm := C.nm
    stat := f1 _ _ C.std.statT (b1 _ _ C.std.stat C.std.statT)
    bc := fun s' k {M A Q E} q => wpAny_nsGet (Ns_based C.nb t2 (hb1 _ k)) (by rw [C.bc]; exact q)
    ob := fun s' k {A Q E} q => Calls.loadGlobal_builtin (Ns_based C.ns t1 (hb1 _ k)) C.ob.1 (Ns_based C.nb t2 (hb1 _ k)) C.ob.2 q
    sys := ⟨osy, f1 _ _ t3 (b1 _ _ hosy t3)⟩
    code := rfl
    c0h := ⟨oc, f1 _ _ t4 (b1 _ _ hoc t4), hoch⟩
    tbn := by dsimp only [F1]; rw [if_pos rfl]
    gl := rfl
    lim := fun h' k => C.std.lim h' (hb1 h' k) }
  refine wpAny_execs_cons ?_
  rw [C.std.prog]
  refine k_class (f := v) (ce := L + 1) (hA.deeper.le (by omega)) (keep _ _ hotb) hnf htr (by kernel_rfl) K hF1 rfl (by kernel_rfl) (by kernel_rfl) hce (Nat.ne_of_gt (Nat.lt_succ_of_lt ltb)) ?_
  intro h' tk' cK r more KF rce n1 n2 n3 n4 n5 n6 n7 n8 n9 kp htb' ⟨G, hG, hW⟩
  have hLt : ∃ o, h₁.get? L = some o := let ⟨o, _, _, ho, _⟩ := ns; ⟨o, ho⟩
  obtain ⟨oL, hoL⟩ := hLt
  have htL : L ≠ X.tb := Nat.ne_of_gt ltb
  refine wpAny_bind (wpAny_bindName (wpAny_storeName_local (by kernel_rfl) (ns.at' fun o e => kp _ _ htL e) fun h2 ns2 sb2 => wpAny_pure ?_))
  dsimp only at h2 ns2 sb2 kp htb' ⊢
  refine wpAny_execs_cons (wpAny_Return_some (wpAny_Name (wpAny_loadName_local rfl (by kernel_rfl) ns2 (if_pos rfl) ?_) (by decide)))
  show Post X Q F μ s (.ref cK) _
  have h1L : ∀ x, h₁.get? x = none → x ≠ L := fun x hx e => by rw [e, hoL] at hx; cases hx
  have kpS : ∀ b o, b ≠ X.tb → s.heap.get? b = some o → h2.get? b = some o := fun b o hb e => by
    have hbL : b ≠ L := Nat.ne_of_lt (hL ▸ Heap.lt_size e)
    exact (sb2.2 b hbL).trans (kp b o hb (keep b o e))
  have tb2 : h2.get? X.tb = some (tabO (ps ++ more)) := (sb2.2 _ htL.symm).trans htb'
  let F2 : FZ := fun b => if (s.heap.get? b).isNone = true then h2.get? b else F b
  have eqN : ∀ x, s.heap.get? x = none → F2 x = h2.get? x := fun x hx => by dsimp only [F2]; rw [hx]; rfl
  have eqO : ∀ x o, s.heap.get? x = some o → F2 x = F x := fun x o hx => by dsimp only [F2]; rw [hx]; rfl
  have eq2 : ∀ x, h₁.get? x = none → F2 x = h'.get? x := fun x hx => by
    have hn : s.heap.get? x = none := by
      cases e : s.heap.get? x with
      | none => rfl
      | some o => rw [keep x o e] at hx; cases hx
    rw [eqN x hn]; exact sb2.2 x (h1L x hx)
  have le : FLe F F2 := fun b o e => (eqO b o (H.fz b o e)).trans e
  have KF2 : KFacts F2 PX X.w.params cK v r := ⟨(eq2 _ n1).trans KF.cls, (eq2 _ n2).trans KF.ns, (eq2 _ n3).trans KF.init, (eq2 _ n4).trans KF.initC, (eq2 _ n5).trans KF.lt, (eq2 _ n6).trans KF.ltC, (eq2 _ n7).trans KF.eq, (eq2 _ n8).trans KF.eqC,
    (by
      obtain ⟨o, e, c⟩ := KF.cell
      refine ⟨o, ?_, c⟩
      rw [rce] at e ⊢
      rw [eqN _ (frL _ (Nat.le_succ L))]
      exact (sb2.2 _ (Nat.succ_ne_self L)).trans e), (eq2 _ n9).trans KF.desc⟩
  refine ⟨.kcl PX X.w.params cK v, mput μ X.tb (.pred WarmK), F2, h cK, ⟨rfl, r, KF2⟩, ⟨fun b o e => ?_, fun b o e hb => le _ _ (H.base b o e hb), fun b c e => ?_, ?_, H.gens, H.os⟩, ⟨le, fun b o e hb _ => kpS b o (by rintro rfl; rw [ht] at hb; cases hb) e, fun b o e hb => ⟨o, kpS b o (by rintro rfl; rw [ht] at hb; cases hb) e⟩, fun b o e => ?_, fun b e => ?_⟩⟩
  · cases e' : s.heap.get? b with
    | none => rw [eqN b e'] at e; exact e
    | some o' =>
      rw [eqO b o' e'] at e
      exact kpS b o (by rintro rfl; rw [htF] at e; cases e) (H.fz b o e)
  · unfold mput at e
    split at e
    · rename_i q; subst q; cases e
      exact ⟨(eqO _ _ hotb).trans htF, .inl rfl, _, tb2, G, fun x o e => (eq2 x (hG x o e).1).trans (hG x o e).2, hW⟩
    · rename_i q
      obtain ⟨c1, c2, o', c3, c4⟩ := H.cell b c e
      exact ⟨(eqO _ _ c3).trans c1, c2, o', kpS b o' q c3, c4.mono le⟩
  · obtain ⟨⟨o1, vs1, e1, e2, e3, e4⟩, e5⟩ := C.tab
    have O1 : OldK X.h₁ h₁ := H.old.step_keeps keep
    have O2 : OldK X.h₁ h' := O1.step_table C.tab ⟨⟨o1, vs1, b1 _ _ e1 t4, e2, e3, e4⟩, keep _ _ hotb⟩ ⟨⟨o1, vs1, kp _ _ t4 (b1 _ _ e1 t4), e2, e3, e4⟩, htb'⟩ kp t5
    refine old_same O2 (a := L) ?_ (fun b o hb e => (sb2.2 b hb).trans e) fun o e => ?_
    · cases e : X.h₁.get? L with
      | none => rfl
      | some o =>
        have := B L o e htL
        rw [frL L (Nat.le_refl L)] at this
        cases this
    · obtain ⟨o2, _, _, ho2, _⟩ := ns2
      exact ⟨o2, ho2⟩
  · cases e' : s.heap.get? b with
    | none => exact .inr (.inr rfl)
    | some o' => rw [eqO b o' e'] at e; exact .inl e
  · unfold mput at e
    split at e
    · rename_i q; subst q; exact .inl (by rw [ht]; simp)
    · exact .inl e
theorem CallP.mkKwarm {fa c0 : Addr} {fd : FuncData} {mg mb : Str → Option Value} {ps0 : Array Value} {f : Value} {Q : D → Mu → Prop} (C : CKF X fa c0 fd mg mb ps0) (ht : μ X.tb = some (.pred WarmK))
    (h : ∀ c, Q (.kcl PX X.w.params c f) μ) : CallP X (n + 3) (.ref fa) [.raw f] μ Q := fun A F s vs hA H r => by
  obtain ⟨o, ho, hd⟩ := C.fn.at'
  have B := H.based
  obtain ⟨fs, fc, fg, fb, fq⟩ := C.fdE
  obtain ⟨v, vs', rfl, rv, rn⟩ := r
  obtain rfl : v = f := rv
  obtain rfl : vs' = [] := rn
  refine wpAny_call (codeAny_call_function hA.room (B fa o ho C.fn.ne) hd C.fn.co C.fn.gen C.fn.body (C.fn.code _ B) ?_)
  rw [C.bind]
  refine wpAny_pure ?_
  rw [C.fn.clo]
  refine wpAny_newFunctionEnv_cells C.fn.kind (fun x hx => ?_) fun env he s₁ I => ?_
  · obtain rfl := List.mem_singleton.mp hx
    refine .inr ⟨by rw [fs]; kernel_rfl, by rw [fs]; kernel_rfl⟩
  have hE : env = callEnvC fd s.heap.objs.size fa := he
  subst hE
  clear he
  obtain ⟨⟨⟨h₁, tk, rfl⟩, ns, keep, fr⟩, cell, apart, above⟩ := I
  refine ⟨C.fn.lim _ fun b o e hb => keep b o (B b o e hb), codeAny_func ?_⟩
  have hE : callEnvC fd s.heap.objs.size fa = newEnv (fScope (stmtAt PX 1)) s.heap.objs.size mainGlobals [(Str.ofString "mycmp", s.heap.objs.size + 1)] "cmp_to_key.<locals>." (some fa) (.ref c0) none builtinsNs := by
    unfold callEnvC
    rw [fs, fc, fg, fb, fq]
    kernel_rfl
  rw [clsStmt_eq]
  rw [hE] at ns cell apart above ⊢
  generalize hL : s.heap.objs.size = L at *
  have hce := cell (Str.ofString "mycmp") (L + 1) (by rfl)
  obtain ⟨htF, _, otb, hotb, F₀, leF₀, hW⟩ := H.cell _ _ ht
  have hW0 := hW
  obtain ⟨ps, cc, oc1, cP, ps3, rfl, hit, Hcc, hh1, HP, ⟨cI, vI, tI, rI, aI, bI⟩, ⟨cL, vL, tL, rL, aL, bL⟩, ⟨cG, vG, tG, rG, aG, bG⟩, ⟨cE, vE, tE, rE, aE, bE⟩, ⟨cQ, vQ, tQ, rQ, aQ, bQ⟩, ⟨cH, vH, tH, rH, aH, bH⟩⟩ := hW
  have frL : ∀ b, L ≤ b → s.heap.get? b = none := fun b hb => by
    cases e : s.heap.get? b with
    | none => rfl
    | some o' => exact absurd (Heap.lt_size e) (Nat.not_lt.mpr (hL ▸ hb))
  have ltb : X.tb < L := hL ▸ Heap.lt_size hotb
  have b1 : Based X h₁ := fun b o e hb => keep b o (B b o e hb)
  let F1 : FZ := fun b => if b = X.tb then none else h₁.get? b
  have hF1 : ∀ b o, F1 b = some o → h₁.get? b = some o := fun b o e => by
    dsimp only [F1] at e
    split at e
    · cases e
    · exact e
  have f1 : ∀ b o, b ≠ X.tb → h₁.get? b = some o → F1 b = some o := fun b o hb e => by dsimp only [F1]; rw [if_neg hb]; exact e
  have hb1 : ∀ h' : Heap, (∀ b o, F1 b = some o → h'.get? b = some o) → Based X h' := fun h' k b o e hb => k b o (f1 b o hb (b1 b o e hb))
  have w1 : FLe F₀ F1 := fun b o e => f1 b o (by rintro rfl; rw [leF₀ _ _ e] at htF; cases htF) (keep b o (H.fz b o (leF₀ b o e)))
  obtain ⟨bm, obm, m1, m2, m3, m4, m5, m6, m7⟩ := C.bm
  obtain ⟨osy, hosy⟩ := C.sys
  obtain ⟨oc, hoc, hoch⟩ := C.c0h
  obtain ⟨t1, t2, t3, t4, t5⟩ := C.nt
  have K : MK X.w F1 mg (newEnv (fScope (stmtAt PX 1)) L mainGlobals [(Str.ofString "mycmp", L + 1)] "cmp_to_key.<locals>." (some fa) (.ref c0) none builtinsNs) X.tb c0 := {
    gb := fun h' k => ⟨Ns_based C.ns t1 (hb1 h' k), bm, obm, m1, m2, hb1 h' k _ _ m4 m3, m5, m6, m7⟩
    nm := C.nm
    stat := f1 _ _ C.std.statT (b1 _ _ C.std.stat C.std.statT)
    bc := fun s' k {M A Q E} q => wpAny_nsGet (Ns_based C.nb t2 (hb1 _ k)) (by rw [C.bc]; exact q)
    ob := fun s' k {A Q E} q => Calls.loadGlobal_builtin (Ns_based C.ns t1 (hb1 _ k)) C.ob.1 (Ns_based C.nb t2 (hb1 _ k)) C.ob.2 q
    sys := ⟨osy, f1 _ _ t3 (b1 _ _ hosy t3)⟩
    code := rfl
    c0h := ⟨oc, f1 _ _ t4 (b1 _ _ hoc t4), hoch⟩
    tbn := by dsimp only [F1]; rw [if_pos rfl]
    gl := rfl
    lim := fun h' k => C.std.lim h' (hb1 h' k) }
  refine wpAny_execs_cons ?_
  rw [C.std.prog]
  refine k_class_hit (f := v) (ce := L + 1) (hA.deeper.le (by omega)) (keep _ _ hotb) hit (w1 _ _ Hcc) hh1 (w1 _ _ HP) aI (w1 _ _ bI) aL (w1 _ _ bL) aG (w1 _ _ bG) aE (w1 _ _ bE) aQ (w1 _ _ bQ) aH (w1 _ _ bH) (by kernel_rfl) K hF1 rfl (by kernel_rfl) (by kernel_rfl) hce (Nat.ne_of_gt (Nat.lt_succ_of_lt ltb)) ?_
  intro h' tk' cK r KF rce n1 n2 n3 c4 n5 c6 n7 c8 n9 kp htb'
  have hLt : ∃ o, h₁.get? L = some o := let ⟨o, _, _, ho, _⟩ := ns; ⟨o, ho⟩
  obtain ⟨oL, hoL⟩ := hLt
  have htL : L ≠ X.tb := Nat.ne_of_gt ltb
  refine wpAny_bind (wpAny_bindName (wpAny_storeName_local (by kernel_rfl) (ns.at' fun o e => kp _ _ htL e) fun h2 ns2 sb2 => wpAny_pure ?_))
  dsimp only at h2 ns2 sb2 kp htb' ⊢
  refine wpAny_execs_cons (wpAny_Return_some (wpAny_Name (wpAny_loadName_local rfl (by kernel_rfl) ns2 (if_pos rfl) ?_) (by decide)))
  show Post X Q F μ s (.ref cK) _
  have h1L : ∀ x, h₁.get? x = none → x ≠ L := fun x hx e => by rw [e, hoL] at hx; cases hx
  have kpS : ∀ b o, b ≠ X.tb → s.heap.get? b = some o → h2.get? b = some o := fun b o hb e => by
    have hbL : b ≠ L := Nat.ne_of_lt (hL ▸ Heap.lt_size e)
    exact (sb2.2 b hbL).trans (kp b o hb (keep b o e))
  have tb2 : h2.get? X.tb = some (tabO ps) := (sb2.2 _ htL.symm).trans htb'
  let F2 : FZ := fun b => if (s.heap.get? b).isNone = true then h2.get? b else F b
  have eqN : ∀ x, s.heap.get? x = none → F2 x = h2.get? x := fun x hx => by dsimp only [F2]; rw [hx]; rfl
  have eqO : ∀ x o, s.heap.get? x = some o → F2 x = F x := fun x o hx => by dsimp only [F2]; rw [hx]; rfl
  have eq2 : ∀ x, h₁.get? x = none → F2 x = h'.get? x := fun x hx => by
    have hn : s.heap.get? x = none := by
      cases e : s.heap.get? x with
      | none => rfl
      | some o => rw [keep x o e] at hx; cases hx
    rw [eqN x hn]; exact sb2.2 x (h1L x hx)
  have le : FLe F F2 := fun b o e => (eqO b o (H.fz b o e)).trans e
  have old1 : ∀ {x o}, F₀ x = some o → F2 x = h'.get? x := fun {x o} e => by
    rw [le _ _ (leF₀ _ _ e)]
    exact (kp x o (by rintro rfl; rw [leF₀ _ _ e] at htF; cases htF) (keep _ _ (H.fz _ _ (leF₀ _ _ e)))).symm
  have KF2 : KFacts F2 PX X.w.params cK v r := ⟨(eq2 _ n1).trans KF.cls, (eq2 _ n2).trans KF.ns, (eq2 _ n3).trans KF.init, (by rw [c4]; exact old1 bI : F2 r.cI = h'.get? r.cI).trans KF.initC, (eq2 _ n5).trans KF.lt, (by rw [c6]; exact old1 bL : F2 r.cL = h'.get? r.cL).trans KF.ltC, (eq2 _ n7).trans KF.eq, (by rw [c8]; exact old1 bE : F2 r.cE = h'.get? r.cE).trans KF.eqC,
    (by
      obtain ⟨o, e, c⟩ := KF.cell
      refine ⟨o, ?_, c⟩
      rw [rce] at e ⊢
      rw [eqN _ (frL _ (Nat.le_succ L))]
      exact (sb2.2 _ (Nat.succ_ne_self L)).trans e), (eq2 _ n9).trans KF.desc⟩
  refine ⟨.kcl PX X.w.params cK v, μ, F2, h cK, ⟨rfl, r, KF2⟩, ⟨fun b o e => ?_, fun b o e hb => le _ _ (H.base b o e hb), fun b c e => ?_, ?_, H.gens, H.os⟩, ⟨le, fun b o e hb _ => kpS b o (by rintro rfl; rw [ht] at hb; cases hb) e, fun b o e hb => ⟨o, kpS b o (by rintro rfl; rw [ht] at hb; cases hb) e⟩, fun b o e => ?_, fun b e => ?_⟩⟩
  · cases e' : s.heap.get? b with
    | none => rw [eqN b e'] at e; exact e
    | some o' =>
      rw [eqO b o' e'] at e
      exact kpS b o (by rintro rfl; rw [htF] at e; cases e) (H.fz b o e)
  · by_cases q : b = X.tb
    · subst q
      rw [ht] at e; cases e
      exact ⟨(eqO _ _ hotb).trans htF, .inl rfl, _, tb2, F₀, leF₀.trans le, hW0⟩
    · obtain ⟨c1, c2, o', c3, c4⟩ := H.cell b c e
      exact ⟨(eqO _ _ c3).trans c1, c2, o', kpS b o' q c3, c4.mono le⟩
  · obtain ⟨⟨o1, vs1, e1, e2, e3, e4⟩, e5⟩ := C.tab
    have O1 : OldK X.h₁ h₁ := H.old.step_keeps keep
    have O2 : OldK X.h₁ h' := O1.step_keeps fun b o e => by
      by_cases q : b = X.tb
      · subst q
        rw [keep _ _ hotb] at e; cases e
        exact htb'
      · exact kp b o q e
    refine old_same O2 (a := L) ?_ (fun b o hb e => (sb2.2 b hb).trans e) fun o e => ?_
    · cases e : X.h₁.get? L with
      | none => rfl
      | some o =>
        have := B L o e htL
        rw [frL L (Nat.le_refl L)] at this
        cases this
    · obtain ⟨o2, _, _, ho2, _⟩ := ns2
      exact ⟨o2, ho2⟩
  · cases e' : s.heap.get? b with
    | none => exact .inr (.inr rfl)
    | some o' => rw [eqO b o' e'] at e; exact .inl e
  · exact .inl e

/-- the code table of cmp_to_key: as the module left it, or with the class's code in it -/
def TabOk (X : Cx) (μ : Mu) : Prop := μ X.tb = some (.pred WarmK) ∨ ∃ ps, μ X.tb = some (.obj (tabO ps)) ∧ codeAmong ⟨4, 4, 25, 23⟩ ps.toList = none ∧ TriplesOk ps.toList
theorem CallP.mkK {fa c0 : Addr} {fd : FuncData} {mg mb : Str → Option Value} {ps0 : Array Value} {f : Value} {Q : D → Mu → Prop} (C : CKF X fa c0 fd mg mb ps0) (ht : TabOk X μ)
    (h : ∀ c, Q (.kcl PX X.w.params c f) (mput μ X.tb (.pred WarmK))) : CallP X (n + 3) (.ref fa) [.raw f] μ Q := by
  rcases ht with ht | ⟨ps, ht, hn, htr⟩
  · refine CallP.mkKwarm C ht fun c => ?_
    have e : mput μ X.tb (.pred WarmK) = μ := by
      funext b
      unfold mput
      split
      · rename_i q; subst q; exact ht.symm
      · rfl
    have := h c
    rw [e] at this
    exact this
  · exact CallP.mkKcold C ht hn htr h
theorem TabOk.warm {μ : Mu} : TabOk X (mput μ X.tb (.pred WarmK)) := .inl mput_self
theorem TabOk.put {μ : Mu} (h : TabOk X μ) {a : Addr} {c : Cell} (ha : a ≠ X.tb) : TabOk X (mput μ a c) := by
  unfold TabOk
  rw [mput_ne ha.symm]
  exact h
theorem TabOk.del {μ : Mu} (h : TabOk X μ) {a : Addr} (ha : a ≠ X.tb) : TabOk X (mdel μ a) := by
  have e : mdel μ a X.tb = μ X.tb := by unfold mdel; rw [if_neg ha.symm]
  unfold TabOk
  rw [e]
  exact h
end Lay

/- part Lay15 -/
open PySem PySem.W PyProof.Rows
set_option Elab.async false
set_option linter.unusedVariables false
set_option maxRecDepth 100000
namespace Lay
variable {X : Cx} {n : Nat} {env : Env} {ρ : Rho} {μ : Mu}

/- dicts with keys of numbers -/
def dget (l : List (List Int × D)) (k : List Int) : Option D := (l.find? fun x => decide (x.1 = k)).map (·.2)
theorem reps_items {F : FZ} {prog : Program} {w : World} : ∀ {ks : List Int} {vs : List Value}, Reps F (ks.map D.int) vs → ItemsAre (intKind prog w) ks vs
  | [], _, h => by cases h; exact .nil
  | k :: ks, _, ⟨v, vs', e, ⟨t, ht⟩, hr⟩ => by
    subst e ht
    exact .cons (by simp [intKind, Value.isInt]) (reps_items hr)
theorem rep_key {F : FZ} {s : Shared} {k : List Int} {a : Addr} (fz : ∀ b o, F b = some o → s.heap.get? b = some o) (r : Rep F (.tup (k.map D.int)) (.ref a)) : IsTupleKey (intKind X.prog X.w) s.heap k a := by
  obtain ⟨a', o, vs, m, e, h1, h2, h3, h4⟩ := r
  cases e
  exact ⟨o, vs, m, fz _ _ h1, h2, h3, reps_items h4⟩
theorem DRep.key {F : FZ} : ∀ {l : List (List Int × D)} {xs : List (List Int × Addr × Value)}, DRep F l xs → ∀ x ∈ xs, Rep F (.tup (x.1.map D.int)) (.ref x.2.1)
  | [], _, h, x, hx => by cases h; cases hx
  | (k, d) :: l, _, ⟨a, v, xs', e, h1, h2, h3⟩, x, hx => by
    subst e
    rcases List.mem_cons.mp hx with rfl | hx
    · exact h1
    · exact h3.key x hx
theorem DRep.keys {F : FZ} : ∀ {l : List (List Int × D)} {xs : List (List Int × Addr × Value)}, DRep F l xs → xs.map (·.1) = l.map (·.1)
  | [], _, h => by cases h; rfl
  | (k, d) :: l, _, ⟨a, v, xs', e, h1, h2, h3⟩ => by subst e; simp [h3.keys]
theorem DRep.get {F : FZ} {k : List Int} : ∀ {l : List (List Int × D)} {xs : List (List Int × Addr × Value)}, DRep F l xs → match dget l k with | some d => ∃ p, atKey xs k = some p ∧ Rep F d p.2 | none => atKey xs k = none
  | [], _, h => by cases h; rfl
  | (k', d) :: l, _, ⟨a, v, xs', e, h1, h2, h3⟩ => by
    subst e
    unfold dget atKey
    rw [List.find?_cons, List.find?_cons]
    by_cases hk : k' = k
    · simp only [hk, decide_true, Option.map_some]
      exact ⟨_, rfl, h2⟩
    · simp only [hk, decide_false]
      exact h3.get
theorem DRep.snoc {F : FZ} {k : List Int} {a : Addr} {d : D} {v : Value} (rk : Rep F (.tup (k.map D.int)) (.ref a)) (rv : Rep F d v) : ∀ {l : List (List Int × D)} {xs : List (List Int × Addr × Value)}, DRep F l xs → DRep F (l ++ [(k, d)]) (xs ++ [(k, a, v)])
  | [], _, h => by cases h; exact ⟨a, v, [], rfl, rk, rv, rfl⟩
  | (k', d') :: l, _, ⟨a', v', xs', e, h1, h2, h3⟩ => by
    subst e
    exact ⟨a', v', _, rfl, h1, h2, h3.snoc rk rv⟩
theorem HC.isDict {F : FZ} {s : Shared} (H : HC X F μ s) {d : Addr} {l : List (List Int × D)} (hm : μ d = some (.dict l)) : ∃ xs, s.heap.DictOfH (tupleKind (intKind X.prog X.w)) d xs ∧ DRep F l xs := by
  obtain ⟨h0, hB, o, ho, hx, es, ep, xs, h1, h2, h3, h4⟩ := H.cell d _ hm
  exact ⟨xs, ⟨o, es, ep, ho, hx, h1, h2, fun x hx => rep_key H.fz (h4.key x hx), h3⟩, h4⟩
/-- the table of the modules is none of ours -/
def SysOk (X : Cx) : Prop := (∃ o, X.h₁.get? sysModules = some o) ∧ X.tb ≠ sysModules
theorem SysOk.ne {F : FZ} {s : Shared} (S : SysOk X) (H : HC X F μ s) {d : Addr} {c : Cell} (hm : μ d = some c) : (d == sysModules) = false := by
  refine beq_eq_false_iff_ne.mpr fun e => ?_
  obtain ⟨_, hB, _⟩ := H.cell d _ hm
  rcases hB with hB | hB
  · exact S.2 (hB.symm.trans e)
  · obtain ⟨o, ho⟩ := S.1
    rw [e, ho] at hB; cases hB
theorem Ev.dictC {pos : Pos} {Q : D → Mu → Prop} (htb : ∃ o, X.h₁.get? X.tb = some o) (h : ∀ a, μ a = .none → a ≠ X.tb → Q (.raw (.ref a)) (mput μ a (.dict []))) : Ev X n env (.Dict [] [] pos) ρ μ Q := fun A F s hA H V => by
  refine wpAny_Dict_empty ?_
  obtain ⟨hF, hM, hB⟩ := H.none_of_fresh push_none
  obtain ⟨H', S'⟩ := H.cellNew (s' := { s with heap := s.heap.push { cls := .type "dict", data := .dict #[] } }) (c := .dict []) push_none (Heap.get?_push_size _ rfl) ⟨⟨rfl, rfl, rfl⟩, #[], 0, [], rfl, rfl, List.nodup_nil, rfl⟩ (fun b o e => Heap.get?_push_of_some _ e) rfl rfl
  exact ⟨_, _, _, h _ hM (fun e => by obtain ⟨o, ho⟩ := htb; rw [e, ho] at hB; cases hB), rfl, H', S'⟩
theorem Cmp.inD {d : Addr} {l : List (List Int × D)} {k : List Int} {Q : D → Mu → Prop} (S : SysOk X) (hm : μ d = some (.dict l)) (h : Q (.bool (dget l k).isSome) μ) : Cmp X n .In (.tup (k.map D.int)) (.raw (.ref d)) μ Q := by
  rintro A F s va _ hA H r rfl
  obtain ⟨xs, hD, hR⟩ := H.isDict hm
  obtain ⟨a, o, vs, m, rfl, h1, h2, h3, h4⟩ := id r
  have hk := rep_key (X := X) H.fz r
  refine wpAny_in_heap (knd := tupleKind (intKind X.prog X.w)) (by have := hA.cmp; show A.in1.units < cLine; simp only [Around.in1]; omega) hk (S.ne H hm) hD ?_
  have hg := hR.get (k := k)
  have : (atKey xs k).isSome = (dget l k).isSome := by
    cases e : dget l k with
    | none => rw [e] at hg; dsimp only at hg; rw [hg]; rfl
    | some d' => rw [e] at hg; obtain ⟨p, hp, _⟩ := hg; rw [hp]; rfl
  rw [this]
  exact Post.here H h rfl (fun _ _ e => e) rfl rfl
theorem Sub.dictD {value slice : Expr} {d : Addr} {l : List (List Int × D)} {k : List Int} {dv : D} {Q : D → Mu → Prop} (hm : μ d = some (.dict l)) (hg : dget l k = some dv) (h : Q dv μ)
    (hs : ∀ o i, subscripted slice false o i = operate [o, i] (getItem o i) := by intro _ _; with_unfolding_all rfl) : Sub X n value slice (.raw (.ref d)) (.tup (k.map D.int)) μ Q := by
  rintro A F s _ vi hA H rfl r
  obtain ⟨xs, hD, hR⟩ := H.isDict hm
  obtain ⟨a, o, vs, m, rfl, h1, h2, h3, h4⟩ := id r
  have hk := rep_key (X := X) H.fz r
  have hg' := hR.get (k := k)
  rw [hg] at hg'
  obtain ⟨p, hp, rp⟩ := hg'
  exact tail_any hD.typeIs PySem.F.slot_dict_getitem.lookup (wpAny_getItem_heap (knd := tupleKind (intKind X.prog X.w)) (by have := hA.cmp; show A.in1.units < cLine; simp only [Around.in1]; omega) hk hD hp (Post.here H h rp (fun _ _ e => e) rfl rfl)) (hs _ _)
theorem SetI.dictNew {d : Addr} {l : List (List Int × D)} {k : List Int} {dv : D} {Q : Mu → Prop} (hm : μ d = some (.dict l)) (htb : d ≠ X.tb) (hn : dget l k = none) (hz : l.length ≤ 1000) (h : Q (mput μ d (.dict (l ++ [(k, dv)])))) : SetI X n (.raw (.ref d)) (.tup (k.map D.int)) dv μ Q := by
  rintro A F s _ vi vv hA H rfl r rv
  obtain ⟨xs, hD, hR⟩ := H.isDict hm
  obtain ⟨a, o, vs, m, rfl, h1, h2, h3, h4⟩ := id r
  have hk := rep_key (X := X) H.fz r
  have hg' := hR.get (k := k)
  rw [hn] at hg'
  have hxz : xs.length ≤ 1000 := by have := congrArg List.length hR.keys; simp only [List.length_map] at this; omega
  refine wpAny_setItem_heap (knd := tupleKind (intKind X.prog X.w)) (by have := hA.cmp; show A.in1.units < cLine; simp only [Around.in1]; omega) hk hD (fun h' hD' hs' => ?_) (Nat.le_trans hxz (by decide))
  rw [storedH_new hg'] at hD'
  obtain ⟨o', es, ep, ho', hx', e1, e2, e3, e4⟩ := hD'
  obtain ⟨H', S'⟩ := H.cellSet (s' := { s with heap := h', toks := s.toks + (tupleKind (intKind X.prog X.w)).draws k }) (c := .dict (l ++ [(k, dv)])) hm htb ho' ⟨hx', es, ep, _, e1, e2, e4, hR.snoc r rv⟩ (fun b o hb e => hs'.extBut b o hb e) rfl rfl
  exact ⟨_, F, h, H', S'⟩
end Lay

/- part Lay16 -/
open PySem PySem.W PyProof.Rows
set_option Elab.async false
set_option linter.unusedVariables false
set_option maxRecDepth 100000
namespace Lay
variable {X : Cx} {n : Nat} {env cenv : Env} {ρ ρ₀ : Rho} {μ : Mu}

/- comprehensions, one for within another -/
/-- what one emission does to the list under way -/
def EmitOk (X : Cx) (n : Nat) (cenv : Env) (ρ₀ : Rho) (emit : Value → Sem Unit) (ρ : Rho) (μ : Mu) (zs : List D) (Q : List D → Mu → Prop) : Prop :=
  ∀ A F s acc ys, AOk n A → HC X F μ s → VC X F μ cenv ρ s → VC X F μ cenv ρ₀ s → F acc = none → μ acc = none → X.h₁.get? acc = none → (∀ a, Uses cenv a → a ≠ acc) → s.heap.PlainList acc ys → Reps F zs ys.toList →
    wpAny (model X.prog X.w) A (emit (.ref acc)) (fun _ s' => ∃ zs' μ' F' ys', Q zs' μ' ∧ HC X F' μ' s' ∧ VC X F' μ' cenv ρ₀ s' ∧ F' acc = none ∧ μ' acc = none ∧ s'.heap.PlainList acc ys' ∧ Reps F' zs' ys'.toList ∧ Step (fun b => b = acc ∨ b = cenv.locals) F μ s F' μ' s') Never s
def CompG (X : Cx) (n : Nat) (cenv : Env) (Em : Rho → Mu → List D → (List D → Mu → Prop) → Prop) (target : Expr) (ifs : List Expr) (ρ₀ : Rho) : List D → List D → Mu → (List D → Mu → Prop) → Prop
  | [], acc, μ, Q => Q acc μ
  | d :: ds, acc, μ, Q => AsgP X n cenv target d ρ₀ μ fun ρ₁ μ₁ => TrA X n cenv ifs ρ₁ μ₁ fun b μ₂ =>
      if b = true then Em ρ₁ μ₂ acc fun acc' μ₃ => CompG X n cenv Em target ifs ρ₀ ds acc' μ₃ Q else CompG X n cenv Em target ifs ρ₀ ds acc μ₂ Q
theorem Comp_runG {A : Around} {target : Expr} {ipos : Pos} {ifs : List Expr} {elt : Expr} {gens : List Comprehension} {depth : Nat} {scope : Scope} {pos : Pos} {Q : List D → Mu → Prop} {F₁ : FZ} {μ₁ : Mu} {s₁ : Shared} {it acc : Addr} {ds : List D} {St : Nat → Heap → Prop} {Rc : Result → Shared → Prop}
    {Em : Rho → Mu → List D → (List D → Mu → Prop) → Prop} {emit : Value → Sem Unit} (hEm : ∀ ρ μ zs Q, Em ρ μ zs Q → EmitOk X n cenv ρ₀ emit ρ μ zs Q)
    (hturn : ∀ it acc, compTurn (.ListComp elt gens scope pos) depth it acc cenv = (do
      standAt ipos
      match ← pyNext it with
      | none => pure (.done .next)
      | some v =>
        letOwnedTupleGo target it v
        assign target cenv v
        let mut ok := true
        for c in ifs do
          if ok then ok ← isTrue c cenv (eval c cenv)
        if ok then emit acc
        again (.compLoop (.ListComp elt gens scope pos) depth it acc cenv)))
    (hA : AOk n A) (I : Itr X F₁ it ds St) (hfresh : s₁.heap.get? it = none) (hWf : ∀ b, b = acc ∨ b = cenv.locals → s₁.heap.get? b = none ∨ b = acc ∨ b = cenv.locals) (hia : it ≠ acc) (hown : ∀ a, Uses cenv a → a ≠ it ∧ a ≠ acc) (hB : X.h₁.get? it = none) (hBA : X.h₁.get? acc = none)
    (hfn : cenv.func = none) (hnl : ∀ x d, ρ₀ x = some d → cenv.kindOf x = some .local → False)
    (hRc : ∀ s' zs μ' F', Q zs μ' → HC X F' μ' s' → VC X F' μ' cenv ρ₀ s' → F' acc = none → μ' acc = none → (∃ ys, s'.heap.PlainList acc ys ∧ Reps F' zs ys.toList) → Step (fun b => b = acc ∨ b = cenv.locals) F₁ μ₁ s₁ F' μ' s' → Rc (.ok .next) s')
    {s₂ : Shared} {μ₂ : Mu} {F₂ : FZ} {i₀ : Nat} {zs₀ : List D} (hi₀ : i₀ ≤ ds.length) (h : CompG X n cenv Em target ifs ρ₀ (ds.drop i₀) zs₀ μ₂ Q) (H : HC X F₂ μ₂ s₂) (V : VC X F₂ μ₂ cenv ρ₀ s₂) (hst : St i₀ s₂.heap) (hF : F₂ it = none) (hM : μ₂ it = none)
    (hFA : F₂ acc = none) (hMA : μ₂ acc = none) (hz : ∃ ys, s₂.heap.PlainList acc ys ∧ Reps F₂ zs₀ ys.toList) (S : Step (fun b => b = acc ∨ b = cenv.locals) F₁ μ₁ s₁ F₂ μ₂ s₂) :
    codeAny (model X.prog X.w) A (.compLoop (.ListComp elt gens scope pos) depth (.ref it) (.ref acc) cenv) Rc s₂ := by
  have ownC : ∀ a, Own cenv a → a = cenv.locals := fun a ha => by
    rcases ha with rfl | ⟨hf, _⟩
    · rfl
    · rw [hfn] at hf; cases hf
  have toW : ∀ {F μ s F' μ' s'}, Step (Own cenv) F μ s F' μ' s' → Step (fun b => b = acc ∨ b = cenv.locals) F μ s F' μ' s' := fun {F μ s F' μ' s'} T => T.weaken fun a ha => .inr (ownC a ha)
  refine codeAny_loop rfl (fun k s' => ∃ i μ' F' zs, k = ds.length + 1 - i ∧ i ≤ ds.length ∧ CompG X n cenv Em target ifs ρ₀ (ds.drop i) zs μ' Q ∧ HC X F' μ' s' ∧ VC X F' μ' cenv ρ₀ s' ∧ St i s'.heap ∧ F' it = none ∧ μ' it = none ∧ F' acc = none ∧ μ' acc = none ∧
    (∃ ys, s'.heap.PlainList acc ys ∧ Reps F' zs ys.toList) ∧ Step (fun b => b = acc ∨ b = cenv.locals) F₁ μ₁ s₁ F' μ' s') ?_ (ds.length + 1 - i₀) ⟨i₀, μ₂, F₂, zs₀, rfl, hi₀, h, H, V, hst, hF, hM, hFA, hMA, hz, S⟩
  rintro k s ⟨i, μ, F, zs, rfl, hi, hP, H, V, hst, hF, hM, hFA, hMA, ⟨ys, hpl, hzs⟩, S⟩
  show wpAny _ A ((compTurn (.ListComp elt gens scope pos) depth (.ref it) (.ref acc) cenv).onRaise (fun x => do noteFrame x cenv; theTreesLotGoes x)) _ _ s
  refine wpAny_noted ?_
  rw [hturn]
  have fz : Froz F₁ s.heap := fun a o e => H.fz a o (S.le a o e)
  refine wpAny_bind (wpAny_standAt (wpAny_bind ?_))
  by_cases hlt : i < ds.length
  · obtain ⟨d, hd⟩ : ∃ d, ds[i]? = some d := ⟨ds[i], by simp [hlt]⟩
    have hdrop : ds.drop i = d :: ds.drop (i + 1) := by
      rw [List.drop_eq_getElem_cons hlt]; congr 1
      rw [List.getElem?_eq_getElem hlt] at hd; exact Option.some.inj hd
    rw [hdrop] at hP
    refine I.item A i s d _ _ hA.1 hst fz hd fun v h' tk rv hst' hk => ?_
    dsimp only
    have hown' : ∀ a, Uses cenv a → a ≠ it := fun a ha => (hown a ha).1
    obtain ⟨H', T'⟩ := H.touch (s' := { s with heap := h', toks := tk }) hF hM hB hk (I.live _ _ hst') rfl rfl
    have V' := V.touch (s' := { s with heap := h', toks := tk }) hown' hk
    have S' := S.touch (s₂ := { s with heap := h', toks := tk }) (.inl hfresh) hk
    have hpl' : h'.PlainList acc ys := let ⟨m, hm⟩ := hpl; ⟨m, hk acc _ (Ne.symm hia) hm⟩
    refine wpAny_bind (I.go A (i + 1) _ target v _ _ hst' ?_)
    refine wpAny_bind (wpAny_mono (hP A F _ v hA H' V' (rv.mono S.le)) ?_ fun _ _ e => e.elim)
    rintro _ s₃ ⟨ρ₃, μ₃, F₃, h₃, H₃, V₃, S₃⟩
    obtain ⟨oi, hoi⟩ := I.live _ _ hst'
    have keep₃ : ∀ o, h'.get? it = some o → s₃.heap.get? it = some o := fun o e => S₃.keep it o e hM fun q => hown' it q.uses rfl
    have hst₃ : St (i + 1) s₃.heap := I.frame _ _ _ hst' keep₃ fun a o e => H₃.fz a o (S₃.le a o (S.le a o e))
    obtain ⟨hF₃, hM₃⟩ := S₃.apart hoi hF hM
    obtain ⟨mA, hmA⟩ := hpl'
    have keepA₃ : s₃.heap.get? acc = some _ := S₃.keep acc _ hmA hMA fun q => (hown acc q.uses).2 rfl
    obtain ⟨hFA₃, hMA₃⟩ := S₃.apart hmA hFA hMA
    have SS₃ := S'.trans (toW S₃)
    refine wpAny_bind (wpAny_mono (TrA.run hA h₃ H₃ V₃) ?_ fun _ _ e => e.elim)
    rintro b s₄ ⟨μ₄, F₄, h₄, H₄, S₄⟩
    have V₄ := V₃.step S₄
    have it₄ : ∀ o, s₃.heap.get? it = some o → s₄.heap.get? it = some o := fun o e => S₄.keep it o e hM₃ id
    have hst₄ : St (i + 1) s₄.heap := I.frame _ _ _ hst₃ it₄ fun a o e => H₄.fz a o (S₄.le a o (S₃.le a o (S.le a o e)))
    obtain ⟨hF₄, hM₄⟩ := S₄.apart (keep₃ oi hoi) hF₃ hM₃
    have keepA₄ : s₄.heap.get? acc = some _ := S₄.keep acc _ keepA₃ hMA₃ id
    obtain ⟨hFA₄, hMA₄⟩ := S₄.apart keepA₃ hFA₃ hMA₃
    have back : ∀ {F' μ' s'} (V' : VC X F' μ' cenv ρ₃ s') (le : FLe F F') (hk : ∀ a o, (∃ x, (x, a) ∈ cenv.cells) → s.heap.get? a = some o → s'.heap.get? a = some o), VC X F' μ' cenv ρ₀ s' := fun {F' μ' s'} V' le hkk => by
      refine V'.forget hnl fun x d e k => ?_
      obtain ⟨a, u, q1, q2, q3⟩ := V.cv x d e k
      obtain ⟨o, ho, hd'⟩ := q2
      exact ⟨a, u, q1, ⟨o, hkk a o ⟨x, mem_of_lookup q1⟩ ho, hd'⟩, q3.mono le⟩
    have notOwn : ∀ a, (∃ x, (x, a) ∈ cenv.cells) → ¬ Own cenv a := fun a ⟨x, hx⟩ q => (V.cf x a hx).2.2.2 (ownC a q)
    have cells₄ : ∀ a o, (∃ x, (x, a) ∈ cenv.cells) → s.heap.get? a = some o → s₄.heap.get? a = some o := fun a o ha e => by
      obtain ⟨x, hx⟩ := ha
      have e' := hk a o (hown' a (.inr ⟨x, hx⟩)) e
      have e₃ := S₃.keep a o e' (V.cf x a hx).2.1 (notOwn a ⟨x, hx⟩)
      exact S₄.keep a o e₃ (V₃.cf x a hx).2.1 id
    have le₄ : FLe F F₄ := S₃.le.trans S₄.le
    have SS₄ := SS₃.trans (S₄.weaken fun _ q => q.elim)
    cases b with
    | false =>
      simp only [Bool.false_eq_true, if_false] at h₄ ⊢
      exact wpAny_pure ⟨rfl, ds.length + 1 - (i + 1), by omega, i + 1, μ₄, F₄, zs, rfl, hlt, h₄, H₄, back V₄ le₄ cells₄, hst₄, hF₄, hM₄, hFA₄, hMA₄, ⟨ys, ⟨mA, keepA₄⟩, hzs.mono le₄⟩, SS₄⟩
    | true =>
      simp only [if_true] at h₄ ⊢
      refine wpAny_bind (wpAny_mono (hEm _ _ _ _ h₄ A F₄ s₄ acc ys hA H₄ V₄ (back V₄ le₄ cells₄) hFA₄ hMA₄ hBA (fun a ha => (hown a ha).2) ⟨mA, keepA₄⟩ (hzs.mono le₄)) ?_ fun _ _ e => e.elim)
      rintro _ s₅ ⟨zs₅, μ₅, F₅, ys₅, h₅, H₅, V₅, hFA₅, hMA₅, hpl₅, hzs₅, S₅⟩
      have nW : ¬ (it = acc ∨ it = cenv.locals) := fun q => q.elim hia fun e => (hown _ (.inl rfl)).1 e.symm
      have it₅ : ∀ o, s₄.heap.get? it = some o → s₅.heap.get? it = some o := fun o e => S₅.keep it o e hM₄ nW
      have hst₅ : St (i + 1) s₅.heap := I.frame _ _ _ hst₄ it₅ fun a o e => H₅.fz a o (S₅.le a o (S₄.le a o (S₃.le a o (S.le a o e))))
      obtain ⟨hF₅, hM₅⟩ := S₅.apart (it₄ oi (keep₃ oi hoi)) hF₄ hM₄
      exact wpAny_pure ⟨rfl, ds.length + 1 - (i + 1), by omega, i + 1, μ₅, F₅, zs₅, rfl, hlt, h₅, H₅, V₅, hst₅, hF₅, hM₅, hFA₅, hMA₅, ⟨ys₅, hpl₅, hzs₅⟩, SS₄.trans S₅⟩
  · obtain rfl : i = ds.length := by omega
    rw [List.drop_length] at hP
    refine I.done A s _ _ hA.1 hst fz fun h' tk hk => ?_
    dsimp only
    have hown' : ∀ a, Uses cenv a → a ≠ it := fun a ha => (hown a ha).1
    have V' := V.touch (s' := { s with heap := h', toks := tk }) hown' hk
    refine wpAny_pure (hRc _ zs μ F hP (H.touch' hF hM hB hk rfl rfl) V' hFA hMA ⟨ys, ?_, hzs⟩ (S.touch (.inl hfresh) hk))
    obtain ⟨mA, hmA⟩ := hpl
    exact ⟨mA, hk acc _ (Ne.symm hia) hmA⟩
end Lay

/- part Lay17 -/
open PySem PySem.W PyProof.Rows
set_option Elab.async false
set_option linter.unusedVariables false
set_option maxRecDepth 100000
namespace Lay
variable {X : Cx} {n : Nat} {env cenv : Env} {ρ ρ₀ : Rho} {μ : Mu}
theorem emit_elt {elt : Expr} {zs : List D} {Q : List D → Mu → Prop} (h : Ev X n cenv elt ρ μ fun y μ' => Small zs ∧ Q (zs ++ [y]) μ') : EmitOk X n cenv ρ₀ (fun acc => do let _ ← call (.builtin "list.append") [acc, ← eval elt cenv]) ρ μ zs Q := by
  intro A F s acc ys hA H V V₀ hFA hMA hBA hown hpl hzs
  refine wpAny_bind (wpAny_mono (h A F s hA H V) ?_ fun _ _ e => e.elim)
  rintro x s₅ ⟨y, μ₅, F₅, ⟨hsm, h₅⟩, ry, H₅, S₅⟩
  obtain ⟨mA, hmA⟩ := hpl
  have keepA₅ : s₅.heap.get? acc = some _ := S₅.keep acc _ hmA hMA id
  obtain ⟨hFA₅, hMA₅⟩ := S₅.apart hmA hFA hMA
  have hz : ys.size = zs.length := by rw [← hzs.length]; simp
  refine wpAny_bind (wpAny_list_append_plain ⟨mA, keepA₅⟩ (fun h₆ hL₆ hs₆ => ?_) (by rw [hz, sizeLine_eq]; exact Nat.le_trans hsm (by decide)))
  have hk₆ : ∀ b o, b ≠ acc → s₅.heap.get? b = some o → h₆.get? b = some o := fun b o hb e => hs₆.extBut b o hb e
  have V₅ := V₀.step S₅
  have S₆ : Step (fun b => b = acc ∨ b = cenv.locals) F μ s F₅ μ₅ { s₅ with heap := h₆ } := ⟨S₅.le, fun b o e hb hw => hk₆ b o (fun q => hw (.inl q)) (S₅.keep b o e hb id), fun b o e hb => by
    obtain ⟨o', e'⟩ := S₅.there b o e hb
    by_cases q : b = acc
    · obtain ⟨m6, h6⟩ := hL₆
      subst q
      exact ⟨_, h6⟩
    · exact ⟨o', hk₆ b o' q e'⟩, S₅.newF, S₅.newM⟩
  refine wpAny_pure ⟨_, μ₅, F₅, ys.push x, h₅, H₅.touch' (s' := { s₅ with heap := h₆ }) hFA₅ hMA₅ hBA hk₆ rfl rfl, V₅.touch (s' := { s₅ with heap := h₆ }) hown hk₆, hFA₅, hMA₅, hL₆, ?_, S₆⟩
  simpa using (hzs.mono S₅.le).append (Reps.one ry)
theorem Comp_blockG {A : Around} {target iter elt : Expr} {ifs : List Expr} {rest : List Comprehension} {scope : Scope} {pos : Pos} {Q : List D → Mu → Prop} {F : FZ} {s : Shared} {h' : Heap} {ds : List D} {St : Nat → Heap → Prop} {E : Value → Shared → Prop} {RR : Value → Addr → Result → Shared → Prop}
    {Em : Addr → Rho → Mu → List D → (List D → Mu → Prop) → Prop} {emit : Addr → Value → Sem Unit} (hEm : ∀ C ρ' μ zs Q, Em C ρ' μ zs Q → EmitOk X n (cEnv env scope C) (cRho env scope ρ) (emit C) ρ' μ zs Q)
    (hturn : ∀ C it acc, compTurn (.ListComp elt (⟨target, iter, ifs, 0⟩ :: rest) scope pos) 0 it acc (cEnv env scope C) = (do
      standAt iter.pos
      match ← pyNext it with
      | none => pure (.done .next)
      | some v =>
        letOwnedTupleGo target it v
        assign target (cEnv env scope C) v
        let mut ok := true
        for c in ifs do
          if ok then ok ← isTrue c (cEnv env scope C) (eval c (cEnv env scope C))
        if ok then emit C acc
        again (.compLoop (.ListComp elt (⟨target, iter, ifs, 0⟩ :: rest) scope pos) 0 it acc (cEnv env scope C))))
    (hA : AOk n A) (H : HC X F μ s) (V : VC X F μ env ρ s) (O : CompOk env scope) (I : Itr X F s.heap.objs.size ds St) (hk : ∀ b o, s.heap.get? b = some o → h'.get? b = some o) (hst : St 0 h')
    (hP : ∀ C, CompG X n (cEnv env scope C) (Em C) target ifs (cRho env scope ρ) ds [] μ Q)
    (hRR : ∀ D C s' zs μ' F' m, Q zs μ' → HC X F' μ' s' → Step No F μ s F' μ' s' → Rep F' (.lst zs) (.ref D) → s'.heap.Ns C m → F' C = none → μ' C = none → X.h₁.get? C = none → s.heap.get? C = none → RR (.ref D) C (.ok .next) s') :
    wpAny (model X.prog X.w) A (newList []) (fun acc s₃ => wpAny (model X.prog X.w) A (newFunctionEnv scope env.globals (closL env.cells scope.names []) [] env.qual none .none (some env)) (fun cenv s₄ =>
      codeAny (model X.prog X.w) A (.compStart (.ListComp elt (⟨target, iter, ifs, 0⟩ :: rest) scope pos) 0 (.ref s.heap.objs.size) acc { cenv with scope := relabel scope env }) (RR acc cenv.locals) s₄) E s₃) E { s with heap := h' } := by
  refine wpAny_newObj_type (wpAny_newFunctionEnv O.cell (by intro y hy; simp at hy) (fun h₁ hns₁ hsb₁ => ?_) O.kind)
  dsimp only at hns₁ hsb₁ ⊢
  generalize hH2 : h'.push { cls := .type "list", dict := none, data := .seq ([] : List Value).toArray } = H2 at hns₁ hsb₁ ⊢
  have hC : H2.objs.size = h'.objs.size + 1 := by rw [← hH2, Heap.size_push]
  obtain ⟨oi, hoi⟩ := I.live _ _ hst
  have hit : s.heap.objs.size < h'.objs.size := Heap.lt_size hoi
  have hDC : h'.objs.size ≠ H2.objs.size := by rw [hC]; exact Nat.ne_of_lt (Nat.lt_succ_self _)
  have below : ∀ b, b < h'.objs.size → b ≠ H2.objs.size ∧ b ≠ h'.objs.size := fun b hb => ⟨by rw [hC]; exact Nat.ne_of_lt (Nat.lt_succ_of_lt hb), Nat.ne_of_lt hb⟩
  have old : ∀ b o, h'.get? b = some o → h₁.get? b = some o := fun b o e => hsb₁.extBut b o (below b (Heap.lt_size e)).1 (Heap.get?_push_of_some _ (hH2 ▸ Heap.get?_push_of_some _ e))
  have old' : ∀ b o, s.heap.get? b = some o → h₁.get? b = some o := fun b o e => old b o (hk b o e)
  have hacc : h₁.PlainList h'.objs.size #[] := ⟨_, hsb₁.extBut _ _ hDC (Heap.get?_push_of_some _ (hH2 ▸ Heap.get?_push_size _ rfl))⟩
  have fresh : ∀ a, s.heap.objs.size ≤ a → s.heap.get? a = none := fun a ha => by
    cases e : s.heap.get? a with
    | none => rfl
    | some o' => exact absurd (Heap.lt_size e) (Nat.not_lt.mpr ha)
  have fI := fresh _ (Nat.le_refl _)
  have fD := fresh h'.objs.size (Nat.le_of_lt hit)
  have fC := fresh H2.objs.size (by rw [hC]; exact Nat.le_succ_of_le (Nat.le_of_lt hit))
  obtain ⟨IF, IM, IB⟩ := H.none_of_fresh fI
  obtain ⟨DF, DM, DB⟩ := H.none_of_fresh fD
  obtain ⟨CF, CM, CB⟩ := H.none_of_fresh fC
  have H₁ : HC X F μ { s with heap := h₁, toks := s.toks + ([] : List (Str × Value)).length } := H.grow old' rfl rfl
  have S₁ : Step No F μ s F μ { s with heap := h₁, toks := s.toks + ([] : List (Str × Value)).length } := .grow old'
  have hst₁ : St 0 h₁ := I.frame _ _ _ hst (fun o e => old _ o e) fun a o e => H₁.fz a o e
  have usesOld : ∀ a, Uses env a → ∃ o, s.heap.get? a = some o := fun a ha => V.exists ha
  have ne : ∀ a b, (∃ o, s.heap.get? a = some o) → s.heap.get? b = none → a ≠ b := fun a b ⟨o, e⟩ e' q => by subst q; rw [e'] at e; cases e
  have Vc : VC X F μ (cEnv env scope H2.objs.size) (cRho env scope ρ) { s with heap := h₁, toks := s.toks + ([] : List (Str × Value)).length } :=
    (V.step S₁).comp O hns₁ CF CM CB fun a ha => ne a _ (usesOld a ha) fC
  have srcC : ∀ a, Uses (cEnv env scope H2.objs.size) a → a = H2.objs.size ∨ Uses env a := fun a ha => by
    rcases ha with rfl | ⟨x, hx⟩
    · exact .inl rfl
    · rcases closL_mem hx with h | ⟨h, e⟩
      · cases h
      · obtain ⟨c, hc⟩ := Option.isSome_iff_exists.mp (O.free _ h rfl)
        rw [hc] at e
        exact .inr (.inr ⟨x, by cases e; exact mem_of_lookup hc⟩)
  have run : ∀ s₃ : Shared, s₃ = { s with heap := h₁, toks := s.toks + ([] : List (Str × Value)).length } → codeAny (model X.prog X.w) A (.compLoop (.ListComp elt (⟨target, iter, ifs, 0⟩ :: rest) scope pos) 0 (.ref s.heap.objs.size) (.ref h'.objs.size) (cEnv env scope H2.objs.size)) (RR (.ref h'.objs.size) H2.objs.size) s₃ := by
    rintro s₃ rfl
    refine Comp_runG (Q := Q) (cenv := cEnv env scope H2.objs.size) (ρ₀ := cRho env scope ρ) (F₁ := F) (μ₁ := μ) (s₁ := s) (zs₀ := []) (i₀ := 0) (hEm _) (hturn _) hA I fI (fun b hb => .inr hb) (Nat.ne_of_lt hit) (fun a ha => ?_) IB DB rfl (fun x d e k => ?_) (fun s' zs μ' F' hq H' V' hFA hMA hys S' => ?_) (Nat.zero_le _) (hP _) H₁ Vc hst₁ IF IM DF DM ⟨#[], hacc, rfl⟩ (S₁.weaken fun _ q => q.elim)
    · rcases srcC a ha with rfl | h
      · exact ⟨by show H2.objs.size ≠ _; omega, by show H2.objs.size ≠ _; omega⟩
      · exact ⟨ne a _ (usesOld a h) fI, ne a _ (usesOld a h) fD⟩
    · unfold cRho at e
      rw [if_neg (by rw [show (relabel scope env).names.lookup x = some .local from k]; simp)] at e
      cases e
    · obtain ⟨ys, ⟨mm, hpl⟩, hrs⟩ := hys
      obtain ⟨m, hn, _⟩ := V'.ns
      have S'' : Step No F μ s F' μ' s' := (Step.refl No F μ s).drop S' fun a ha => by
        rcases ha with rfl | rfl
        · exact fD
        · exact fC
      refine hRR h'.objs.size H2.objs.size s' zs μ' _ m hq (H'.freezeOld hpl hFA hMA) (S''.freezeOld fD hFA) ⟨_, _, ys, mm, rfl, fput_self .., rfl, rfl, hrs.mono (fput_le hFA)⟩ hn ?_ V'.lf.2.1 CB fC
      unfold fput
      rw [if_neg (Ne.symm hDC)]
      exact V'.lf.1
  exact codeAny_compStart_list (run _ rfl) (I.self A 0 _ _ _ hst₁ (run _ rfl))

theorem compStart1 {prog : Program} {w : World} {A : Around} {R : Result → Shared → Prop} {s : Shared} {elt target iter target2 iter2 : Expr} {ifs ifs2 : List Expr} {scope : Scope} {pos : Pos} {it acc : Value} {env : Env}
    (h0 : codeAny (model prog w) A (.compLoop (.ListComp elt [⟨target, iter, ifs, 0⟩, ⟨target2, iter2, ifs2, 0⟩] scope pos) 1 it acc env) R s)
    (h : wpAny (model prog w) A (pyIter it) (fun it' s' => codeAny (model prog w) A (.compLoop (.ListComp elt [⟨target, iter, ifs, 0⟩, ⟨target2, iter2, ifs2, 0⟩] scope pos) 1 it' acc env) R s')
      (notedBy (model prog w) A env fun x s' => R (.error x) s') s) :
    codeAny (model prog w) A (.compStart (.ListComp elt [⟨target, iter, ifs, 0⟩, ⟨target2, iter2, ifs2, 0⟩] scope pos) 1 it acc env) R s := by
  refine codeAny_of_tree ?_
  show wpAny _ _ ((compStart (.ListComp elt [⟨target, iter, ifs, 0⟩, ⟨target2, iter2, ifs2, 0⟩] scope pos) 1 it acc env).onRaise (fun x => do noteFrame x env; standAt theWindowsPlace)) _ _ s
  refine wpAny_notedAt ?_
  unfold compStart
  show wpAny _ _ (ask >>= _) _ _ s
  refine wpAny_bind (wpAny_askSetting (wpAny_ite ?_))
  split
  · first
      | exact wpAny_bind (wpAny_pure (wpAny_pure (And.intro rfl h0)))
      | exact wpAny_pure (And.intro rfl h0)
  · first
      | exact wpAny_bind (wpAny_rule (wpAny_bind (wpAny_standAt (wpAny_bind (wpAny_mono h (fun it' s' h' => wpAny_pure (And.intro rfl h')) fun _ _ x => x)))))
      | (refine wpAny_bind (wpAny_rule ?_); show wpAny _ _ (standAt iter2.pos >>= _) _ _ s; exact wpAny_bind (wpAny_standAt (wpAny_bind (wpAny_mono h (fun it' s' h' => wpAny_pure (And.intro rfl h')) fun _ _ x => x))))
theorem emit_loop {elt target iter target2 iter2 : Expr} {ifs ifs2 : List Expr} {scope : Scope} {pos : Pos} {zs : List D} {Q : List D → Mu → Prop} (hfn : cenv.func = none) (hnl : ∀ x d, ρ₀ x = some d → cenv.kindOf x = some .local → False) (hs : ∀ x, foldedSetIterable iter2 cenv x = pure x)
    (h : Ev X n cenv iter2 ρ μ fun d μ₁ => ∃ ds, Iterb X μ₁ d ds ∧ CompG X n cenv (fun ρ μ zs Q => Ev X n cenv elt ρ μ fun y μ' => Small zs ∧ Q (zs ++ [y]) μ') target2 ifs2 ρ₀ ds zs μ₁ Q) :
    EmitOk X n cenv ρ₀ (fun acc => do
      let x ← eval iter2 cenv
      standAt iter2.pos
      let x ← foldedSetIterable iter2 cenv x
      let _ ← runOwn (.compStart (.ListComp elt [⟨target, iter, ifs, 0⟩, ⟨target2, iter2, ifs2, 0⟩] scope pos) 1 (← holding [x] (pyIter x)) acc cenv) cenv) ρ μ zs Q := by
  intro A F s acc ys hA H V V₀ hFA hMA hBA hown hpl hzs
  refine wpAny_bind (wpAny_mono (h A F s hA H V) ?_ fun _ _ e => e.elim)
  rintro v s₁ ⟨d, μ₁, F₁, ⟨ds, hI, hC⟩, r, H₁, S₁⟩
  refine wpAny_bind (wpAny_standAt (wpAny_bind (wpAny_of_eq (hs v) (wpAny_bind (wpAny_holding ?_)))))
  have V₁ := V₀.step S₁
  obtain ⟨mA, hmA⟩ := hpl
  have keepA₁ : s₁.heap.get? acc = some _ := S₁.keep acc _ hmA hMA id
  obtain ⟨hFA₁, hMA₁⟩ := S₁.apart hmA hFA hMA
  refine hI A F₁ s₁ v _ _ hA.1 H₁ r fun h' St hk I hst => ?_
  obtain ⟨IF, IM, IB⟩ := H₁.none_of_fresh (a := s₁.heap.objs.size) push_none
  have hia : s₁.heap.objs.size ≠ acc := fun e => by
    have := Heap.lt_size keepA₁
    rw [e] at this; exact Nat.lt_irrefl _ this
  have loop : codeAny (model X.prog X.w) A (.compLoop (.ListComp elt [⟨target, iter, ifs, 0⟩, ⟨target2, iter2, ifs2, 0⟩] scope pos) 1 (.ref s₁.heap.objs.size) (.ref acc) cenv) (fun r s' => match r with
      | .ok f => wpAny (model X.prog X.w) A (pure ()) (fun _ s' => ∃ zs' μ' F' ys', Q zs' μ' ∧ HC X F' μ' s' ∧ VC X F' μ' cenv ρ₀ s' ∧ F' acc = none ∧ μ' acc = none ∧ s'.heap.PlainList acc ys' ∧ Reps F' zs' ys'.toList ∧ Step (fun b => b = acc ∨ b = cenv.locals) F μ s F' μ' s') Never s'
      | .error e => cameBackBy (model X.prog X.w) A cenv Never e s') { s₁ with heap := h' } := by
    refine Comp_runG (Q := Q) (ρ₀ := ρ₀) (F₁ := F₁) (μ₁ := μ₁) (s₁ := s₁) (zs₀ := zs) (i₀ := 0) (fun ρ μ zs Q q => emit_elt q) (fun it acc => by rfl) hA I push_none (fun b hb => .inr hb) hia (fun a ha => ⟨fun e => ?_, hown a ha⟩) IB hBA hfn hnl (fun s' zs' μ' F' hq H' V' hFA' hMA' ⟨ys', hpl', hzs'⟩ S' => ?_) (Nat.zero_le _) hC (H₁.grow hk rfl rfl) (V₁.step (.grow hk)) hst IF IM hFA₁ hMA₁ ⟨ys, ⟨mA, hk _ _ keepA₁⟩, hzs.mono S₁.le⟩ ((Step.grow (W := No) hk).weaken fun _ q => q.elim)
    · obtain ⟨o, ho⟩ := V₁.exists ha
      have := Heap.lt_size ho
      rw [e] at this; exact Nat.lt_irrefl _ this
    · exact wpAny_pure ⟨zs', μ', F', ys', hq, H', V', hFA', hMA', hpl', hzs', (S₁.weaken fun _ q => q.elim).trans S'⟩
  refine wpAny_bind (wpAny_runOwn ?_)
  exact compStart1 loop (I.self A 0 _ _ _ hst loop)
theorem compTurn2 (elt target iter target2 iter2 : Expr) (ifs ifs2 : List Expr) (scope : Scope) (pos : Pos) (it acc : Value) (env : Env) :
    compTurn (.ListComp elt [⟨target, iter, ifs, 0⟩, ⟨target2, iter2, ifs2, 0⟩] scope pos) 0 it acc env = (do
      standAt iter.pos
      match ← pyNext it with
      | none => pure (.done .next)
      | some v =>
        letOwnedTupleGo target it v
        assign target env v
        let mut ok := true
        for c in ifs do
          if ok then ok ← isTrue c env (eval c env)
        if ok then (do
          let x ← eval iter2 env
          standAt iter2.pos
          let x ← foldedSetIterable iter2 env x
          let _ ← runOwn (.compStart (.ListComp elt [⟨target, iter, ifs, 0⟩, ⟨target2, iter2, ifs2, 0⟩] scope pos) 1 (← holding [x] (pyIter x)) acc env) env)
        again (.compLoop (.ListComp elt [⟨target, iter, ifs, 0⟩, ⟨target2, iter2, ifs2, 0⟩] scope pos) 0 it acc env)) := by
  have e : compTurn (.ListComp elt [⟨target, iter, ifs, 0⟩, ⟨target2, iter2, ifs2, 0⟩] scope pos) 0 it acc env = (do
      standAt iter.pos
      match ← pyNext it with
      | none => pure (.done .next)
      | some v =>
        letOwnedTupleGo target it v
        assign target env v
        let mut ok := true
        for c in ifs do
          if ok then ok ← isTrue c env (eval c env)
        if ok then
          let x ← eval iter2 env
          standAt iter2.pos
          let x ← foldedSetIterable iter2 env x
          let _ ← runOwn (.compStart (.ListComp elt [⟨target, iter, ifs, 0⟩, ⟨target2, iter2, ifs2, 0⟩] scope pos) 1 (← holding [x] (pyIter x)) acc env) env
        again (.compLoop (.ListComp elt [⟨target, iter, ifs, 0⟩, ⟨target2, iter2, ifs2, 0⟩] scope pos) 0 it acc env)) := by rfl
  rw [e]
  simp only [bind_assoc, pure_bind]
theorem Ev.comp2 {target iter target2 iter2 elt : Expr} {ifs ifs2 : List Expr} {scope : Scope} {pos : Pos} {Q : D → Mu → Prop} (O : CompOk env scope)
    (h : Ev X n env iter ρ μ fun d μ₁ => ∃ ds, Iterb X μ₁ d ds ∧ ∀ C, CompG X n (cEnv env scope C) (fun ρ' μ' zs Q' => Ev X n (cEnv env scope C) iter2 ρ' μ' fun d μ₁ => ∃ ds, Iterb X μ₁ d ds ∧ CompG X n (cEnv env scope C) (fun ρ μ zs Q => Ev X n (cEnv env scope C) elt ρ μ fun y μ' => Small zs ∧ Q (zs ++ [y]) μ') target2 ifs2 (cRho env scope ρ) ds zs μ₁ Q') target ifs (cRho env scope ρ) ds [] μ₁ fun zs μ₂ => Q (.lst zs) μ₂)
    (hs : ∀ x, foldedSetIterable iter env x = pure x := by intro _; rfl) (hs2 : ∀ C x, foldedSetIterable iter2 (cEnv env scope C) x = pure x := by intro _ _; rfl) :
    Ev X n env (.ListComp elt [⟨target, iter, ifs, 0⟩, ⟨target2, iter2, ifs2, 0⟩] scope pos) ρ μ Q := fun A F s hA H V => by
  rw [eval_ListComp]
  refine wpAny_comprehension_free (g := ⟨target, iter, ifs, 0⟩) (gs := [⟨target2, iter2, ifs2, 0⟩]) (use := Option.none) rfl hs (closureFor_eq O.free) O.kind O.loc (wpAny_mono (h A F s hA H V) ?_ fun _ _ e => e)
  rintro v s₁ ⟨d, μ₁, F₁, ⟨ds, hI, hP⟩, r, H₁, S₁⟩
  have V₁ := V.step S₁
  refine hI A F₁ s₁ v _ _ hA.1 H₁ r fun h' St hk I hst => ?_
  refine Comp_blockG (rest := [⟨target2, iter2, ifs2, 0⟩]) (RR := fun acc C => compPost (model X.prog X.w) A Never Option.none (Post X Q F μ s) acc C) (fun C ρ' μ zs Q q => emit_loop (target := target) (iter := iter) (ifs := ifs) (scope := scope) (pos := pos) rfl (fun x d e k => ?_) (hs2 C) q) (fun C it acc => compTurn2 ..) hA H₁ V₁ O I hk hst hP ?_
  · unfold cRho at e
    rw [if_neg (by rw [show (relabel scope env).names.lookup x = some .local from k]; simp)] at e
    cases e
  intro D C s' zs μ' F' m hq H' S' rl hn hF hM hB hfr
  refine ⟨m, hn, fun h'' hs'' => ?_⟩
  have hk'' : ∀ b o, b ≠ C → s'.heap.get? b = some o → h''.get? b = some o := fun b o hb e => hs''.extBut b o hb e
  exact ⟨_, μ', F', hq, rl, H'.touch' (s' := { s' with heap := h'' }) hF hM hB hk'' rfl rfl, S₁.trans (S'.touch (.inl hfr) hk'')⟩
end Lay

/- part Lay18 -/
open PySem PySem.W PyProof.Rows
set_option Elab.async false
set_option linter.unusedVariables false
set_option maxRecDepth 100000
namespace Lay
/- the keys of a dict, one after another, whatever they are -/
def DictE (h : Heap) (d : Addr) (es : Array DictEntry) (ep : Nat) : Prop := ∃ o, h.get? d = some o ∧ o.ExactDict ∧ o.data = .dict es ep
section
variable {prog : Program} {w : World} {A : Around} {E : Value → Shared → Prop} {s : Shared} {d it : Addr} {es : Array DictEntry} {ep : Nat}
theorem DictE.typeIs (h : DictE s.heap d es ep) : s.TypeIs (.ref d) "dict" := let ⟨o, ho, hc, _⟩ := h; ⟨o, ho, hc.1⟩
theorem DictE.lt {h : Heap} (x : DictE h d es ep) : d < h.objs.size := let ⟨_, ho, _⟩ := x; Heap.lt_size ho
theorem DictE.at' {h h' : Heap} (x : DictE h d es ep) (e : ∀ o, h.get? d = some o → h'.get? d = some o) : DictE h' d es ep := let ⟨o, ho, r⟩ := x; ⟨o, e _ ho, r⟩
theorem ed_iter {Q : Value → Shared → Prop} (hd : (d == sysModules) = false) (hm : DictE s.heap d es ep)
    (hQ : Q (.ref s.heap.objs.size) { s with heap := s.heap.push { cls := .type "dict_keyiterator", data := .fields #[.ref d, .int 0 0, .int es.size 0, .int ep 0] } }) :
    wpAny (model prog w) A (pyIter (.ref d)) Q E s := by
  have hT := hm.typeIs
  obtain ⟨o, ho, hc, hdat⟩ := id hm
  refine wpAny_pyIter_slot hT PySem.F.slot_dict_iter (wpAny_call_entry PySem.F.slot_dict_iter hT PySem.F.entry_dict_iter ?_ (PySem.F.args_dict_iter_1 _))
  unfold Builtin.«dict.__iter__»
  refine wpAny_bind ?_
  unfold Builtin.Dict.dictSlotNone
  refine wpAny_bind (wpAny_notOrdered_dict hT ?_)
  show wpAny _ _ (pure (Value.ref d)) _ _ s
  refine wpAny_pure ?_
  show wpAny _ _ (Builtin.Dict.showsAll d >>= _) _ _ s
  unfold Builtin.Dict.showsAll
  rw [if_neg (by rw [hd]; exact Bool.false_ne_true)]
  refine wpAny_bind (wpAny_pure ?_)
  refine wpAny_bind (wpAny_dictEntries ho hdat ?_)
  refine wpAny_bind (wpAny_dictEpoch ho hdat ?_)
  refine wpAny_bind (wpAny_newObj_type (wpAny_pure ⟨_, rfl, "dict_keyiterator", _, ⟨_, Heap.get?_push_size _ rfl, rfl⟩, PySem.F.slot_dict_keyiterator_next.lookup, ?_⟩))
  simpa [rawInt] using hQ
theorem ed_item {i : Nat} {e : DictEntry} {Q : Option Value → Shared → Prop} (hit : s.heap.IsKeyIter it d i es.size ep) (hm : DictE s.heap d es ep) (hx : es[i]? = some e)
    (hQ : ∀ h', h'.IsKeyIter it d (i + 1) es.size ep → Heap.SameBut it s.heap h' → Q (some e.key) { s with heap := h' }) :
    wpAny (model prog w) A (pyNext (.ref it)) Q E s := by
  obtain ⟨o, ho, hc, hd⟩ := id hit
  obtain ⟨od, hod, hcd, hdd⟩ := id hm
  unfold pyNext
  refine wpAny_bind (wpAny_attempt (wpAny_callSpecial?_slot (name := Str.ofString "__next__") hit.typeIs PySem.F.slot_dict_keyiterator_next
    (wpAny_call_entry PySem.F.slot_dict_keyiterator_next hit.typeIs PySem.F.entry_dict_keyiterator_next ?_ (PySem.F.args_dict_keyiterator_next_1 _))))
  refine wpAny_bind (wpAny_pure ?_)
  refine wpAny_bind ?_
  refine wpAny_bind ?_
  first | refine wpAny_bind (wpAny_typeNameOfWhole_keyiter hit.typeIs (wpAny_pure ?_)) | refine wpAny_bind (wpAny_typeNameOf_keyiter hit.typeIs (wpAny_pure ?_))
  refine wpAny_bind (wpAny_fieldsOf ho hd ?_)
  have hown : Builtin.Dict_items.ownsTuple "dict_keyiterator" = false := by decide
  simp only [hown, Bool.false_eq_true, if_false]
  show wpAny _ _ (if (Value.ref d == Value.none) = true then _ else _) _ _ s
  rw [if_neg (show ¬ ((Value.ref d == Value.none) = true) from Bool.false_ne_true)]
  refine wpAny_bind (wpAny_pure ?_)
  refine wpAny_bind (wpAny_dictEntries hod hdd ?_)
  rw [if_neg (by simp)]
  refine wpAny_bind (wpAny_pure ?_)
  refine wpAny_bind (wpAny_dictEpoch hod hdd ?_)
  rw [if_neg (by simp)]
  refine wpAny_pure ?_
  obtain ⟨hlt', he⟩ := Array.getElem?_eq_some_iff.mp hx
  simp only [show ¬ ((i : Int) < 0) from by omega, if_false, Int.toNat_natCast, Array.getElem?_eq_getElem hlt']
  refine wpAny_bind ?_
  first | refine wpAny_bind (wpAny_typeNameOfWhole_keyiter hit.typeIs (wpAny_pure ?_)) | refine wpAny_bind (wpAny_typeNameOf_keyiter hit.typeIs (wpAny_pure ?_))
  refine wpAny_bind (wpAny_isOneOf_keyiter hit.typeIs ?_)
  show wpAny _ _ (setField (.ref it) 1 (rawInt ((i : Int) + 1)) >>= _) _ _ s
  refine wpAny_bind (wpAny_setField ho hd (by simp) ?_)
  have hit' : (s.heap.update it (Obj.mapFields (·.setIfInBounds 1 (rawInt ((i : Int) + 1))))).IsKeyIter it d (i + 1) es.size ep :=
    ⟨_, Heap.get?_update_self _ ho (Obj.isFreed_of_fields (Obj.data_mapFields hd _)), (Obj.cls_mapFields ..).trans hc, by rw [Obj.data_mapFields hd]; simp [rawInt]⟩
  refine wpAny_bind (wpAny_holding ?_)
  refine wpAny_bind (wpAny_isOneOf_keyiter (s := { s with heap := s.heap.update it (Obj.mapFields (·.setIfInBounds 1 (rawInt ((i : Int) + 1)))) }) hit'.typeIs ?_)
  show wpAny _ _ (pure es[i].key) _ _ _
  rw [he]
  exact wpAny_pure (wpAny_pure ⟨_, rfl, wpAny_pure (hQ _ hit' (Heap.SameBut.update ..))⟩)
theorem ed_end {Q : Option Value → Shared → Prop} (hh : A.handled = none) (hit : s.heap.IsKeyIter it d es.size es.size ep) (hm : DictE s.heap d es ep)
    (hQ : ∀ h', Heap.ExtBut it s.heap h' → Q none { s with heap := h' }) : wpAny (model prog w) A (pyNext (.ref it)) Q E s := by
  obtain ⟨o, ho, hc, hd⟩ := id hit
  obtain ⟨od, hod, hcd, hdd⟩ := id hm
  unfold pyNext
  refine wpAny_bind (wpAny_attempt (wpAny_callSpecial?_slot (name := Str.ofString "__next__") hit.typeIs PySem.F.slot_dict_keyiterator_next
    (wpAny_call_entry PySem.F.slot_dict_keyiterator_next hit.typeIs PySem.F.entry_dict_keyiterator_next ?_ (PySem.F.args_dict_keyiterator_next_1 _))))
  refine wpAny_bind (wpAny_pure ?_)
  refine wpAny_bind ?_
  refine wpAny_bind ?_
  first | refine wpAny_bind (wpAny_typeNameOfWhole_keyiter hit.typeIs (wpAny_pure ?_)) | refine wpAny_bind (wpAny_typeNameOf_keyiter hit.typeIs (wpAny_pure ?_))
  refine wpAny_bind (wpAny_fieldsOf ho hd ?_)
  have hown : Builtin.Dict_items.ownsTuple "dict_keyiterator" = false := by decide
  simp only [hown, Bool.false_eq_true, if_false]
  show wpAny _ _ (if (Value.ref d == Value.none) = true then _ else _) _ _ s
  rw [if_neg (show ¬ ((Value.ref d == Value.none) = true) from Bool.false_ne_true)]
  refine wpAny_bind (wpAny_pure ?_)
  refine wpAny_bind (wpAny_dictEntries hod hdd ?_)
  rw [if_neg (by simp)]
  refine wpAny_bind (wpAny_pure ?_)
  refine wpAny_bind (wpAny_dictEpoch hod hdd ?_)
  rw [if_neg (by simp)]
  refine wpAny_pure ?_
  have hge : es.size ≤ es.size := Nat.le_refl _
  simp only [show ¬ ((es.size : Int) < 0) from by omega, if_false, Int.toNat_natCast, Array.getElem?_eq_none hge]
  refine wpAny_bind ?_
  first | refine wpAny_bind (wpAny_typeNameOfWhole_keyiter hit.typeIs (wpAny_pure ?_)) | refine wpAny_bind (wpAny_typeNameOf_keyiter hit.typeIs (wpAny_pure ?_))
  show wpAny _ _ (setField (.ref it) 0 .none >>= _) _ _ s
  refine wpAny_bind (wpAny_setField ho hd (by simp) ?_)
  show wpAny _ _ (newExc (.type "StopIteration") [] >>= _) _ _ _
  refine wpAny_bind ?_
  simp only [newExc, newTuple]
  refine wpAny_bind (wpAny_newObj_type ?_ (by size_fits))
  refine wpAny_bind (m := firstArgMember _ _) (wpAny_of_eq (a := Value.none) (by first | rfl | (simp only [firstArgMember]; rfl)) ?_)
  refine wpAny_newObj_type ?_ (by size_fits)
  simp only [raiseNew]
  refine wpAny_bind (wpAny_handled ?_)
  rw [show A.in1.handled = none from hh]
  refine wpAny_bind (wpAny_pure (wpAny_throw ?_))
  refine wpAny_bind (wpAny_isInstance (T := "StopIteration") (b := true) ⟨_, Heap.get?_push_size _ rfl, rfl⟩ isSubtype_stop ?_)
  exact wpAny_pure (hQ _ (((Heap.SameBut.update ..).extBut.push _).push _))
theorem ed_src (lo : (d == sysModules) = false) : KdlSrc prog w "dict" d d es.size (fun i v => ∃ e, es[i]? = some e ∧ v = e.key) (fun h => DictE h d es ep) where
  type := fun _ hm => hm.typeIs
  there := fun _ hm => ⟨hm.lt, hm.lt⟩
  keep := fun _ _ hm hk => hm.at' fun o e => hk d (.inl rfl) o e
  notList := by decide
  notTuple := by decide
  hint := fun _ _ _ _ hm hq => kdl_hint_dict hm.typeIs hq
  iter := fun A s hh hm => ⟨_, fun i h => h.IsKeyIter s.heap.objs.size d i es.size ep ∧ DictE h d es ep, (fun _ _ hq => ed_iter lo hm hq),
    { sub := fun b hb => by simp at hb; simp [hb]
      frame := fun _ _ _ st hk => ⟨st.1.at fun o e => hk _ (by simp) o e, st.2.at' fun o e => hk d (by simp) o e⟩
      item := fun i s' Q E hi st hQ => by
        have hx : es[i]? = some es[i] := Array.getElem?_eq_getElem hi
        refine ed_item st.1 st.2 hx fun h' hit' hs' => ?_
        exact hQ _ h' s'.toks ⟨_, hx, rfl⟩ ⟨hit', st.2.at' fun o e => hs'.extBut d o (Nat.ne_of_lt hm.lt) e⟩ fun b o hb e => hs'.extBut b o (fun h => hb (by simp [h])) e
      done := fun s' Q E st hQ => ed_end hh st.1 st.2 fun h' he' => hQ h' s'.toks fun b o hb e => he' b o (fun h => hb (by simp [h])) e
      self := fun _ _ _ _ st hQ => wpAny_pyIter_keyiter st.1 hQ },
    ⟨⟨_, Heap.get?_push_size _ rfl, rfl, rfl⟩, hm.at' fun o e => Heap.get?_push_of_some _ e⟩⟩
theorem ed_collect {Q : List Value → Shared → Prop} (hh : A.handled = none) (lo : (d == sysModules) = false) (hm : DictE s.heap d es ep) (hz : es.size ≤ sizeLine)
    (hQ : ∀ h' tk, (∀ b o, s.heap.get? b = some o → h'.get? b = some o) → Q (es.toList.map (·.key)) { s with heap := h', toks := tk }) : wpAny (model prog w) A (collect (.ref d)) Q E s := by
  unfold collect
  refine wpAny_bind (wpAny_runValue (codeAny_builtin PySem.F.entry_proto_collect ?_))
  rw [Around.under_plainId PySem.F.plain_proto_collect _]
  show wpAny _ A.in1 (newList [] >>= fun l => again (.builtin "list.__iadd__" ⟨[l, .ref d], []⟩)) _ _ s
  refine wpAny_bind (wpAny_newObj_type ?_)
  refine wpAny_pure ⟨plainId_quiet PySem.F.plain_list_iadd _, codeAny_builtin PySem.F.entry_list_iadd ?_⟩
  rw [Around.under_plainId PySem.F.plain_list_iadd _]
  show wpAny _ A.in1 (Builtin.List.listExtendWith (.ref s.heap.objs.size) (.ref d) (.ref s.heap.objs.size)) _ _ _
  have hS : (s.heap.push { cls := .type "list", data := .seq ([] : List Value).toArray }).get? s.heap.objs.size = some { cls := .type "list", data := .seq #[] 0 } := Heap.get?_push_size _ rfl
  have hmS : DictE (s.heap.push { cls := .type "list", data := .seq ([] : List Value).toArray }) d es ep := hm.at' fun o e => Heap.get?_push_of_some _ e
  refine wpAny_mono (kdl_extend (A := A) (s := { s with heap := s.heap.push { cls := .type "list", data := .seq ([] : List Value).toArray } }) (R := fun r s' => r = .ok (.ret (.ref s.heap.objs.size)) ∧ ∃ h' tk acc' c', s' = { s with heap := h', toks := tk } ∧ (∀ b o, b ≠ s.heap.objs.size → (s.heap.push { cls := .type "list", data := .seq ([] : List Value).toArray }).get? b = some o → h'.get? b = some o) ∧
    h'.get? s.heap.objs.size = some { cls := .type "list", dict := none, data := .seq acc' c', slots := #[] } ∧ ItemsOf (fun i v => ∃ e, es[i]? = some e ∧ v = e.key) acc' es.size) (ed_src (prog := prog) (w := w) lo) hh hmS _ (Nat.ne_of_gt hm.lt) (Nat.ne_of_gt hm.lt) _ 0 hS (fun h' tk acc' c' hk hS' hacc => ⟨rfl, h', tk, acc', c', rfl, hk, hS', hacc⟩) hz) (fun fin s' h => ?_) (fun e s' h => ?_)
  rotate_left
  · cases h.1
  have fin' : ∀ (s' : Shared) (r : Result), (r = .ok (.ret (.ref s.heap.objs.size)) ∧ ∃ h' tk acc' c', s' = { s with heap := h', toks := tk } ∧ (∀ b o, b ≠ s.heap.objs.size → (s.heap.push { cls := .type "list", data := .seq ([] : List Value).toArray }).get? b = some o → h'.get? b = some o) ∧
      h'.get? s.heap.objs.size = some { cls := .type "list", dict := none, data := .seq acc' c', slots := #[] } ∧ ItemsOf (fun i v => ∃ e, es[i]? = some e ∧ v = e.key) acc' es.size) →
      (match r with
        | .ok (.ret v) => wpAny (model prog w) A (match v with
          | .ref a => do match (← load a).data with
            | .seq xs _ => pure xs.toList
            | _ => unsupported "internal:collect"
          | _ => unsupported "internal:collect") Q E s'
        | .ok _ => False
        | .error e => E e s') := by
    rintro s' r ⟨rfl, h', tk, acc', c', rfl, hk, hS', hacc⟩
    show wpAny _ A (load s.heap.objs.size >>= _) _ _ _
    refine wpAny_bind (wpAny_load hS' ?_)
    refine wpAny_pure ?_
    have e : acc'.toList = es.toList.map (·.key) := by
      refine List.ext_getElem? fun j => ?_
      rw [Array.getElem?_toList, List.getElem?_map, Array.getElem?_toList]
      cases hj : acc'[j]? with
      | none =>
        have : es.size ≤ j := by rw [← hacc.1]; simpa using hj
        rw [Array.getElem?_eq_none this]; rfl
      | some v =>
        obtain ⟨e, he, rfl⟩ := hacc.2 j v hj
        rw [he]; rfl
    rw [e]
    exact hQ h' tk fun b o hb => hk b o (Nat.ne_of_lt (Heap.lt_size hb)) (Heap.get?_push_of_some _ hb)
  cases fin with
  | done f => exact fin' _ _ h
  | again c' => exact ⟨h.1, codeAny_mono h.2 fun r s' q => fin' s' r q⟩
end
end Lay

/- part Lay19 -/
open PySem PySem.W PyProof.Rows
set_option Elab.async false
set_option linter.unusedVariables false
namespace Lay
variable {X : Cx} {n : Nat} {env : Env} {ρ : Rho} {μ : Mu}
/- dicts whose keys are numbers -/
def iget (l : List (Int × D)) (k : Int) : Option D := (l.find? fun x => decide (x.1 = k)).map (·.2)
theorem IRep.get {F : FZ} {k : Int} : ∀ {l : List (Int × D)} {xs : List (Int × Value)}, IRep F l xs → match iget l k with | some d => ∃ v, valueAt xs k = some v ∧ Rep F d v | none => valueAt xs k = none
  | [], xs, h => by cases h; exact rfl
  | (k', d) :: l, xs, ⟨v, xs', e, h2, h3⟩ => by
    subst e
    have ih := h3.get (k := k)
    unfold iget valueAt at ih ⊢
    by_cases q : k' = k
    · simp only [List.find?_cons, q, decide_true, Option.map_some]
      exact ⟨v, rfl, h2⟩
    · simp only [List.find?_cons, q, decide_false]
      exact ih
theorem IRep.keys {F : FZ} : ∀ {l : List (Int × D)} {xs : List (Int × Value)}, IRep F l xs → xs.map (·.1) = l.map (·.1)
  | [], xs, h => by cases h; rfl
  | (k, d) :: l, xs, ⟨v, xs', e, h2, h3⟩ => by subst e; simp [h3.keys]
theorem IRep.snoc {F : FZ} {k : Int} {d : D} {v : Value} (rv : Rep F d v) : ∀ {l : List (Int × D)} {xs : List (Int × Value)}, IRep F l xs → IRep F (l ++ [(k, d)]) (xs ++ [(k, v)])
  | [], xs, h => by cases h; exact ⟨v, [], rfl, rv, rfl⟩
  | (k', d') :: l, xs, ⟨v', xs', e, h2, h3⟩ => by subst e; exact ⟨v', _, rfl, h2, h3.snoc rv⟩
theorem pairs_any {p p' : Program} {w w' : World} {es : List DictEntry} {kvs : List (Int × Value)} (h : Pairs (intKind p w) es kvs) : Pairs (intKind p' w') es kvs := by
  induction h with
  | nil => exact .nil
  | cons h1 h2 _ ih => exact .cons h1 h2 ih
theorem isDict_any {p p' : Program} {w w' : World} {o : Obj} {kvs : List (Int × Value)} (h : o.IsDictOf (intKind p w) kvs) : o.IsDictOf (intKind p' w') kvs :=
  let ⟨es, ep, h1, h2, h3, h4, h5⟩ := h; ⟨es, ep, h1, h2, h3, pairs_any h4, h5⟩
theorem HC.isIDict {F : FZ} {s : Shared} (H : HC X F μ s) {d : Addr} {l : List (Int × D)} (hm : μ d = some (.idict l)) : ∃ kvs, s.heap.DictOf (intKind X.prog X.w) d kvs ∧ IRep F l kvs := by
  obtain ⟨h0, hB, o, ho, kvs, hx, hr⟩ := H.cell d _ hm
  exact ⟨kvs, Heap.dictOf_iff.mpr ⟨o, ho, hx _ _⟩, hr⟩
theorem Ev.idictC {pos : Pos} {Q : D → Mu → Prop} (htb : ∃ o, X.h₁.get? X.tb = some o) (h : ∀ a, μ a = .none → a ≠ X.tb → Q (.raw (.ref a)) (mput μ a (.idict []))) : Ev X n env (.Dict [] [] pos) ρ μ Q := fun A F s hA H V => by
  refine wpAny_Dict_empty ?_
  obtain ⟨hF, hM, hB⟩ := H.none_of_fresh push_none
  obtain ⟨H', S'⟩ := H.cellNew (s' := { s with heap := s.heap.push { cls := .type "dict", data := .dict #[] } }) (c := .idict []) push_none (Heap.get?_push_size _ rfl)
    ⟨[], fun p w => ⟨#[], 0, ⟨rfl, rfl, rfl⟩, rfl, fun e h => (List.not_mem_nil (Array.mem_toList_iff.mpr h)).elim, .nil, List.nodup_nil⟩, rfl⟩ (fun b o e => Heap.get?_push_of_some _ e) rfl rfl
  exact ⟨_, _, _, h _ hM (fun e => by obtain ⟨o, ho⟩ := htb; rw [e, ho] at hB; cases hB), rfl, H', S'⟩
theorem Cmp.inI {d : Addr} {l : List (Int × D)} {k : Int} {Q : D → Mu → Prop} (S : SysOk X) (hm : μ d = some (.idict l)) (h : Q (.bool (iget l k).isSome) μ) : Cmp X n .In (.int k) (.raw (.ref d)) μ Q := by
  rintro A F s va _ hA H ⟨t, rfl⟩ rfl
  obtain ⟨xs, hD, hR⟩ := H.isIDict hm
  refine wpAny_in_of (intKind_is _ _ k t) (S.ne H hm) hD.mapOf ?_
  have hg := hR.get (k := k)
  have : (valueAt xs k).isSome = (iget l k).isSome := by
    cases e : iget l k with
    | none => rw [e] at hg; dsimp only at hg; rw [hg]; rfl
    | some d' => rw [e] at hg; obtain ⟨p, hp, _⟩ := hg; rw [hp]; rfl
  rw [this]
  exact Post.here H h rfl (fun _ _ e => e) rfl rfl
theorem Sub.idict {value slice : Expr} {d : Addr} {l : List (Int × D)} {k : Int} {dv : D} {Q : D → Mu → Prop} (hm : μ d = some (.idict l)) (hg : iget l k = some dv) (h : Q dv μ)
    (hs : ∀ o i, subscripted slice false o i = operate [o, i] (getItem o i) := by intro _ _; with_unfolding_all rfl) : Sub X n value slice (.raw (.ref d)) (.int k) μ Q := by
  rintro A F s _ vi hA H rfl ⟨t, rfl⟩
  obtain ⟨xs, hD, hR⟩ := H.isIDict hm
  have hg' := hR.get (k := k)
  rw [hg] at hg'
  obtain ⟨p, hp, rp⟩ := hg'
  exact tail_any hD.typeIs PySem.F.slot_dict_getitem.lookup (wpAny_getItem_of (intKind_is _ _ k t) hD.mapOf hp (Post.here H h rp (fun _ _ e => e) rfl rfl)) (hs _ _)
theorem stored_new {kvs : List (Int × Value)} {k : Int} {v : Value} (h : valueAt kvs k = none) : stored kvs k v = kvs ++ [(k, v)] := by
  unfold stored
  rw [if_neg]
  unfold valueAt at h
  rw [Option.map_eq_none_iff, List.find?_eq_none] at h
  rw [List.any_eq_true]
  rintro ⟨x, hx, hq⟩
  exact h x hx hq
theorem SetI.idictNew {d : Addr} {l : List (Int × D)} {k : Int} {dv : D} {Q : Mu → Prop} (hm : μ d = some (.idict l)) (htb : d ≠ X.tb) (hn : iget l k = none) (hz : l.length ≤ 1000) (h : Q (mput μ d (.idict (l ++ [(k, dv)])))) : SetI X n (.raw (.ref d)) (.int k) dv μ Q := by
  rintro A F s _ vi vv hA H rfl ⟨t, rfl⟩ rv
  obtain ⟨xs, hD, hR⟩ := H.isIDict hm
  have hg' := hR.get (k := k)
  rw [hn] at hg'
  dsimp only at hg'
  have hxz : xs.length ≤ 1000 := by have := congrArg List.length hR.keys; simp only [List.length_map] at this; omega
  refine wpAny_setItem_pairs (intKind_is _ _ k t) hD (fun h' hD' hs' => ?_) (Nat.le_trans hxz (by decide))
  rw [stored_new hg'] at hD'
  obtain ⟨o', ho', hd'⟩ := Heap.dictOf_iff.mp hD'
  obtain ⟨H', S'⟩ := H.cellSet (s' := { s with heap := h', toks := s.toks + 1 }) (c := .idict (l ++ [(k, dv)])) hm htb ho' ⟨_, fun p w => isDict_any hd', hR.snoc rv⟩ (fun b o hb e => (hs'.2 b hb).trans e) rfl rfl
  exact ⟨_, F, h, H', S'⟩
theorem CallP.lenI {d : Addr} {l : List (Int × D)} {Q : D → Mu → Prop} (S : SysOk X) (hm : μ d = some (.idict l)) (hz : l.length ≤ 1000) (h : Q (.int l.length) μ) : CallP X n (.builtin "len") [.raw (.ref d)] μ Q := by
  rintro A F s vs hA H ⟨v, vs', rfl, rv, rn⟩
  obtain rfl : v = .ref d := rv
  obtain rfl : vs' = [] := rn
  obtain ⟨xs, hD, hR⟩ := H.isIDict hm
  have e : xs.length = l.length := by have := congrArg List.length hR.keys; simpa using this
  refine call_len_dict (S.ne H hm) hD (by omega) ?_
  rw [e]
  exact Post.here H h ⟨_, rfl⟩ (fun _ _ e => e) rfl rfl
end Lay

/- part HM1 -/
namespace Lay
/- weights with depths: exchange -/
abbrev WD := List (Nat × Nat)
def costW (P : WD) : Nat := (P.map fun p => p.1 * p.2).sum
def kr (N : Nat) (ds : List Nat) : Nat := (ds.map fun d => 2 ^ (N - d)).sum
/-- depths that a tree can have -/
def KL (N : Nat) (ds : List Nat) : Prop := (∀ d ∈ ds, d ≤ N) ∧ kr N ds ≤ 2 ^ N
theorem kr_perm {N : Nat} {a b : List Nat} (h : a.Perm b) : kr N a = kr N b := (h.map _).sum_nat
theorem KL.perm {N : Nat} {a b : List Nat} (h : a.Perm b) (k : KL N a) : KL N b := ⟨fun d hd => k.1 d (h.mem_iff.mpr hd), by rw [← kr_perm h]; exact k.2⟩
theorem costW_perm {a b : WD} (h : a.Perm b) : costW a = costW b := (h.map _).sum_nat
theorem kr_cons (N d : Nat) (ds : List Nat) : kr N (d :: ds) = 2 ^ (N - d) + kr N ds := by simp [kr]
theorem costW_cons (p : Nat × Nat) (P : WD) : costW (p :: P) = p.1 * p.2 + costW P := by simp [costW]
theorem kr_append (N : Nat) (a b : List Nat) : kr N (a ++ b) = kr N a + kr N b := by simp [kr]
theorem costW_append (a b : WD) : costW (a ++ b) = costW a + costW b := by simp [costW]
theorem deepest : ∀ (P : WD), P ≠ [] → ∃ q ∈ P, ∀ r ∈ P, r.2 ≤ q.2
  | [], h => absurd rfl h
  | [p], _ => ⟨p, by simp, by simp⟩
  | p :: p' :: P, _ => by
    obtain ⟨q, hq, hm⟩ := deepest (p' :: P) (by simp)
    by_cases h : q.2 ≤ p.2
    · exact ⟨p, .head _, fun r hr => by
        rcases List.mem_cons.mp hr with e | e
        · rw [e]; exact Nat.le_refl _
        · exact Nat.le_trans (hm r e) h⟩
    · exact ⟨q, .tail _ hq, fun r hr => by
        rcases List.mem_cons.mp hr with e | e
        · rw [e]; omega
        · exact hm r e⟩
theorem front {w : Nat} {ws : List Nat} {P : WD} (hP : (P.map (·.1)).Perm (w :: ws)) (hm : ∀ v ∈ ws, w ≤ v) :
    ∃ (D : Nat) (R : WD), (R.map (·.1)).Perm ws ∧ (D :: R.map (·.2)).Perm (P.map (·.2)) ∧ (∀ p ∈ R, p.2 ≤ D) ∧ costW ((w, D) :: R) ≤ costW P := by
  have hw : w ∈ P.map (·.1) := hP.mem_iff.mpr (.head _)
  obtain ⟨p, hp, hpw⟩ := List.mem_map.mp hw
  obtain ⟨S, T, rfl⟩ := List.append_of_mem hp
  have e1 : (S ++ p :: T).Perm (p :: (S ++ T)) := List.perm_middle
  obtain ⟨P1, h1⟩ : ∃ P1, P1 = S ++ T := ⟨_, rfl⟩
  rw [← h1] at e1
  have e2 : (P1.map (·.1)).Perm ws := by
    have := (e1.map (·.1)).symm.trans hP
    rw [List.map_cons, hpw] at this
    exact this.cons_inv
  rw [costW_perm e1]
  have e3 : (p.2 :: P1.map (·.2)).Perm ((S ++ p :: T).map (·.2)) := (e1.map (fun x : Nat × Nat => x.2)).symm
  by_cases hd : ∀ q ∈ P1, q.2 ≤ p.2
  · refine ⟨p.2, P1, e2, e3, hd, ?_⟩
    rw [costW_cons, costW_cons, hpw]
    exact Nat.le_refl _
  · have hne : P1 ≠ [] := fun e => hd (by rw [e]; simp)
    obtain ⟨q, hq, hmx⟩ := deepest P1 hne
    have hlt : p.2 < q.2 := by
      refine Nat.lt_of_not_le fun hle => hd fun r hr => Nat.le_trans (hmx r hr) hle
    obtain ⟨S', T', e4⟩ := List.append_of_mem hq
    have e5 : P1.Perm (q :: (S' ++ T')) := by rw [e4]; exact List.perm_middle
    obtain ⟨P2, h2⟩ : ∃ P2, P2 = S' ++ T' := ⟨_, rfl⟩
    rw [← h2] at e5
    have hwq : w ≤ q.1 := hm q.1 (e2.mem_iff.mp (List.mem_map_of_mem hq))
    refine ⟨q.2, (q.1, p.2) :: P2, ?_, ?_, ?_, ?_⟩
    · exact ((e5.map (·.1)).symm).trans e2
    · refine List.Perm.trans ?_ e3
      refine List.Perm.trans (.swap _ _ _) ?_
      exact ((e5.map (·.2)).symm).cons _
    · intro r hr
      rcases List.mem_cons.mp hr with e | e
      · rw [e]; exact Nat.le_of_lt hlt
      · exact hmx r (e5.mem_iff.mpr (.tail _ e))
    · rw [costW_cons, costW_cons, costW_cons, costW_perm e5, costW_cons]
      dsimp only
      rw [hpw]
      obtain ⟨a, ha⟩ := Nat.exists_eq_add_of_le hwq
      obtain ⟨b, hb⟩ := Nat.exists_eq_add_of_le (Nat.le_of_lt hlt)
      rw [ha, hb]
      have h3 : (w + a) * (p.2 + b) = w * p.2 + w * b + (a * p.2 + a * b) := by rw [Nat.add_mul, Nat.mul_add, Nat.mul_add]
      have h4 : w * (p.2 + b) = w * p.2 + w * b := Nat.mul_add ..
      have h5 : (w + a) * p.2 = w * p.2 + a * p.2 := Nat.add_mul ..
      rw [h3, h4, h5]
      have := Nat.zero_le (a * b)
      omega
theorem kr_dvd {N D : Nat} : ∀ {ds : List Nat}, (∀ d ∈ ds, d ≤ D) → D ≤ N → 2 ^ (N - D) ∣ kr N ds
  | [], _, _ => by simp [kr]
  | d :: ds, h, hN => by
    rw [kr_cons]
    refine Nat.dvd_add ?_ (kr_dvd (fun x hx => h x (.tail _ hx)) hN)
    have := h d (.head _)
    exact Nat.pow_dvd_pow 2 (by omega)
/-- the deepest leaf may come up to the next one -/
theorem kr_lift {N D D' : Nat} {ds : List Nat} (hD : D' ≤ D) (hN : D ≤ N) (h : ∀ d ∈ ds, d ≤ D') (k : 2 ^ (N - D) + kr N ds ≤ 2 ^ N) : 2 ^ (N - D') + kr N ds ≤ 2 ^ N := by
  obtain ⟨q, hq⟩ := kr_dvd h (Nat.le_trans hD hN)
  have hp : 2 ^ N = 2 ^ (N - D') * 2 ^ D' := by rw [← Nat.pow_add]; congr 1; omega
  have h0 : 0 < 2 ^ (N - D) := Nat.two_pow_pos _
  have h1 : 0 < 2 ^ (N - D') := Nat.two_pow_pos _
  rw [hq, hp] at k ⊢
  have hlt : 2 ^ (N - D') * q < 2 ^ (N - D') * 2 ^ D' := by omega
  have hq1 : q < 2 ^ D' := Nat.lt_of_mul_lt_mul_left hlt
  have : 2 ^ (N - D') * (q + 1) ≤ 2 ^ (N - D') * 2 ^ D' := Nat.mul_le_mul_left _ hq1
  rw [Nat.mul_add, Nat.mul_one] at this
  omega
theorem merge {N w0 w1 : Nat} {ws : List Nat} {P : WD} (hP : (P.map (·.1)).Perm (w0 :: w1 :: ws)) (h01 : w0 ≤ w1) (h1 : ∀ w ∈ ws, w1 ≤ w) (k : KL N (P.map (·.2))) :
    ∃ P' : WD, (P'.map (·.1)).Perm (ws ++ [w0 + w1]) ∧ KL N (P'.map (·.2)) ∧ costW P' + (w0 + w1) ≤ costW P := by
  obtain ⟨D, R, r1, r2, r3, r4⟩ := front hP (fun v hv => by
    rcases List.mem_cons.mp hv with e | e
    · rw [e]; exact h01
    · exact Nat.le_trans h01 (h1 v e))
  obtain ⟨D', R', s1, s2, s3, s4⟩ := front r1 h1
  have k' : KL N (D :: D' :: R'.map (·.2)) := k.perm (r2.symm.trans (s2.symm.cons _))
  have hDD : D' ≤ D := by
    have : D' ∈ R.map (·.2) := s2.mem_iff.mp (.head _)
    obtain ⟨p, hp, e⟩ := List.mem_map.mp this
    rw [← e]; exact r3 p hp
  have hDN : D ≤ N := k'.1 D (.head _)
  have hk := k'.2
  rw [kr_cons] at hk
  have hk2 := kr_lift hDD hDN (fun d hd => by
    rcases List.mem_cons.mp hd with e | e
    · rw [e]; exact Nat.le_refl _
    · obtain ⟨p, hp, e⟩ := List.mem_map.mp e
      rw [← e]; exact s3 p hp) hk
  rw [kr_cons] at hk2
  have hD1 : 1 ≤ D' := by
    refine Nat.pos_of_ne_zero fun e => ?_
    rw [e, Nat.sub_zero] at hk2
    have := Nat.two_pow_pos N
    omega
  refine ⟨R' ++ [(w0 + w1, D' - 1)], ?_, ⟨fun d hd => ?_, ?_⟩, ?_⟩
  · rw [List.map_append]
    exact s1.append_right _
  · rw [List.map_append, List.mem_append] at hd
    rcases hd with hd | hd
    · exact k'.1 d (.tail _ (.tail _ hd))
    · simp at hd; omega
  · rw [List.map_append, kr_append]
    have : kr N ([(w0 + w1, D' - 1)].map (·.2)) = 2 ^ (N - D') + 2 ^ (N - D') := by
      show 2 ^ (N - (D' - 1)) + 0 = _
      rw [show N - (D' - 1) = (N - D') + 1 by omega, Nat.pow_succ]; omega
    rw [this]
    omega
  · rw [costW_append]
    have e : costW [(w0 + w1, D' - 1)] = (w0 + w1) * (D' - 1) := by simp [costW]
    rw [e]
    rw [costW_cons] at r4 s4
    dsimp only at r4 s4
    have h6 : w0 * D' ≤ w0 * D := Nat.mul_le_mul_left _ hDD
    have h7 : (w0 + w1) * (D' - 1) + (w0 + w1) = w0 * D' + w1 * D' := by
      rw [← Nat.add_mul]
      obtain ⟨x, rfl⟩ : ∃ x, D' = x + 1 := ⟨D' - 1, by omega⟩
      rw [Nat.add_sub_cancel, Nat.mul_add, Nat.mul_one]
    omega
end Lay

/- part HM2 -/
namespace Lay
/- Huffman's forest -/
/-- a tree: its weight and its leaves, each a mark and a depth -/
abbrev Tree := Nat × List (Nat × Nat)
def upL (ls : List (Nat × Nat)) : List (Nat × Nat) := ls.map fun p => (p.1, p.2 + 1)
def joinF : List Tree → List Tree
  | a :: b :: ts => ts ++ [(a.1 + b.1, upL (a.2 ++ b.2))]
  | ts => ts
def wdep (cnt : Nat → Nat) (ls : List (Nat × Nat)) : Nat := (ls.map fun p => cnt p.1 * p.2).sum
def wsum (cnt : Nat → Nat) (A : List Nat) : Nat := (A.map cnt).sum
inductive HTr (cnt : Nat → Nat) : List Nat → Nat → Prop
  | one (m : Nat) : HTr cnt [m] 0
  | join {A B : List Nat} {a b : Nat} : HTr cnt A a → HTr cnt B b → HTr cnt (A ++ B) (a + b + wsum cnt A + wsum cnt B)
def mks (ls : List (Nat × Nat)) : List Nat := ls.map fun p => p.1
def dps (ls : List (Nat × Nat)) : List Nat := ls.map fun p => p.2
structure FI (cnt : Nat → Nat) (M : List Nat) (N : Nat) (ts : List Tree) : Prop where
  marks : (ts.flatMap fun t => mks t.2).Perm M
  wt : ∀ t ∈ ts, t.1 = wsum cnt (mks t.2)
  full : ∀ t ∈ ts, (∀ d ∈ dps t.2, d + 1 ≤ t.2.length) ∧ kr N (dps t.2) = 2 ^ N
  tr : ∀ t ∈ ts, HTr cnt (mks t.2) (wdep cnt t.2)
  opt : ∀ P : WD, (P.map (·.1)).Perm (M.map cnt) → KL N (P.map (·.2)) → ∃ P' : WD, (P'.map (·.1)).Perm (ts.map (·.1)) ∧ KL N (P'.map (·.2)) ∧ costW P' + (ts.map fun t => wdep cnt t.2).sum ≤ costW P
theorem FI.perm {cnt : Nat → Nat} {M : List Nat} {N : Nat} {ts r : List Tree} (F : FI cnt M N ts) (h : ts.Perm r) : FI cnt M N r where
  marks := (h.flatMap_right _).symm.trans F.marks
  wt t ht := F.wt t (h.mem_iff.mpr ht)
  full t ht := F.full t (h.mem_iff.mpr ht)
  tr t ht := F.tr t (h.mem_iff.mpr ht)
  opt P h1 h2 := by
    obtain ⟨P', p1, p2, p3⟩ := F.opt P h1 h2
    exact ⟨P', p1.trans (h.map _), p2, by rw [← (h.map fun t => wdep cnt t.2).sum_nat]; exact p3⟩
theorem FI.start (cnt : Nat → Nat) (M : List Nat) (N : Nat) : FI cnt M N (M.map fun k => (cnt k, [(k, 0)])) where
  marks := by
    rw [List.flatMap_map]
    have : (M.flatMap fun k => mks ((cnt k, [(k, 0)]) : Tree).2) = M := by
      induction M with
      | nil => rfl
      | cons k M ih => rw [List.flatMap_cons, ih]; rfl
    rw [this]
  wt t ht := by
    obtain ⟨k, _, rfl⟩ := List.mem_map.mp ht
    simp [wsum, mks]
  full t ht := by
    obtain ⟨k, _, rfl⟩ := List.mem_map.mp ht
    simp [dps, kr]
  tr t ht := by
    obtain ⟨k, _, rfl⟩ := List.mem_map.mp ht
    exact HTr.one k
  opt P h1 h2 := by
    refine ⟨P, ?_, h2, ?_⟩
    · rw [List.map_map]; exact h1
    · rw [List.map_map]
      have : (M.map ((fun t : Tree => wdep cnt t.2) ∘ fun k => (cnt k, [(k, 0)]))).sum = 0 := by
        clear h1
        induction M with
        | nil => rfl
        | cons k M ih => rw [List.map_cons, List.sum_cons, ih]; rfl
      omega
theorem mks_up (ls : List (Nat × Nat)) : mks (upL ls) = mks ls := by simp [mks, upL, Function.comp_def]
theorem dps_up (ls : List (Nat × Nat)) : dps (upL ls) = (dps ls).map (· + 1) := by simp [dps, upL, Function.comp_def]
theorem wdep_up (cnt : Nat → Nat) : ∀ ls : List (Nat × Nat), wdep cnt (upL ls) = wdep cnt ls + wsum cnt (mks ls)
  | [] => rfl
  | p :: ls => by
    have ih := wdep_up cnt ls
    simp only [wdep, upL, wsum, mks, List.map_cons, List.sum_cons, List.map_map, Function.comp_def] at ih ⊢
    rw [Nat.mul_add, Nat.mul_one]
    omega
theorem kr_up {N : Nat} : ∀ {ds : List Nat}, (∀ d ∈ ds, d + 1 ≤ N) → 2 * kr N (ds.map (· + 1)) = kr N ds
  | [], _ => rfl
  | d :: ds, h => by
    have ih := kr_up (ds := ds) fun x hx => h x (.tail _ hx)
    have hd := h d (.head _)
    rw [List.map_cons, kr_cons, kr_cons, Nat.mul_add, ih]
    rw [show N - d = (N - (d + 1)) + 1 by omega, Nat.pow_succ]
    omega
theorem mks_len (ls : List (Nat × Nat)) : (mks ls).length = ls.length := List.length_map ..
theorem dps_len (ls : List (Nat × Nat)) : (dps ls).length = ls.length := List.length_map ..
theorem full_ne {N : Nat} {ls : List (Nat × Nat)} (h : kr N (dps ls) = 2 ^ N) : 1 ≤ ls.length := by
  cases ls with
  | nil => exact absurd h (by have := Nat.two_pow_pos N; simp [dps, kr]; omega)
  | cons p ls => simp
theorem FI.join {cnt : Nat → Nat} {M : List Nat} {N : Nat} {a b : Tree} {ts : List Tree} (F : FI cnt M N (a :: b :: ts)) (hN : M.length ≤ N) (hab : a.1 ≤ b.1) (hb : ∀ t ∈ ts, b.1 ≤ t.1) : FI cnt M N (joinF (a :: b :: ts)) := by
  have hlen : a.2.length + b.2.length ≤ N := by
    have := F.marks.length_eq
    rw [List.flatMap_cons, List.flatMap_cons, List.length_append, List.length_append, mks_len, mks_len] at this
    omega
  obtain ⟨fa1, fa2⟩ := F.full a (.head _)
  obtain ⟨fb1, fb2⟩ := F.full b (.tail _ (.head _))
  have la := full_ne fa2
  have lb := full_ne fb2
  refine ⟨?_, fun t ht => ?_, fun t ht => ?_, fun t ht => ?_, fun P h1 h2 => ?_⟩
  · refine List.Perm.trans ?_ F.marks
    unfold joinF
    have e1 : mks (a.2 ++ b.2) = mks a.2 ++ mks b.2 := by simp [mks]
    simp only [List.flatMap_append, List.flatMap_cons, List.flatMap_nil, List.append_nil, mks_up, e1]
    rw [← List.append_assoc (mks a.2)]
    exact List.perm_append_comm
  · rcases List.mem_append.mp ht with h | h
    · exact F.wt t (.tail _ (.tail _ h))
    · rw [List.mem_singleton.mp h]
      rw [mks_up, F.wt a (.head _), F.wt b (.tail _ (.head _))]
      simp [wsum, mks]
  · rcases List.mem_append.mp ht with h | h
    · exact F.full t (.tail _ (.tail _ h))
    · rw [List.mem_singleton.mp h]
      dsimp only
      have hl : (upL (a.2 ++ b.2)).length = a.2.length + b.2.length := by simp [upL]
      have hd : dps (a.2 ++ b.2) = dps a.2 ++ dps b.2 := by simp [dps]
      rw [dps_up, hd, hl]
      refine ⟨fun d hd => ?_, ?_⟩
      · obtain ⟨x, hx, rfl⟩ := List.mem_map.mp hd
        rcases List.mem_append.mp hx with h | h
        · have := fa1 x h; omega
        · have := fb1 x h; omega
      · have e := kr_up (N := N) (ds := dps a.2 ++ dps b.2) fun d hd => by
          rcases List.mem_append.mp hd with h | h
          · have := fa1 d h; omega
          · have := fb1 d h; omega
        rw [kr_append, fa2, fb2] at e
        omega
  · rcases List.mem_append.mp ht with h | h
    · exact F.tr t (.tail _ (.tail _ h))
    · rw [List.mem_singleton.mp h]
      dsimp only
      rw [mks_up, wdep_up]
      have e1 : mks (a.2 ++ b.2) = mks a.2 ++ mks b.2 := by simp [mks]
      have e2 : wdep cnt (a.2 ++ b.2) = wdep cnt a.2 + wdep cnt b.2 := by simp [wdep]
      have e3 : wsum cnt (mks a.2 ++ mks b.2) = wsum cnt (mks a.2) + wsum cnt (mks b.2) := by simp [wsum]
      rw [e1, e2, e3, ← Nat.add_assoc]
      exact HTr.join (F.tr a (.head _)) (F.tr b (.tail _ (.head _)))
  · obtain ⟨P', p1, p2, p3⟩ := F.opt P h1 h2
    obtain ⟨P'', q1, q2, q3⟩ := merge (w0 := a.1) (w1 := b.1) (ws := ts.map (·.1)) p1 hab (fun w hw => by
      obtain ⟨t, ht, rfl⟩ := List.mem_map.mp hw
      exact hb t ht) p2
    refine ⟨P'', ?_, q2, ?_⟩
    · unfold joinF
      rw [List.map_append]
      exact q1
    · unfold joinF
      rw [List.map_append, List.sum_append_nat]
      rw [List.map_cons, List.map_cons, List.sum_cons, List.sum_cons] at p3
      have e2 : wdep cnt (a.2 ++ b.2) = wdep cnt a.2 + wdep cnt b.2 := by simp [wdep]
      have e3 : wsum cnt (mks (a.2 ++ b.2)) = wsum cnt (mks a.2) + wsum cnt (mks b.2) := by simp [wsum, mks]
      simp only [List.map_cons, List.map_nil, List.sum_cons, List.sum_nil, Nat.add_zero]
      rw [wdep_up, e2, e3, ← F.wt a (.head _), ← F.wt b (.tail _ (.head _))]
      omega
/-- what the last tree is -/
theorem FI.last {cnt : Nat → Nat} {M : List Nat} {N : Nat} {t : Tree} (F : FI cnt M N [t]) : (mks t.2).Perm M ∧ t.1 = wsum cnt M ∧ (∀ d ∈ dps t.2, d + 1 ≤ M.length) ∧ kr N (dps t.2) = 2 ^ N ∧ HTr cnt (mks t.2) (wdep cnt t.2) ∧
    ∀ P : WD, (P.map (·.1)).Perm (M.map cnt) → KL N (P.map (·.2)) → wdep cnt t.2 ≤ costW P := by
  have hm : (mks t.2).Perm M := by have := F.marks; simpa using this
  have hl : t.2.length = M.length := by rw [← hm.length_eq, mks_len]
  refine ⟨hm, ?_, fun d hd => ?_, (F.full t (.head _)).2, F.tr t (.head _), fun P h1 h2 => ?_⟩
  · rw [F.wt t (.head _)]
    exact (hm.map cnt).sum_nat
  · rw [← hl]; exact (F.full t (.head _)).1 d hd
  · obtain ⟨P', _, _, p3⟩ := F.opt P h1 h2
    simp only [List.map_cons, List.map_nil, List.sum_cons, List.sum_nil, Nat.add_zero] at p3
    omega
end Lay

/- part HM3 -/
namespace Lay
set_option maxRecDepth 10000
/- sets of letters as numbers; the least for each set -/
def sumS (W : Nat → Nat) (m S : Nat) : Nat := ((List.range m).map fun i => if S.testBit i then W i else 0).sum
inductive TrS (W : Nat → Nat) (m : Nat) : Nat → Nat → Prop
  | one {i : Nat} : i < m → TrS W m (2 ^ i) 0
  | node {A B a b : Nat} : TrS W m A a → TrS W m B b → A &&& B = 0 → TrS W m (A ||| B) (a + b + sumS W m (A ||| B))
def Good (W : Nat → Nat) (m S v : Nat) : Prop := TrS W m S v ∧ ∀ c, TrS W m S c → v ≤ c
theorem TrS.pos {W : Nat → Nat} {m S c : Nat} (h : TrS W m S c) : 0 < S ∧ S < 2 ^ m := by
  induction h with
  | one h => exact ⟨Nat.two_pow_pos _, Nat.pow_lt_pow_right (by decide) h⟩
  | node _ _ _ ih1 ih2 => exact ⟨Nat.lt_of_lt_of_le ih1.1 Nat.left_le_or, Nat.or_lt_two_pow ih1.2 ih2.2⟩
def partsFrom : Nat → Nat → Nat → List Nat
  | 0, _, _ => []
  | f + 1, p, rest => if p = 0 then [] else p :: partsFrom f ((p - 1) &&& rest) rest
def restF (S : Nat) : Nat := S &&& (S - 1)
def parts (S : Nat) : List Nat := partsFrom 64 (restF S) (restF S)
theorem add_or : ∀ A < 64, ∀ B < 64, A &&& B = 0 → A ||| B = A + B := by decide +kernel
theorem parts1 : ∀ S < 64, ∀ p ∈ parts S, 0 < p ∧ p < S ∧ p &&& (S - p) = 0 ∧ p ||| (S - p) = S := by decide +kernel
theorem parts2b : ((List.range 64).all fun S => (List.range S).all fun A => A == 0 || (A &&& (S - A)) != 0 || (parts S).contains A || (parts S).contains (S - A)) = true := by decide +kernel
theorem parts2 {S : Nat} (hS : S < 64) {A : Nat} (hA : A < S) (h0 : 0 < A) (hz : A &&& (S - A) = 0) : A ∈ parts S ∨ S - A ∈ parts S := by
  have h := List.all_eq_true.mp (List.all_eq_true.mp parts2b S (List.mem_range.mpr hS)) A (List.mem_range.mpr hA)
  simp only [hz, Bool.or_eq_true, beq_iff_eq, bne_self_eq_false, Bool.false_eq_true, or_false, List.contains_iff_mem] at h
  rcases h with (h | h) | h
  · omega
  · exact .inl h
  · exact .inr h
theorem parts3 : ∀ S < 64, 0 < S → parts S = [] → ∃ i < 6, S = 2 ^ i := by decide +kernel
theorem parts4 : ∀ i < 6, parts (2 ^ i) = [] := by decide +kernel
/-- the least offer so far -/
def bestF (l : Nat → Nat) (S : Nat) : List Nat → Option Nat
  | [] => none
  | p :: ps => match bestF l S ps with
    | none => some (l p + l (S - p))
    | some b => some (min b (l p + l (S - p)))
theorem best_none {l : Nat → Nat} {S : Nat} : ∀ {ps : List Nat}, bestF l S ps = none → ps = []
  | [], _ => rfl
  | p :: ps, h => by
    unfold bestF at h
    split at h <;> cases h
theorem best_some {l : Nat → Nat} {S : Nat} : ∀ {ps : List Nat} {b : Nat}, bestF l S ps = some b → (∃ p ∈ ps, b = l p + l (S - p)) ∧ ∀ p ∈ ps, b ≤ l p + l (S - p)
  | [], _, h => by cases h
  | p :: ps, b, h => by
    unfold bestF at h
    split at h
    · rename_i e
      cases h
      rw [best_none e]
      exact ⟨⟨p, by simp, rfl⟩, by simp⟩
    · rename_i b' e
      cases h
      obtain ⟨⟨q, hq, h1⟩, h2⟩ := best_some e
      refine ⟨?_, fun r hr => ?_⟩
      · by_cases hlt : b' ≤ l p + l (S - p)
        · exact ⟨q, .tail _ hq, by rw [Nat.min_eq_left hlt, h1]⟩
        · exact ⟨p, .head _, by rw [Nat.min_eq_right (by omega)]⟩
      · rcases List.mem_cons.mp hr with e | e
        · rw [e]; exact Nat.min_le_right ..
        · exact Nat.le_trans (Nat.min_le_left ..) (h2 r e)
theorem good_one {W : Nat → Nat} {m S : Nat} (hm : m ≤ 6) (h0 : 0 < S) (hS : S < 2 ^ m) (h : parts S = []) : Good W m S 0 := by
  have h64 : S < 64 := Nat.lt_of_lt_of_le hS (show 2 ^ m ≤ 2 ^ 6 from Nat.pow_le_pow_right (by decide) hm)
  obtain ⟨i, hi, rfl⟩ := parts3 S h64 h0 h
  exact ⟨.one ((Nat.pow_lt_pow_iff_right (by decide)).mp hS), fun c _ => Nat.zero_le c⟩
theorem good_step {W : Nat → Nat} {m S b : Nat} {l : Nat → Nat} (hm : m ≤ 6) (hS : S < 2 ^ m) (hl : ∀ T, 0 < T → T < S → Good W m T (l T)) (h : bestF l S (parts S) = some b) : Good W m S (b + sumS W m S) := by
  have h64 : S < 64 := Nat.lt_of_lt_of_le hS (show 2 ^ m ≤ 2 ^ 6 from Nat.pow_le_pow_right (by decide) hm)
  obtain ⟨⟨p, hp, hb⟩, hmin⟩ := best_some h
  refine ⟨?_, fun c hc => ?_⟩
  · obtain ⟨p0, p1, p2, p3⟩ := parts1 S h64 p hp
    have g1 := (hl p p0 p1).1
    have g2 := (hl (S - p) (by omega) (by omega)).1
    have := TrS.node g1 g2 p2
    rw [p3] at this
    rw [hb]
    exact this
  · generalize hT : S = T at hc
    cases hc with
    | @one i hi =>
      subst hT
      have : i < 6 := by omega
      rw [parts4 i this] at h
      cases h
    | @node A B x y hA hB hz =>
      obtain ⟨a0, a1⟩ := hA.pos
      obtain ⟨b0, b1⟩ := hB.pos
      have a2 : A < 64 := Nat.lt_of_lt_of_le a1 (show 2 ^ m ≤ 2 ^ 6 from Nat.pow_le_pow_right (by decide) hm)
      have b2 : B < 64 := Nat.lt_of_lt_of_le b1 (show 2 ^ m ≤ 2 ^ 6 from Nat.pow_le_pow_right (by decide) hm)
      have e := add_or A a2 B b2 hz
      have eB : S - A = B := by omega
      have eA : S - B = A := by omega
      have h1 := (hl A a0 (by omega)).2 x hA
      have h2 := (hl B b0 (by omega)).2 y hB
      rw [← hT]
      rcases parts2 h64 (A := A) (by omega) a0 (by rw [eB]; exact hz) with q | q
      · have := hmin A q
        rw [eB] at this
        omega
      · rw [eB] at q
        have := hmin B q
        rw [eA] at this
        omega
/- a tree's depths -/
theorem range_sum_or {W : Nat → Nat} {m A B : Nat} (hz : A &&& B = 0) : sumS W m (A ||| B) = sumS W m A + sumS W m B := by
  unfold sumS
  induction List.range m with
  | nil => rfl
  | cons i l ih =>
    rw [List.map_cons, List.map_cons, List.map_cons, List.sum_cons, List.sum_cons, List.sum_cons, ih, Nat.testBit_or]
    have hb : (A.testBit i && B.testBit i) = false := by rw [← Nat.testBit_and, hz, Nat.zero_testBit]
    cases hA : A.testBit i <;> cases hB : B.testBit i <;> simp_all <;> omega
def wsS (W : Nat → Nat) (m S : Nat) : List Nat := ((List.range m).filter fun i => S.testBit i).map W
theorem wsS_sum (W : Nat → Nat) (m S : Nat) : (wsS W m S).sum = sumS W m S := by
  unfold wsS sumS
  induction List.range m with
  | nil => rfl
  | cons i l ih =>
    rw [List.filter_cons, List.map_cons, List.sum_cons, ← ih]
    split <;> simp_all
theorem wsS_or {W : Nat → Nat} {m A B : Nat} (hz : A &&& B = 0) : (wsS W m (A ||| B)).Perm (wsS W m A ++ wsS W m B) := by
  unfold wsS
  rw [← List.map_append]
  refine List.Perm.map _ ?_
  induction List.range m with
  | nil => exact .refl _
  | cons i l ih =>
    have hb : (A.testBit i && B.testBit i) = false := by rw [← Nat.testBit_and, hz, Nat.zero_testBit]
    rw [List.filter_cons, List.filter_cons, List.filter_cons, Nat.testBit_or]
    cases hA : A.testBit i <;> cases hB : B.testBit i <;> simp only [hA, hB, Bool.or_true, Bool.or_false, if_true, Bool.false_eq_true, if_false, List.cons_append]
    · exact ih
    · exact (ih.cons i).trans List.perm_middle.symm
    · exact ih.cons i
    · rw [hA, hB] at hb; cases hb
theorem filter_one : ∀ {l : List Nat} {i : Nat}, l.Nodup → i ∈ l → (l.filter fun j => (2 ^ i).testBit j) = [i]
  | [], _, _, h => by cases h
  | x :: l, i, hn, h => by
    rw [List.nodup_cons] at hn
    rw [List.filter_cons]
    rcases List.mem_cons.mp h with e | e
    · subst e
      rw [if_pos Nat.testBit_two_pow_self]
      congr 1
      rw [List.filter_eq_nil_iff]
      intro a ha
      rw [Nat.testBit_two_pow_of_ne (fun e => hn.1 (by rw [e]; exact ha))]
      decide
    · rw [if_neg (by rw [Nat.testBit_two_pow_of_ne (fun q => hn.1 (by rw [← q]; exact e))]; decide)]
      exact filter_one hn.2 e
theorem TrS.depths {W : Nat → Nat} {m N S c : Nat} (hN : m ≤ N) (h : TrS W m S c) : ∃ P : List (Nat × Nat), (mks P).Perm (wsS W m S) ∧ (∀ d ∈ dps P, d + 1 ≤ P.length) ∧ kr N (dps P) = 2 ^ N ∧ costW P = c ∧ P.length ≤ m := by
  have hlen : ∀ {S : Nat} {P : List (Nat × Nat)}, (mks P).Perm (wsS W m S) → P.length ≤ m := fun {S P} h => by
    have h1 := h.length_eq
    have h2 := List.length_filter_le (fun i => S.testBit i) (List.range m)
    rw [mks_len] at h1
    rw [h1]
    unfold wsS
    rw [List.length_map]
    rw [List.length_range] at h2
    exact h2
  induction h with
  | @one i hi =>
    have e : (mks [(W i, 0)]).Perm (wsS W m (2 ^ i)) := by
      unfold wsS
      rw [filter_one List.nodup_range (List.mem_range.mpr hi)]
      exact .refl _
    exact ⟨[(W i, 0)], e, by simp [dps], by simp [dps, kr], by simp [costW], hlen e⟩
  | @node A B a b hA hB hz ih1 ih2 =>
    obtain ⟨P, p1, p2, p3, p4, p5⟩ := ih1
    obtain ⟨R, r1, r2, r3, r4, r5⟩ := ih2
    have lp := full_ne p3
    have lr := full_ne r3
    have e1 : mks (P ++ R) = mks P ++ mks R := by simp [mks]
    have e2 : dps (P ++ R) = dps P ++ dps R := by simp [dps]
    have hp : (mks (upL (P ++ R))).Perm (wsS W m (A ||| B)) := by
      rw [mks_up, e1]
      exact (p1.append r1).trans (wsS_or hz).symm
    have hl : (upL (P ++ R)).length = P.length + R.length := by simp [upL]
    have hPR := hlen hp
    refine ⟨upL (P ++ R), hp, fun d hd => ?_, ?_, ?_, hPR⟩
    · rw [dps_up] at hd
      obtain ⟨x, hx, rfl⟩ := List.mem_map.mp hd
      rw [hl]
      rw [e2] at hx
      rcases List.mem_append.mp hx with h | h
      · have := p2 x h; omega
      · have := r2 x h; omega
    · rw [dps_up, e2]
      have e := kr_up (N := N) (ds := dps P ++ dps R) fun d hd => by
        rcases List.mem_append.mp hd with h | h
        · have := p2 d h; omega
        · have := r2 d h; omega
      rw [kr_append, p3, r3] at e
      omega
    · have e3 : ∀ Z : List (Nat × Nat), costW (upL Z) = costW Z + (mks Z).sum := fun Z => by
        have := wdep_up id Z
        simpa [wdep, costW, wsum] using this
      rw [e3, e1, costW_append, p4, r4, List.sum_append_nat, p1.sum_nat, r1.sum_nat, wsS_sum, wsS_sum, range_sum_or hz]
end Lay

/- part HM4 -/
namespace Lay
/- from rows of marks to sets -/
def maskL (M : List Nat) (A : List Nat) : Nat := A.foldr (fun a s => 2 ^ (M.idxOf a) ||| s) 0
theorem maskL_bit (M : List Nat) (i : Nat) : ∀ A : List Nat, (maskL M A).testBit i = A.any fun a => decide (M.idxOf a = i)
  | [] => by simp [maskL]
  | a :: A => by
    have ih := maskL_bit M i A
    unfold maskL at ih ⊢
    rw [List.foldr_cons, Nat.testBit_or, ih, Nat.testBit_two_pow, List.any_cons]
theorem maskL_append (M A B : List Nat) : maskL M (A ++ B) = maskL M A ||| maskL M B := by
  refine Nat.eq_of_testBit_eq fun i => ?_
  rw [Nat.testBit_or, maskL_bit, maskL_bit, maskL_bit, List.any_append]
theorem idx_inj {M : List Nat} {a b : Nat} (ha : a ∈ M) (hb : b ∈ M) (h : M.idxOf a = M.idxOf b) : a = b := by
  have h1 := List.getElem_idxOf (List.idxOf_lt_length_of_mem ha)
  have h2 := List.getElem_idxOf (List.idxOf_lt_length_of_mem hb)
  rw [← h1, ← h2]
  congr 1
theorem maskL_apart {M A B : List Nat} (hn : (A ++ B).Nodup) (hM : ∀ a ∈ A ++ B, a ∈ M) : maskL M A &&& maskL M B = 0 := by
  refine Nat.eq_of_testBit_eq fun i => ?_
  rw [Nat.testBit_and, maskL_bit, maskL_bit, Nat.zero_testBit]
  refine Bool.eq_false_iff.mpr fun h => ?_
  rw [Bool.and_eq_true, List.any_eq_true, List.any_eq_true] at h
  obtain ⟨⟨a, ha, e1⟩, b, hb, e2⟩ := h
  have e : a = b := idx_inj (hM a (List.mem_append_left _ ha)) (hM b (List.mem_append_right _ hb)) (by simp at e1 e2; rw [e1, e2])
  subst e
  exact (List.nodup_append.mp hn).2.2 a ha a hb rfl
def wOf (cnt : Nat → Nat) (M : List Nat) (i : Nat) : Nat := cnt (M.getD i 0)
theorem maskL_one (M : List Nat) (a : Nat) : maskL M [a] = 2 ^ (M.idxOf a) := by simp [maskL]
theorem wOf_idx {cnt : Nat → Nat} {M : List Nat} {a : Nat} (ha : a ∈ M) : wOf cnt M (M.idxOf a) = cnt a := by
  have h := List.idxOf_lt_length_of_mem ha
  unfold wOf
  congr 1
  simp [List.getD, h]
theorem sumS_one {W : Nat → Nat} {m i : Nat} (hi : i < m) : sumS W m (2 ^ i) = W i := by
  rw [← wsS_sum]
  unfold wsS
  rw [filter_one List.nodup_range (List.mem_range.mpr hi)]
  simp
theorem sumS_mask {cnt : Nat → Nat} {M : List Nat} : ∀ {A : List Nat}, A.Nodup → (∀ a ∈ A, a ∈ M) → sumS (wOf cnt M) M.length (maskL M A) = wsum cnt A
  | [], _, _ => by
    have : ∀ l : List Nat, (l.map fun _ => 0).sum = 0 := fun l => by induction l with
      | nil => rfl
      | cons x l ih => simp [ih]
    simp [maskL, sumS, wsum, this]
  | a :: A, hn, hM => by
    have e : maskL M (a :: A) = maskL M [a] ||| maskL M A := maskL_append M [a] A
    have hz : maskL M [a] &&& maskL M A = 0 := maskL_apart (A := [a]) hn hM
    rw [e, range_sum_or hz, maskL_one, sumS_one (List.idxOf_lt_length_of_mem (hM a (.head _))), wOf_idx (hM a (.head _)), sumS_mask (List.nodup_cons.mp hn).2 fun x hx => hM x (.tail _ hx)]
    simp [wsum]
theorem HTr.toS {cnt : Nat → Nat} {M A : List Nat} {c : Nat} (h : HTr cnt A c) : A.Nodup → (∀ a ∈ A, a ∈ M) → TrS (wOf cnt M) M.length (maskL M A) c := by
  induction h with
  | one k =>
    intro _ hM
    rw [maskL_one]
    exact .one (List.idxOf_lt_length_of_mem (hM k (.head _)))
  | @join A B a b hA hB ih1 ih2 =>
    intro hn hM
    have hn' := List.nodup_append.mp hn
    have t1 := ih1 hn'.1 fun x hx => hM x (List.mem_append_left _ hx)
    have t2 := ih2 hn'.2.1 fun x hx => hM x (List.mem_append_right _ hx)
    have hz := maskL_apart hn hM
    have := TrS.node t1 t2 hz
    rw [range_sum_or hz, sumS_mask hn'.1 fun x hx => hM x (List.mem_append_left _ hx), sumS_mask hn'.2.1 fun x hx => hM x (List.mem_append_right _ hx), ← Nat.add_assoc] at this
    rw [maskL_append]
    exact this
theorem maskL_full {M A : List Nat} (hn : M.Nodup) (h : A.Perm M) : maskL M A = 2 ^ M.length - 1 := by
  refine Nat.eq_of_testBit_eq fun i => ?_
  rw [maskL_bit, Nat.testBit_two_pow_sub_one]
  by_cases hi : i < M.length
  · rw [decide_eq_true hi, List.any_eq_true]
    exact ⟨M[i], h.mem_iff.mpr (List.getElem_mem hi), by simp [hn.idxOf_getElem i hi]⟩
  · rw [decide_eq_false hi]
    refine Bool.eq_false_iff.mpr fun q => ?_
    rw [List.any_eq_true] at q
    obtain ⟨a, ha, e⟩ := q
    have := List.idxOf_lt_length_of_mem (h.mem_iff.mp ha)
    simp at e
    omega
theorem wsS_full (cnt : Nat → Nat) (M : List Nat) : wsS (wOf cnt M) M.length (2 ^ M.length - 1) = M.map cnt := by
  unfold wsS
  have e : ((List.range M.length).filter fun i => (2 ^ M.length - 1).testBit i) = List.range M.length := by
    rw [List.filter_eq_self]
    intro i hi
    rw [Nat.testBit_two_pow_sub_one]
    exact decide_eq_true (List.mem_range.mp hi)
  rw [e]
  refine List.ext_getElem (by simp) fun i h1 h2 => ?_
  simp only [List.length_map] at h2
  simp [wOf, List.getD, h2]
/-- Huffman's tree weighs what the least says -/
theorem huff_eq {cnt : Nat → Nat} {M M' : List Nat} {N L : Nat} {t : Tree} (hn : M.Nodup) (hN : M.length ≤ N) (hp : M'.Perm M) (F : FI cnt M' N [t]) (G : Good (wOf cnt M) M.length (2 ^ M.length - 1) L) : wdep cnt t.2 = L := by
  obtain ⟨f1, f2, f3, f4, f5, f6⟩ := F.last
  have hA := f1.trans hp
  have hT := f5.toS (M := M) (hA.nodup_iff.mpr hn) fun a ha => hA.mem_iff.mp ha
  rw [maskL_full hn hA] at hT
  have h1 := G.2 _ hT
  obtain ⟨P, p1, p2, p3, p4, p5⟩ := G.1.depths hN
  rw [wsS_full] at p1
  have h2 := f6 P (p1.trans (hp.symm.map cnt)) ⟨fun d hd => by have := p2 d hd; omega, by show kr N (dps P) ≤ _; rw [p3]; exact Nat.le_refl _⟩
  omega
end Lay

/- part HM5 -/
namespace Lay
/- the table of sums -/
def SumsOk (W : Nat → Nat) (j : Nat) (s : List Nat) : Prop := s.length = 2 ^ j ∧ ∀ S < 2 ^ j, s.getD S 0 = sumS W j S
theorem sumS_succ (W : Nat → Nat) (j S : Nat) : sumS W (j + 1) S = sumS W j S + if S.testBit j then W j else 0 := by
  unfold sumS
  rw [List.range_succ, List.map_append, List.sum_append_nat]
  simp
theorem sumS_congr (W : Nat → Nat) {j S T : Nat} (h : ∀ i < j, S.testBit i = T.testBit i) : sumS W j S = sumS W j T := by
  unfold sumS
  congr 1
  refine List.map_congr_left fun i hi => ?_
  rw [h i (List.mem_range.mp hi)]
theorem SumsOk.zero (W : Nat → Nat) : SumsOk W 0 [0] := ⟨rfl, fun S h => by
  have : S = 0 := by simpa using h
  subst this
  rfl⟩
theorem SumsOk.step {W : Nat → Nat} {j : Nat} {s : List Nat} (h : SumsOk W j s) : SumsOk W (j + 1) (s ++ s.map fun x => x + W j) := by
  obtain ⟨h1, h2⟩ := h
  refine ⟨by rw [List.length_append, List.length_map, h1, Nat.pow_succ]; omega, fun S hS => ?_⟩
  rw [sumS_succ]
  by_cases q : S < 2 ^ j
  · rw [Nat.testBit_lt_two_pow q, if_neg (by decide), Nat.add_zero, ← h2 S q]
    simp [List.getD, List.getElem?_append, h1, q]
  · rw [Nat.pow_succ] at hS
    obtain ⟨T, rfl⟩ : ∃ T, S = 2 ^ j + T := ⟨S - 2 ^ j, by omega⟩
    have hT : T < 2 ^ j := by omega
    rw [Nat.testBit_two_pow_add_eq, Nat.testBit_lt_two_pow hT]
    have e : sumS W j (2 ^ j + T) = sumS W j T := sumS_congr W fun i hi => Nat.testBit_two_pow_add_gt hi T
    rw [e, ← h2 T hT]
    simp [List.getD, List.getElem?_append, h1, hT]
/-- the table of the least: good below k, nought from k on -/
structure TabGood (W : Nat → Nat) (m k : Nat) (l : List Nat) : Prop where
  len : l.length = 2 ^ m
  good : ∀ S, 0 < S → S < k → Good W m S (l.getD S 0)
  zero : ∀ S, k ≤ S → l.getD S 0 = 0
theorem TabGood.start (W : Nat → Nat) (m : Nat) : TabGood W m 1 (List.replicate (2 ^ m) 0) where
  len := by simp
  good S h0 h1 := by omega
  zero S _ := by simp [List.getD, List.getElem?_replicate]; split <;> rfl
theorem TabGood.skip {W : Nat → Nat} {m k : Nat} {l : List Nat} (T : TabGood W m k l) (hm : m ≤ 6) (h0 : 0 < k) (hk : k < 2 ^ m) (h : parts k = []) : TabGood W m (k + 1) l where
  len := T.len
  good S s0 s1 := by
    by_cases q : S = k
    · subst q
      rw [T.zero S (Nat.le_refl _)]
      exact good_one hm s0 hk h
    · exact T.good S s0 (by omega)
  zero S hS := T.zero S (by omega)
theorem TabGood.set {W : Nat → Nat} {m k b : Nat} {l : List Nat} (T : TabGood W m k l) (hm : m ≤ 6) (hk : k < 2 ^ m) (h : bestF (fun x => l.getD x 0) k (parts k) = some b) : TabGood W m (k + 1) (l.set k (b + sumS W m k)) where
  len := by rw [List.length_set, T.len]
  good S s0 s1 := by
    by_cases q : S = k
    · subst q
      have e : (l.set S (b + sumS W m S)).getD S 0 = b + sumS W m S := by simp [List.getD, T.len, hk]
      rw [e]
      exact good_step hm hk (fun t t0 t1 => T.good t t0 t1) h
    · have e : (l.set k (b + sumS W m k)).getD S 0 = l.getD S 0 := by simp [List.getD, List.getElem?_set, Ne.symm q]
      rw [e]
      exact T.good S s0 (by omega)
  zero S hS := by
    have e : (l.set k (b + sumS W m k)).getD S 0 = l.getD S 0 := by simp [List.getD, List.getElem?_set, show k ≠ S by omega]
    rw [e]
    exact T.zero S (by omega)
/-- the parts in turn -/
theorem partsFrom_next {f p rest : Nat} (hp : p ≠ 0) (hf : p ≤ f) : ∃ f', f = f' + 1 ∧ (p - 1) &&& rest ≤ f' ∧ partsFrom f p rest = p :: partsFrom f' ((p - 1) &&& rest) rest := by
  obtain ⟨f', rfl⟩ : ∃ f', f = f' + 1 := ⟨f - 1, by omega⟩
  refine ⟨f', rfl, Nat.le_trans Nat.and_le_left (by omega), ?_⟩
  conv => lhs; unfold partsFrom
  rw [if_neg hp]
theorem partsFrom_zero {f rest : Nat} : partsFrom f 0 rest = [] := by
  cases f <;> rfl
theorem bestF_snoc {l : Nat → Nat} {S p : Nat} : ∀ {ps : List Nat}, bestF l S (ps ++ [p]) = (match bestF l S ps with
    | none => some (l p + l (S - p))
    | some b => if l p + l (S - p) < b then some (l p + l (S - p)) else some b)
  | [] => rfl
  | q :: ps => by
    have ih := bestF_snoc (l := l) (S := S) (p := p) (ps := ps)
    rw [List.cons_append]
    unfold bestF
    rw [ih]
    cases e : bestF l S ps with
    | none =>
      dsimp only
      by_cases h : l p + l (S - p) < l q + l (S - q)
      · rw [if_pos h]; congr 1; omega
      · rw [if_neg h]; congr 1; omega
    | some b =>
      dsimp only
      by_cases h : l p + l (S - p) < b
      · rw [if_pos h]
        dsimp only
        by_cases h' : l p + l (S - p) < min b (l q + l (S - q))
        · rw [if_pos h']; congr 1; omega
        · rw [if_neg h']; congr 1; omega
      · rw [if_neg h]
        dsimp only
        by_cases h' : l p + l (S - p) < min b (l q + l (S - q))
        · omega
        · rw [if_neg h']
theorem parts_lt : ∀ S < 64, restF S < 64 := by decide +kernel
end Lay

/- part HM6 -/
namespace Lay
/- the words: rows of number, size, mark -/
abbrev Code := Nat × Nat × Nat
abbrev CSt := List Code × Nat × Nat
/-- codes so far, the next number, the last size; p: size and mark -/
def stepC (st : CSt) (p : Nat × Nat) : CSt := (st.1 ++ [(st.2.1 * 2 ^ (p.1 - st.2.2), p.1, p.2)], st.2.1 * 2 ^ (p.1 - st.2.2) + 1, p.1)
def loC (N : Nat) (c : Code) : Nat := c.1 * 2 ^ (N - c.2.1)
def hiC (N : Nat) (c : Code) : Nat := (c.1 + 1) * 2 ^ (N - c.2.1)
structure CI (N : Nat) (pre : List (Nat × Nat)) (st : CSt) : Prop where
  row : st.1.map (fun c => (c.2.1, c.2.2)) = pre
  num : st.2.1 * 2 ^ (N - st.2.2) = kr N (pre.map (·.1))
  big : ∀ p ∈ pre, p.1 ≤ st.2.2
  last : st.2.2 ≤ N
  apart : st.1.Pairwise fun c c' => hiC N c ≤ loC N c'
  top : ∀ c ∈ st.1, hiC N c ≤ kr N (pre.map (·.1))
theorem CI.start {N s : Nat} (h : s ≤ N) : CI N [] ([], 0, s) := ⟨rfl, by simp [kr], by simp, h, .nil, by simp⟩
theorem pow_split {N a b : Nat} (h : a ≤ b) (hN : b ≤ N) : 2 ^ (N - a) = 2 ^ (b - a) * 2 ^ (N - b) := by rw [← Nat.pow_add]; congr 1; omega
theorem CI.step {N : Nat} {pre : List (Nat × Nat)} {st : CSt} (C : CI N pre st) {p : Nat × Nat} (h : st.2.2 ≤ p.1) (hN : p.1 ≤ N) : CI N (pre ++ [p]) (stepC st p) := by
  have hk : kr N ((pre ++ [p]).map (·.1)) = kr N (pre.map (·.1)) + 2 ^ (N - p.1) := by rw [List.map_append, kr_append]; simp [kr]
  have hlo : st.2.1 * 2 ^ (p.1 - st.2.2) * 2 ^ (N - p.1) = kr N (pre.map (·.1)) := by
    rw [Nat.mul_assoc, ← pow_split h hN, C.num]
  have hhi : (st.2.1 * 2 ^ (p.1 - st.2.2) + 1) * 2 ^ (N - p.1) = kr N (pre.map (·.1)) + 2 ^ (N - p.1) := by
    rw [Nat.add_mul, hlo, Nat.one_mul]
  refine ⟨?_, ?_, fun q hq => ?_, hN, ?_, fun c hc => ?_⟩
  · unfold stepC
    rw [List.map_append, C.row]
    rfl
  · rw [hk]; exact hhi
  · rcases List.mem_append.mp hq with e | e
    · exact Nat.le_trans (C.big q e) h
    · rw [List.mem_singleton.mp e]; exact Nat.le_refl _
  · unfold stepC
    rw [List.pairwise_append]
    refine ⟨C.apart, List.pairwise_singleton .., fun a ha b hb => ?_⟩
    rw [List.mem_singleton.mp hb]
    refine Nat.le_trans (C.top a ha) ?_
    show _ ≤ st.2.1 * 2 ^ (p.1 - st.2.2) * 2 ^ (N - p.1)
    rw [hlo]
    exact Nat.le_refl _
  · rw [hk]
    rcases List.mem_append.mp hc with e | e
    · exact Nat.le_trans (C.top c e) (Nat.le_add_right ..)
    · rw [List.mem_singleton.mp e]
      exact Nat.le_of_eq hhi
/-- what reading stands on -/
structure CK (N : Nat) (cs : List Code) : Prop where
  apart : cs.Pairwise fun c c' => hiC N c ≤ loC N c'
  small : ∀ c ∈ cs, c.2.1 ≤ N ∧ c.1 < 2 ^ c.2.1
theorem lt_of_hi {N : Nat} {c : Code} (hN : c.2.1 ≤ N) (h : hiC N c ≤ 2 ^ N) : c.1 < 2 ^ c.2.1 := by
  unfold hiC at h
  have e : 2 ^ N = 2 ^ c.2.1 * 2 ^ (N - c.2.1) := by rw [← Nat.pow_add]; congr 1; omega
  rw [e] at h
  exact Nat.le_of_mul_le_mul_right h (Nat.two_pow_pos _)
theorem CI.ck {N : Nat} {pre : List (Nat × Nat)} {st : CSt} (C : CI N pre st) (h : kr N (pre.map (·.1)) ≤ 2 ^ N) : CK N st.1 := by
  refine ⟨C.apart, fun c hc => ?_⟩
  have h1 : c.2.1 ≤ N := by
    have : (c.2.1, c.2.2) ∈ pre := by rw [← C.row]; exact List.mem_map_of_mem hc
    exact Nat.le_trans (C.big _ this) C.last
  exact ⟨h1, lt_of_hi h1 (Nat.le_trans (C.top c hc) h)⟩
theorem pow_inj {a b x y : Nat} (hx : x < 2 ^ a) (hy : y < 2 ^ b) (h : 2 ^ a + x = 2 ^ b + y) : a = b ∧ x = y := by
  have hab : a = b := by
    rcases Nat.lt_trichotomy a b with q | q | q
    · have : 2 ^ (a + 1) ≤ 2 ^ b := Nat.pow_le_pow_right (by decide) q
      rw [Nat.pow_succ] at this; omega
    · exact q
    · have : 2 ^ (b + 1) ≤ 2 ^ a := Nat.pow_le_pow_right (by decide) q
      rw [Nat.pow_succ] at this; omega
  subst hab
  exact ⟨rfl, by omega⟩
theorem clash {N : Nat} {c c' : Code} (hc : c.1 < 2 ^ c.2.1) (h' : c'.1 < 2 ^ c'.2.1) (hN : c'.2.1 ≤ N) {j : Nat} (hj : j ≤ c'.2.1) (e : 2 ^ c.2.1 + c.1 = 2 ^ j + c'.1 / 2 ^ (c'.2.1 - j)) :
    c.2.1 = j ∧ loC N c ≤ loC N c' ∧ loC N c' < hiC N c := by
  have hq : c'.1 / 2 ^ (c'.2.1 - j) < 2 ^ j := by
    rw [Nat.div_lt_iff_lt_mul (Nat.two_pow_pos _), ← Nat.pow_add]
    rw [show j + (c'.2.1 - j) = c'.2.1 by omega]; exact h'
  obtain ⟨e1, e2⟩ := pow_inj hc hq e
  refine ⟨e1, ?_, ?_⟩
  · unfold loC
    rw [e1, e2, pow_split hj hN, ← Nat.mul_assoc]
    exact Nat.mul_le_mul_right _ (Nat.div_mul_le_self ..)
  · unfold loC hiC
    rw [e1, e2, pow_split hj hN, ← Nat.mul_assoc]
    refine Nat.mul_lt_mul_of_pos_right ?_ (Nat.two_pow_pos _)
    rw [Nat.mul_comm]
    exact Nat.lt_mul_div_succ c'.1 (Nat.two_pow_pos _)
theorem pw_or {α : Type} {R : α → α → Prop} : ∀ {l : List α}, l.Pairwise R → ∀ a ∈ l, ∀ b ∈ l, a = b ∨ R a b ∨ R b a
  | [], _, a, h, _, _ => by cases h
  | x :: l, hp, a, ha, b, hb => by
    rw [List.pairwise_cons] at hp
    rcases List.mem_cons.mp ha with e | e <;> rcases List.mem_cons.mp hb with e' | e'
    · exact .inl (e.trans e'.symm)
    · rw [e]; exact .inr (.inl (hp.1 b e'))
    · rw [e']; exact .inr (.inr (hp.1 a e))
    · exact pw_or hp.2 a e b e'
theorem lo_hi (N : Nat) (c : Code) : loC N c < hiC N c := by
  unfold loC hiC
  exact Nat.mul_lt_mul_of_pos_right (Nat.lt_succ_self _) (Nat.two_pow_pos _)
theorem CK.same {N : Nat} {cs : List Code} (K : CK N cs) {c c' : Code} (hc : c ∈ cs) (hc' : c' ∈ cs) {j : Nat} (hj : j ≤ c'.2.1) (e : 2 ^ c.2.1 + c.1 = 2 ^ j + c'.1 / 2 ^ (c'.2.1 - j)) : c = c' ∧ c'.2.1 = j := by
  obtain ⟨a1, a2⟩ := K.small c hc
  obtain ⟨b1, b2⟩ := K.small c' hc'
  obtain ⟨e1, e2, e3⟩ := clash a2 b2 b1 hj e
  have : c = c' := by
    rcases pw_or K.apart c hc c' hc' with q | q | q
    · exact q
    · omega
    · have := lo_hi N c'; omega
  subst this
  exact ⟨rfl, e1⟩
/-- the book's look-up -/
def dec (cs : List Code) (k : Nat) : Option Nat := (cs.find? fun c => decide (2 ^ c.2.1 + c.1 = k)).map fun c => c.2.2
theorem CK.dec_none {N : Nat} {cs : List Code} (K : CK N cs) {c' : Code} (hc' : c' ∈ cs) {j : Nat} (hj : j < c'.2.1) : dec cs (2 ^ j + c'.1 / 2 ^ (c'.2.1 - j)) = none := by
  unfold dec
  rw [Option.map_eq_none_iff, List.find?_eq_none]
  intro c hc h
  have := (K.same hc hc' (Nat.le_of_lt hj) (of_decide_eq_true h)).2
  omega
theorem CK.dec_some {N : Nat} {cs : List Code} (K : CK N cs) {c' : Code} (hc' : c' ∈ cs) : dec cs (2 ^ c'.2.1 + c'.1) = some c'.2.2 := by
  unfold dec
  cases h : cs.find? fun c => decide (2 ^ c.2.1 + c.1 = 2 ^ c'.2.1 + c'.1) with
  | none =>
    rw [List.find?_eq_none] at h
    exact absurd (decide_eq_true rfl) (h c' hc')
  | some c =>
    have h1 := List.find?_some h
    have h2 := List.mem_of_find?_eq_some h
    have := (K.same h2 hc' (Nat.le_refl _) (by rw [Nat.sub_self, Nat.pow_zero, Nat.div_one]; exact of_decide_eq_true h1)).1
    rw [this]; rfl
/-- a new code's key is none of the old ones -/
theorem CK.dec_new {N : Nat} {cs : List Code} {c' : Code} (K : CK N (cs ++ [c'])) : dec cs (2 ^ c'.2.1 + c'.1) = none := by
  unfold dec
  rw [Option.map_eq_none_iff, List.find?_eq_none]
  intro c hc h
  have := (K.same (c := c) (c' := c') (by simp [hc]) (by simp) (Nat.le_refl _) (by rw [Nat.sub_self, Nat.pow_zero, Nat.div_one]; exact of_decide_eq_true h)).1
  have h2 := (List.pairwise_append.mp K.apart).2.2 c hc c' (.head _)
  rw [this] at h2
  have := lo_hi N c'
  omega
/-- a word -/
def bitsN (n s : Nat) : List Nat := (List.range s).map fun j => n / 2 ^ (s - 1 - j) % 2
def word (cs : List Code) (m : Nat) : List Nat := match cs.find? fun c => decide (c.2.2 = m) with
  | some c => bitsN c.1 c.2.1
  | none => []
def szOf (cs : List Code) (m : Nat) : Nat := match cs.find? fun c => decide (c.2.2 = m) with
  | some c => c.2.1
  | none => 0
theorem word_len (cs : List Code) (m : Nat) : (word cs m).length = szOf cs m := by
  unfold word szOf
  split <;> simp [bitsN]
def readF (cs : List Code) (st : List Nat × Nat) (bit : Nat) : List Nat × Nat := match dec cs (2 * st.2 + bit) with
  | some m => (st.1 ++ [m], 1)
  | none => (st.1, 2 * st.2 + bit)
theorem read_bits {N : Nat} {cs : List Code} (K : CK N cs) {c : Code} (hc : c ∈ cs) (told : List Nat) : ∀ j, j < c.2.1 → (((List.range j).map fun i => c.1 / 2 ^ (c.2.1 - 1 - i) % 2).foldl (readF cs) (told, 1)) = (told, 2 ^ j + c.1 / 2 ^ (c.2.1 - j))
  | 0, _ => by
    have := (K.small c hc).2
    rw [Nat.sub_zero, Nat.div_eq_of_lt this]
    rfl
  | j + 1, h => by
    have ih := read_bits K hc told j (by omega)
    rw [List.range_succ, List.map_append, List.foldl_append, ih, List.map_singleton, List.foldl_cons, List.foldl_nil]
    have e : 2 * (2 ^ j + c.1 / 2 ^ (c.2.1 - j)) + c.1 / 2 ^ (c.2.1 - 1 - j) % 2 = 2 ^ (j + 1) + c.1 / 2 ^ (c.2.1 - (j + 1)) := by
      rw [show c.2.1 - 1 - j = c.2.1 - (j + 1) by omega, show c.2.1 - j = (c.2.1 - (j + 1)) + 1 by omega, Nat.pow_succ, Nat.pow_succ, ← Nat.div_div_eq_div_mul]
      omega
    unfold readF
    dsimp only
    rw [e, K.dec_none hc h]
theorem read_word {N : Nat} {cs : List Code} (K : CK N cs) {c : Code} (hc : c ∈ cs) (h1 : 1 ≤ c.2.1) (told : List Nat) : (bitsN c.1 c.2.1).foldl (readF cs) (told, 1) = (told ++ [c.2.2], 1) := by
  obtain ⟨j, hj⟩ : ∃ j, c.2.1 = j + 1 := ⟨c.2.1 - 1, by omega⟩
  unfold bitsN
  have hr : List.range c.2.1 = List.range j ++ [j] := by rw [hj, List.range_succ]
  rw [hr, List.map_append, List.foldl_append, read_bits K hc told j (by omega), List.map_singleton, List.foldl_cons, List.foldl_nil]
  have e : 2 * (2 ^ j + c.1 / 2 ^ (c.2.1 - j)) + c.1 / 2 ^ (c.2.1 - 1 - j) % 2 = 2 ^ c.2.1 + c.1 := by
    rw [hj, show j + 1 - 1 - j = 0 by omega, show j + 1 - j = 1 by omega, Nat.pow_succ]
    omega
  unfold readF
  dsimp only
  rw [e, K.dec_some hc]
theorem find_mark {cs : List Code} {c : Code} (hn : (cs.map fun c => c.2.2).Nodup) (hc : c ∈ cs) : (cs.find? fun x => decide (x.2.2 = c.2.2)) = some c := by
  induction cs with
  | nil => cases hc
  | cons x cs ih =>
    rw [List.map_cons, List.nodup_cons] at hn
    rw [List.find?_cons]
    rcases List.mem_cons.mp hc with e | e
    · subst e; simp
    · have : x.2.2 ≠ c.2.2 := fun q => hn.1 (by rw [q]; exact List.mem_map_of_mem e)
      rw [decide_eq_false this]
      exact ih hn.2 e
theorem read_text {N : Nat} {cs : List Code} (K : CK N cs) (hn : (cs.map fun c => c.2.2).Nodup) (h1 : ∀ c ∈ cs, 1 ≤ c.2.1) : ∀ (text told : List Nat), (∀ m ∈ text, m ∈ cs.map fun c => c.2.2) → (text.flatMap (word cs)).foldl (readF cs) (told, 1) = (told ++ text, 1)
  | [], told, _ => by simp
  | m :: text, told, h => by
    obtain ⟨c, hc, rfl⟩ := List.mem_map.mp (h m (.head _))
    rw [List.flatMap_cons, List.foldl_append]
    have e : word cs c.2.2 = bitsN c.1 c.2.1 := by unfold word; rw [find_mark hn hc]
    rw [e, read_word K hc (h1 c hc) told, read_text K hn h1 text _ fun x hx => h x (.tail _ hx)]
    simp
theorem sum_count {f : Nat → Nat} : ∀ {M text : List Nat}, M.Nodup → (∀ x ∈ text, x ∈ M) → (text.map f).sum = (M.map fun k => text.count k * f k).sum
  | M, [], hn, _ => by
    have : ∀ l : List Nat, (l.map fun k => ([] : List Nat).count k * f k).sum = 0 := fun l => by
      induction l with
      | nil => rfl
      | cons x l ih => rw [List.map_cons, List.sum_cons, ih]; simp
    rw [this]; rfl
  | M, x :: text, hn, h => by
    rw [List.map_cons, List.sum_cons, sum_count hn fun y hy => h y (.tail _ hy)]
    obtain ⟨S, T, e⟩ := List.append_of_mem (h x (.head _))
    have hp : M.Perm (x :: (S ++ T)) := by rw [e]; exact List.perm_middle
    have hn' := hp.nodup_iff.mp hn
    rw [List.nodup_cons] at hn'
    rw [(hp.map _).sum_nat, (hp.map fun k => (x :: text).count k * f k).sum_nat, List.map_cons, List.map_cons, List.sum_cons, List.sum_cons]
    have e2 : ((S ++ T).map fun k => (x :: text).count k * f k) = ((S ++ T).map fun k => text.count k * f k) := by
      refine List.map_congr_left fun k hk => ?_
      rw [List.count_cons_of_ne fun q => hn'.1 (by rw [q]; exact hk)]
    rw [e2, List.count_cons_self, Nat.add_mul, Nat.one_mul]
    omega
end Lay

/- part RS -/
open PySem PySem.W PyProof.Rows
namespace Lay
theorem filterMap_some {α β : Type} {f : α → Option β} {g : α → β} : ∀ {l : List α}, (∀ x ∈ l, f x = some (g x)) → l.filterMap f = l.map g
  | [], _ => rfl
  | x :: l, h => by rw [List.filterMap_cons, h x (.head _), List.map_cons, filterMap_some fun y hy => h y (.tail _ hy)]
theorem pickL_two {α : Type} (x y : α) (tl : List α) : pickL (x :: y :: tl) (some 2) none none = tl := by
  have e : sliceBounds (some 2) none none (x :: y :: tl).length = (2, (tl.length : Int) + 2, 1) := by
    unfold sliceBounds
    simp only [List.length_cons, Option.getD_none, Int.zero_lt_one, gt_iff_lt, if_true]
    refine Prod.ext ?_ (Prod.ext ?_ rfl)
    · show max 0 (min (if (2 : Int) < 0 then _ else (2 : Int)) _) = 2
      rw [if_neg (by decide)]; omega
    · show ((tl.length + 1 + 1 : Nat) : Int) = (tl.length : Int) + 2
      omega
  unfold pickL
  rw [e]
  have er : sliceRange 2 ((tl.length : Int) + 2) 1 = (List.range tl.length).map fun k => k + 2 := by
    unfold sliceRange
    rw [if_pos (by decide)]
    have : (if (2 : Int) < (tl.length : Int) + 2 then ((tl.length : Int) + 2 - 2 + 1 - 1) / 1 else 0).toNat = tl.length := by
      split <;> omega
    dsimp only
    rw [this]
    refine List.map_congr_left fun k _ => ?_
    omega
  show List.filterMap _ (sliceRange 2 ((tl.length : Int) + 2) 1) = tl
  rw [er, List.filterMap_map]
  show List.filterMap (fun k => tl[k]?) (List.range tl.length) = tl
  cases tl with
  | nil => rfl
  | cons z zs =>
    rw [filterMap_some (g := fun k => (z :: zs).getD k z) fun k hk => by
      have := List.mem_range.mp hk
      simp only [List.length_cons] at this
      simp [List.getD, this]]
    refine List.ext_getElem (by simp) fun i h1 h2 => ?_
    simp only [List.length_cons] at h2
    simp [List.getD, h2]
theorem pickL_rev {α : Type} (l : List α) : pickL l none none (some (-1)) = l.reverse := by
  have e : sliceBounds none none (some (-1)) l.length = ((l.length : Int) - 1, -1, -1) := rfl
  unfold pickL
  rw [e]
  have er : sliceRange ((l.length : Int) - 1) (-1) (-1) = (List.range l.length).map fun k => l.length - 1 - k := by
    unfold sliceRange
    rw [if_neg (by decide)]
    have : (if (l.length : Int) - 1 > -1 then ((l.length : Int) - 1 - (-1) - (-1) - 1) / (- (-1)) else 0).toNat = l.length := by
      rw [show (- (-1) : Int) = 1 from rfl, Int.ediv_one]
      split <;> omega
    dsimp only
    rw [this]
    refine List.map_congr_left fun k _ => ?_
    omega
  show List.filterMap _ (sliceRange ((l.length : Int) - 1) (-1) (-1)) = l.reverse
  rw [er, List.filterMap_map]
  cases l with
  | nil => rfl
  | cons z zs =>
    rw [filterMap_some (g := fun k => (z :: zs).reverse.getD k z) fun k hk => by
      have := List.mem_range.mp hk
      simp only [List.length_cons] at this
      have h3 : zs.length - k < zs.length + 1 := by omega
      simp only [Function.comp, List.length_cons, List.getD]
      rw [List.getElem?_reverse (by simp; omega)]
      simp only [List.length_cons]
      rw [List.getElem?_eq_getElem (by simp; omega)]
      simp]
    refine List.ext_getElem (by simp) fun i h1 h2 => ?_
    rw [List.getElem_map, List.getElem_range]
    rw [List.getD, List.getElem?_eq_getElem h2, Option.getD_some]
end Lay

/- part RW1 -/
open PySem PySem.W PyProof.Rows
set_option Elab.async false
set_option linter.unusedVariables false
set_option maxRecDepth 100000
set_option maxHeartbeats 0
namespace Lay
variable {X : Cx} {n : Nat} {ρ : Rho} {μ : Mu}
/- the look of a name -/
local macro_rules | `(tactic| walk_at "lay rho") => `(tactic| first
  | rfl
  | assumption
  | exact rset_self ..
  | (refine (rset_ne _ _ (by decide)).trans ?_; walk_at "lay rho"))
local macro_rules | `(tactic| walk_at "lay kept") => `(tactic| first | exact .inl rfl | exact keptC rfl)
local macro_rules | `(tactic| walk_at "lay name") => `(tactic| first
  | refine Ev.name (by walk_at "lay rho") ?_
  | refine Ev.nameC (by walk_at "lay rho") ?_
  | refine Ev.nameC ((cRho_of rfl).trans (by walk_at "lay rho")) ?_
  | refine Ev.glo (by assumption) ?_)
local macro_rules | `(tactic| walk_at "lay step") => `(tactic| first
  | with_reducible refine Ex.cons ?_
  | with_reducible refine Ex.nil ?_
  | with_reducible refine Ex1.ret ?_
  | with_reducible refine Ex1.ite ?_
  | ((with_reducible refine Ex1.append ?y1 ?y2 ?y3 ?y4 ?y5 ?y6 ?y7); (case y2 => rfl); (case y3 => rfl); (case y4 => rfl); (case y5 => rfl); (case y6 => rfl); (case y7 => rfl))
  | ((with_reducible refine Ex1.asg ?y1 ?y2 ?y3 ?y4); (case y2 => rfl); (case y3 => rfl); (case y4 => rfl))
  | ((with_reducible refine AsgP.name ?y1 ?y2); (case y1 => walk_at "lay kept"))
  | ((with_reducible refine AsgP.tup ?y1 ?y2 ?y3); (case y1 => rfl); (case y3 => exact names_each rfl))
  | with_reducible refine AsgL.more ?_
  | with_reducible refine AsgL.done ?_
  | with_reducible refine Ev.int ?_
  | with_reducible refine Ev.none ?_
  | with_reducible refine Ev.bool ?_
  | ((with_reducible refine (?_ : Ev _ _ _ (.Name _ _) _ _ _)); walk_at "lay name")
  | with_reducible refine Ev.bin ?_
  | with_reducible refine Ev.una ?_
  | with_reducible refine Ev.slice ?_
  | with_reducible refine Ev.sub ?_
  | with_reducible refine Ev.ifx ?_
  | with_reducible refine Ev.tup ?_
  | ((with_reducible refine Ev.cmp ?y1 ?y2); (case y2 => with_unfolding_all rfl))
  | ((with_reducible refine Ev.call ?y1 ?y2 ?y3 ?y4); (case y2 => rfl); (case y3 => rfl); (case y4 => rfl))
  | ((with_reducible refine EvL.cons ?y1 ?y2); (case y2 => rfl))
  | with_reducible refine EvL.nil ?_
  | ((with_reducible refine (?_ : Ev _ _ _ (.List (_ :: _) _) _ _ _)); refine Ev.lst ?_)
  | ((with_reducible refine (?_ : Small _ ∧ _)); refine ⟨Nat.le_of_ble_eq_true rfl, ?_⟩)
  | ((with_reducible refine (?_ : ∃ vf, D.raw _ = .raw vf ∧ KeepOk _ vf ∧ _)); refine ⟨_, rfl, (by first | exact KeepOk.builtin _ | exact KeepOk.type _ | assumption), ?_⟩)
  | with_reducible refine CallP.range1 ?_
  | with_reducible refine CallP.range2 ?_
  | with_reducible refine CallP.min2 ?_
  | ((with_reducible refine Sub.tup (d := ?dd) ?y1 ?y2 ?y3 ?y4 ?y5); (case y1 => decide); (case y2 => decide); (case y3 => rfl); (case y5 => (intro _ _; with_unfolding_all rfl)))
  | with_reducible refine Tr.not ?_
  | with_reducible refine Tr.boolop ?_
  | ((with_reducible refine Tr.cmp ?y1 ?y2); (case y2 => with_unfolding_all rfl))
  | with_reducible refine Tru.bool ?_
  | with_reducible refine Bin.add ?_
  | with_reducible refine Bin.sub ?_
  | with_reducible refine Cmp.eq ?_
  | with_reducible refine Cmp.ne ?_
  | with_reducible refine Cmp.lt ?_
  | with_reducible refine Cmp.gt ?_
  | with_reducible refine Cmp.le ?_
  | with_reducible refine Cmp.ge ?_
  | with_reducible refine Una.neg ?_)
local macro_rules | `(tactic| walk_at "lay step") => `(tactic| first
  | with_reducible refine TrL.and ?_
  | with_reducible refine TrL.or ?_
  | with_reducible refine TrL.andNil ?_
  | with_reducible refine TrL.orNil ?_
  | ((with_reducible refine Bin.floordiv ?y1 ?y2 ?y3); (case y1 => decide); (case y2 => exact PyProof.noPylong_small (by decide)))
  | ((with_reducible refine Bin.mod ?y1 ?y2); (case y1 => decide)))
local macro_rules | `(tactic| walk_at "lay step") => `(tactic| ((with_reducible refine Ex1.setitem ?y1 ?y2); (case y2 => rfl)))
def stReduce : Stmt := stmtAt PX 3
theorem reduce_walk {a am : Addr} {om : Obj} {pm cd doc dV kV ct : Value} {an : Option Addr} {dseq d₀ : D} {T : Addr} {oT : Obj} {kT : Nat} {vf : Value} {ds : List D} {Q : D → Mu → Prop}
    (O : FnOk X a (fdOf stReduce pm cd doc (.ref T) kV ct an) (fBody stReduce)) (hT : X.h₁.get? T = some oT) (hTd : oT.data = .seq #[.ref am] kT) (hTt : T ≠ X.tb) (htb : ∃ o, X.h₁.get? X.tb = some o)
    (gi : GloF X "iter" (.builtin "iter")) (gm : GloF X "_initial_missing" (.ref am))
    (hm : X.h₁.get? am = some om) (hmt : am ≠ X.tb) (hc1 : om.cls ≠ .type "tuple") (hc2 : om.cls ≠ .type "list")
    (hseq : IterC X μ dseq ds) (hd : (∃ l, d₀ = .tup l) ∨ ∃ l, d₀ = .lst l) (hk : KeepOk X vf) (h : FoldP X n vf ds d₀ μ Q) : CallP X (n + 1) (.ref a) [.raw vf, dseq, d₀] μ Q := by
  refine CallP.fn (names := ["function", "sequence", "initial"]) (dvs := []) O (fun s vs hB hl => ?_) (fun x hx => ?_) fun L => ?_
  · obtain ⟨v1, v2, v3, rfl⟩ : ∃ v1 v2 v3, vs = [v1, v2, v3] := by
      match vs, hl with
      | [v1, v2, v3], _ => exact ⟨v1, v2, v3, rfl⟩
    exact BindsTo.of_defaults (T := T) (o := oT) (items := #[.ref am]) (n := kT) rfl (hB T oT hT hTt) hTd rfl rfl
  · left
    revert x
    show ∀ x ∈ (["function", "sequence", "initial"] : List Str), (fScope stReduce).names.lookup x = some .local
    decide
  · obtain ⟨body, hb⟩ : ∃ b, b = fBody stReduce := ⟨_, rfl⟩
    rw [← hb]
    delta fBody stReduce stmtAt at hb
    dsimp only [PX, PySem.Challenge.pw_dw5008_02, List.getElem?_cons_succ, List.getElem?_cons_zero, Option.getD_some] at hb
    subst hb
    refine Ex.cons (Ex1.asg (Ev.call (Ev.glo gi ⟨_, rfl, .builtin _, EvL.cons (Ev.name (d := dseq) rfl (EvL.nil ?_))⟩)))
    refine CallP.iter hseq htb fun it hit hne => AsgP.name (.inl rfl) ?_
    refine Ex.cons (Ex1.ite (Tr.cmp (Ev.name (d := d₀) rfl (Ev.glo gm (Cmp.isOther hd hm hmt hc1 hc2 (Tru.bool ?_))))))
    rw [if_neg (by decide)]
    refine Ex.cons (Ex1.asg (Ev.name (d := d₀) rfl (AsgP.name (.inl rfl) ?_)))
    refine Ex.nil ?_
    refine Ex.cons (Ex1.forCell (Ev.name (d := .raw (.ref it)) rfl ⟨it, ds, rfl, mput_self, hne, ?_⟩))
    rw [mdel_mput hit]
    refine ForP.inv (fun _ post ρ μ => ∃ acc, ρ "function" = some (.raw vf) ∧ ρ "value" = some acc ∧ FoldP X n vf post acc μ Q) (fun _ d post ρ μ ⟨acc, h1, h2, h⟩ => ?_) (fun _ ρ μ ⟨acc, h1, h2, h⟩ => ?_) ds [] _ _ ⟨d₀, rfl, rfl, h⟩
    · refine AsgP.name (.inl rfl) ?_
      refine Ex.cons (Ex1.asg (Ev.call (Ev.name (d := .raw vf) ((rset_ne _ _ (by decide)).trans h1) ⟨vf, rfl, hk, EvL.cons (Ev.name (d := acc) ((rset_ne _ _ (by decide)).trans h2) (EvL.cons (Ev.name (d := d) (rset_self ..) (EvL.nil ?_))))⟩)))
      refine CallP.mono h fun acc' μ' h' => AsgP.name (.inl rfl) (Ex.nil ?_)
      exact ⟨acc', (rset_ne _ _ (by decide)).trans ((rset_ne _ _ (by decide)).trans h1), rset_self .., h'⟩
    · exact Ex.cons (Ex1.ret (Ev.name (d := acc) h2 h))
theorem mul_ok {a b : Int} (h0 : 0 ≤ a) (h1 : a ≤ 1000000) : IntMulOk a b := IntMulOk.of_left (PySem.intBits_le_64 (by omega) (by omega))
def leafD (p : Nat × Nat) : D := .tup [.int (p.1 : Nat), .int (p.2 : Nat)]
def treeD (t : Tree) : D := .tup [.int (t.1 : Nat), .lst (t.2.map leafD)]
def stHeavier : Stmt := stmtAt PX 6
theorem heavier_walk {a : Addr} {pm cd doc kV ct : Value} {an : Option Addr} {t u : Tree} {Q : D → Mu → Prop}
    (O : FnOk X a (fdOf stHeavier pm cd doc .none kV ct an) (fBody stHeavier)) (h : Q (.int (5 * ((t.1 : Int) - (u.1 : Int)))) μ) :
    CallP X (n + 1) (.ref a) [treeD t, treeD u] μ Q := by
  refine CallP.fn (names := ["one", "other"]) (dvs := []) O (fun s vs hB hl => ?_) (fun x hx => ?_) fun L => ?_
  · obtain ⟨v1, v2, rfl⟩ : ∃ v1 v2, vs = [v1, v2] := by
      match vs, hl with
      | [v1, v2], _ => exact ⟨v1, v2, rfl⟩
    intro M A E Q' hq
    have e : bindArgs (fdOf stHeavier pm cd doc .none kV ct an) ⟨[v1, v2], []⟩ = pure (List.zip (["one", "other"] : List Str) ([v1, v2] ++ [])) := by rfl
    rw [e]
    exact wpAny_pure hq
  · left
    revert x
    show ∀ x ∈ (["one", "other"] : List Str), (fScope stHeavier).names.lookup x = some .local
    decide
  · obtain ⟨body, hb⟩ : ∃ b, b = fBody stHeavier := ⟨_, rfl⟩
    rw [← hb]
    delta fBody stHeavier stmtAt at hb
    dsimp only [PX, PySem.Challenge.pw_dw5008_02, List.getElem?_cons_succ, List.getElem?_cons_zero, Option.getD_some] at hb
    subst hb
    unfold treeD
    repeat walk_at "lay step"
    refine Bin.mul (mul_ok (by decide) (by decide)) ?_
    exact h
/- the sort by weight -/
def wlt (ts : List Tree) (i j : Nat) : Bool := decide (5 * (((ts.getD i (0, [])).1 : Int) - ((ts.getD j (0, [])).1 : Int)) < 0)
theorem wlt_swo (ts : List Tree) : SWO (wlt ts) := ⟨fun i j h => by
  unfold wlt at h ⊢
  rw [decide_eq_true_eq] at h
  rw [decide_eq_false_iff_not]
  omega, fun i j k h h' => by
  unfold wlt at h h' ⊢
  rw [decide_eq_false_iff_not] at h h' ⊢
  omega⟩
theorem pick_perm {α : Type} (ts : List α) (d : α) {p : List Nat} (h : p.Perm (List.range ts.length)) : (p.map fun i => ts.getD i d).Perm ts := by
  refine (h.map _).trans ?_
  have : (List.range ts.length).map (fun i => ts.getD i d) = ts := by
    refine List.ext_getElem (by simp) fun i h1 h2 => ?_
    simp [List.getD, h2]
  rw [this]
theorem wlt_row {ts : List Tree} {p : List Nat} (h : Sorted (wlt ts) ts.length p) : (p.map fun i => ts.getD i (0, [])).Pairwise fun a b => a.1 ≤ b.1 := by
  rw [List.pairwise_map]
  refine h.2.imp fun {i j} hx => ?_
  have := Lx.le (wlt_swo ts) hx
  unfold wlt at this
  rw [decide_eq_false_iff_not] at this
  omega
theorem keys_all {c : Addr} {f : Value} {P : List D → Mu → Prop} (C : Std X) : ∀ (ds ks : List D), P (ks ++ ds.map (inst X c f)) μ → KeysOf X n (.kcl PX X.w.params c f) ds ks μ P
  | [], ks, h => by simpa [KeysOf] using h
  | d :: ds, ks, h => CallD.knew C (keys_all C ds (ks ++ [inst X c f d]) (by simpa using h))
def stJoin : Stmt := stmtAt PX 7
def upD : D → Option D
  | .tup [.int a, .int b] => some (.tup [.int a, .int (b + 1)])
  | _ => .none
theorem upD_map (ls : List (Nat × Nat)) : (ls.map leafD).filterMap upD = (upL ls).map leafD := by
  induction ls with
  | nil => rfl
  | cons p ls ih => rw [List.map_cons, List.filterMap_cons, ih]; rfl
theorem join_walk {m : Nat} {a aK aH c0 : Addr} {fd : FuncData} {mg mb : Str → Option Value} {ps0 : Array Value} {pm cd doc kV ct pm2 cd2 doc2 kV2 ct2 : Value} {an an2 : Option Addr} {ts : List Tree} {dt : D} {Q : D → Mu → Prop}
    (O : FnOk X a (fdOf stJoin pm cd doc .none kV ct an) (fBody stJoin)) (OH : FnOk X aH (fdOf stHeavier pm2 cd2 doc2 .none kV2 ct2 an2) (fBody stHeavier)) (kH : KeepOk X (.ref aH)) (kK : KeepOk X (.ref aK)) (C : CKF X aK c0 fd mg mb ps0)
    (gs : GloF X "sorted" (.builtin "sorted")) (gc : GloF X "cmp_to_key" (.ref aK)) (gh : GloF X "_law_heavier" (.ref aH)) (ht : TabOk X μ) (h2 : 2 ≤ ts.length) (h64 : ts.length < 64) (hz : ∀ t ∈ ts, t.2.length ≤ 1000)
    (h : ∀ r : List Tree, r.Perm ts → r.Pairwise (fun a b => a.1 ≤ b.1) → Q (.lst ((joinF r).map treeD)) (mput μ X.tb (.pred WarmK))) : CallP X (m + 7) (.ref a) [.lst (ts.map treeD), dt] μ Q := by
  refine CallP.fn (names := ["trees", "turn"]) (dvs := []) O (fun s vs hB hl => ?_) (fun x hx => ?_) fun L => ?_
  · obtain ⟨v1, v2, rfl⟩ : ∃ v1 v2, vs = [v1, v2] := by
      match vs, hl with
      | [v1, v2], _ => exact ⟨v1, v2, rfl⟩
    intro M A E Q' hq
    have e : bindArgs (fdOf stJoin pm cd doc .none kV ct an) ⟨[v1, v2], []⟩ = pure (List.zip (["trees", "turn"] : List Str) ([v1, v2] ++ [])) := by rfl
    rw [e]
    exact wpAny_pure hq
  · left
    revert x
    show ∀ x ∈ (["trees", "turn"] : List Str), (fScope stJoin).names.lookup x = some .local
    decide
  · obtain ⟨body, hb⟩ : ∃ b, b = fBody stJoin := ⟨_, rfl⟩
    rw [← hb]
    delta fBody stJoin stmtAt at hb
    dsimp only [PX, PySem.Challenge.pw_dw5008_02, List.getElem?_cons_succ, List.getElem?_cons_zero, Option.getD_some] at hb
    subst hb
    have hpz : (ts.map treeD).length = ts.length := List.length_map ..
    repeat walk_at "lay step"
    refine Ev.callK ?_
    repeat walk_at "lay step"
    refine CallP.mkK (n := m + 3) C ht fun c => ?_
    generalize mput μ X.tb (.pred WarmK) = μ2 at h
    refine CallK.sorted (n := m + 4) (q := c) (.lst _) (by omega) (by omega) (fun F v r => r.1) (keys_all C.std _ _ ?_)
    rw [List.nil_append]
    have hget : ∀ i < ts.length, (ts.map treeD).getD i .none = treeD (ts.getD i (0, [])) := fun i hi => by simp [List.getD, hi]
    refine ⟨wlt ts, wlt_swo ts, CmpK.insts (n := m + 2) C.std (by omega) (fun d hd => ?_) kH (fun i j hi hj => ?_), fun p hp => ?_⟩
    · obtain ⟨r, _, rfl⟩ := List.mem_map.mp hd
      exact ⟨_, rfl⟩
    · rw [hpz] at hi hj
      rw [hget i hi, hget j hj]
      exact heavier_walk OH ⟨_, by unfold wlt; rw [decide_eq_true_eq], rfl, rfl⟩
    rw [hpz] at hp
    have e1 : (p.map fun i => (ts.map treeD).getD i .none) = (p.map fun i => ts.getD i (0, [])).map treeD := by
      rw [List.map_map]
      exact List.map_congr_left fun i hi => hget i (hp.lt i hi)
    rw [e1]
    have hr1 := pick_perm ts (0, []) hp.1
    have hr2 := wlt_row hp
    generalize (p.map fun i => ts.getD i (0, [])) = r at hr1 hr2 ⊢
    have h' := h r hr1 hr2
    clear h e1 hget
    obtain ⟨x, y, tl, rfl⟩ : ∃ x y tl, r = x :: y :: tl := by
      have := hr1.length_eq
      match r, this with
      | x :: y :: tl, _ => exact ⟨x, y, tl, rfl⟩
      | [x], e => simp at e; omega
      | [], e => simp at e; omega
    have hx := hz x (hr1.mem_iff.mp (.head _))
    have hy := hz y (hr1.mem_iff.mp (.tail _ (.head _)))
    have hl := hr1.length_eq
    simp only [List.length_cons] at hl
    repeat walk_at "lay step"
    refine Ex1.asgComp (compOk rfl) (.inl rfl) ?_
    repeat walk_at "lay step"
    refine Sub.list (d := treeD x) (.lst _) (by decide) (by decide) rfl ?_
    repeat walk_at "lay step"
    refine Sub.tup (d := .lst (x.2.map leafD)) (by decide) (by decide) rfl ?_ (by intro _ _; with_unfolding_all rfl)
    repeat walk_at "lay step"
    refine Sub.list (d := treeD y) (.lst _) (by decide) (by decide) rfl ?_
    repeat walk_at "lay step"
    refine Sub.tup (d := .lst (y.2.map leafD)) (by decide) (by decide) rfl ?_ (by intro _ _; with_unfolding_all rfl)
    refine Bin.concat (.lst _) (.lst _) (by show _ ≤ _; simp; omega) ?_
    rw [← List.map_append]
    have hxy : (x.2 ++ y.2).length ≤ 2000 := by rw [List.length_append]; omega
    refine ⟨_, Iterb.lst _, fun Cc => CompP.pure upD (fun d hd => ?_) (by rw [List.length_map]; simp only [List.length_nil]; omega) ?_⟩
    · obtain ⟨q, hq, rfl⟩ := List.mem_map.mp hd
      unfold leafD
      repeat walk_at "lay step"
      refine TrA.none ?_
      rw [if_pos rfl]
      repeat walk_at "lay step"
      exact ⟨rfl, rfl⟩
    rw [List.nil_append, upD_map]
    repeat walk_at "lay step"
    refine Ev.int ⟨2, rfl, _, .lst _, by show _ ≤ _; rw [List.length_map, List.length_cons, List.length_cons]; omega, ?_, by decide, ?_⟩
    · rw [List.map_cons, List.map_cons, pickL_two]
      show _ ≤ _
      rw [List.length_map]; omega
    rw [List.map_cons, List.map_cons, pickL_two]
    repeat walk_at "lay step"
    refine Sub.list (d := treeD x) (.lst _) (by decide) (by decide) rfl ?_
    repeat walk_at "lay step"
    refine Sub.tup (d := .int (x.1 : Nat)) (by decide) (by decide) rfl ?_ (by intro _ _; with_unfolding_all rfl)
    repeat walk_at "lay step"
    refine Sub.list (d := treeD y) (.lst _) (by decide) (by decide) rfl ?_
    repeat walk_at "lay step"
    refine Sub.tup (d := .int (y.1 : Nat)) (by decide) (by decide) rfl ?_ (by intro _ _; with_unfolding_all rfl)
    repeat walk_at "lay step"
    refine Bin.concat (.lst _) (.lst _) (by show _ ≤ _; simp; omega) ?_
    have e2 : (joinF (x :: y :: tl)).map treeD = tl.map treeD ++ [.tup [.int ((x.1 : Int) + (y.1 : Int)), .lst ((upL (x.2 ++ y.2)).map leafD)]] := by
      unfold joinF
      rw [List.map_append]
      rfl
    rw [e2] at h'
    exact h'
end Lay

/- part RW2 -/
open PySem PySem.W PyProof.Rows
set_option Elab.async false
set_option linter.unusedVariables false
set_option maxRecDepth 100000
set_option maxHeartbeats 0
namespace Lay
variable {X : Cx} {n : Nat} {ρ : Rho} {μ : Mu}
/- the look of a name -/
local macro_rules | `(tactic| walk_at "lay rho") => `(tactic| first
  | rfl
  | assumption
  | exact rset_self ..
  | (refine (rset_ne _ _ (by decide)).trans ?_; walk_at "lay rho"))
local macro_rules | `(tactic| walk_at "lay kept") => `(tactic| first | exact .inl rfl | exact keptC rfl)
local macro_rules | `(tactic| walk_at "lay name") => `(tactic| first
  | refine Ev.name (by walk_at "lay rho") ?_
  | refine Ev.nameC (by walk_at "lay rho") ?_
  | refine Ev.nameC ((cRho_of rfl).trans (by walk_at "lay rho")) ?_
  | refine Ev.glo (by assumption) ?_)
local macro_rules | `(tactic| walk_at "lay step") => `(tactic| first
  | with_reducible refine Ex.cons ?_
  | with_reducible refine Ex.nil ?_
  | with_reducible refine Ex1.ret ?_
  | with_reducible refine Ex1.ite ?_
  | ((with_reducible refine Ex1.append ?y1 ?y2 ?y3 ?y4 ?y5 ?y6 ?y7); (case y2 => rfl); (case y3 => rfl); (case y4 => rfl); (case y5 => rfl); (case y6 => rfl); (case y7 => rfl))
  | ((with_reducible refine Ex1.asg ?y1 ?y2 ?y3 ?y4); (case y2 => rfl); (case y3 => rfl); (case y4 => rfl))
  | ((with_reducible refine AsgP.name ?y1 ?y2); (case y1 => walk_at "lay kept"))
  | ((with_reducible refine AsgP.tup ?y1 ?y2 ?y3); (case y1 => rfl); (case y3 => exact names_each rfl))
  | with_reducible refine AsgL.more ?_
  | with_reducible refine AsgL.done ?_
  | with_reducible refine Ev.int ?_
  | with_reducible refine Ev.none ?_
  | with_reducible refine Ev.bool ?_
  | ((with_reducible refine (?_ : Ev _ _ _ (.Name _ _) _ _ _)); walk_at "lay name")
  | with_reducible refine Ev.bin ?_
  | with_reducible refine Ev.una ?_
  | with_reducible refine Ev.slice ?_
  | with_reducible refine Ev.sub ?_
  | with_reducible refine Ev.ifx ?_
  | with_reducible refine Ev.tup ?_
  | ((with_reducible refine Ev.cmp ?y1 ?y2); (case y2 => with_unfolding_all rfl))
  | ((with_reducible refine Ev.call ?y1 ?y2 ?y3 ?y4); (case y2 => rfl); (case y3 => rfl); (case y4 => rfl))
  | ((with_reducible refine EvL.cons ?y1 ?y2); (case y2 => rfl))
  | with_reducible refine EvL.nil ?_
  | ((with_reducible refine (?_ : Ev _ _ _ (.List (_ :: _) _) _ _ _)); refine Ev.lst ?_)
  | ((with_reducible refine (?_ : Small _ ∧ _)); refine ⟨Nat.le_of_ble_eq_true rfl, ?_⟩)
  | ((with_reducible refine (?_ : ∃ vf, D.raw _ = .raw vf ∧ KeepOk _ vf ∧ _)); refine ⟨_, rfl, (by first | exact KeepOk.builtin _ | exact KeepOk.type _ | assumption), ?_⟩)
  | with_reducible refine CallP.range1 ?_
  | with_reducible refine CallP.range2 ?_
  | with_reducible refine CallP.min2 ?_
  | ((with_reducible refine Sub.tup (d := ?dd) ?y1 ?y2 ?y3 ?y4 ?y5); (case y1 => decide); (case y2 => decide); (case y3 => rfl); (case y5 => (intro _ _; with_unfolding_all rfl)))
  | with_reducible refine Tr.not ?_
  | with_reducible refine Tr.boolop ?_
  | ((with_reducible refine Tr.cmp ?y1 ?y2); (case y2 => with_unfolding_all rfl))
  | with_reducible refine Tru.bool ?_
  | with_reducible refine Bin.add ?_
  | with_reducible refine Bin.sub ?_
  | with_reducible refine Cmp.eq ?_
  | with_reducible refine Cmp.ne ?_
  | with_reducible refine Cmp.lt ?_
  | with_reducible refine Cmp.gt ?_
  | with_reducible refine Cmp.le ?_
  | with_reducible refine Cmp.ge ?_
  | with_reducible refine Una.neg ?_)
local macro_rules | `(tactic| walk_at "lay step") => `(tactic| first
  | with_reducible refine TrL.and ?_
  | with_reducible refine TrL.or ?_
  | with_reducible refine TrL.andNil ?_
  | with_reducible refine TrL.orNil ?_
  | ((with_reducible refine Bin.floordiv ?y1 ?y2 ?y3); (case y1 => decide); (case y2 => exact PyProof.noPylong_small (by decide)))
  | ((with_reducible refine Bin.mod ?y1 ?y2); (case y1 => decide)))
local macro_rules | `(tactic| walk_at "lay step") => `(tactic| ((with_reducible refine Ex1.setitem ?y1 ?y2); (case y2 => rfl)))
theorem pow_cast (k : Nat) : (2 : Int) ^ k = ((2 ^ k : Nat) : Int) := by rw [Int.natCast_pow]; rfl
theorem Bin.pow2 {k : Nat} {Q : D → Mu → Prop} (hk : k ≤ 1000) (h : Q (.int ((2 ^ k : Nat) : Int)) μ) : Bin X n .Pow (.int 2) (.int ((k : Nat) : Int)) μ Q := by
  have h64 : Builtin.Int.intBits 2 ≤ 64 := PySem.intBits_le_64 (by decide) (by decide)
  refine Bin.pow (by omega) (Int.le_trans (Int.mul_le_mul_of_nonneg_right (Int.ofNat_le.mpr h64) (Int.natCast_nonneg k)) (by omega)) ?_
  rw [Int.toNat_natCast, pow_cast]
  exact h
theorem Bin.divN {a b : Nat} {Q : D → Mu → Prop} (hb : 0 < b) (h30 : b < 1073741824) (h : Q (.int ((a / b : Nat) : Int)) μ) : Bin X n .FloorDiv (.int ((a : Nat) : Int)) (.int ((b : Nat) : Int)) μ Q := by
  refine Bin.floordiv (by omega) (PyProof.noPylong_small (by omega)) ?_
  rw [Int.fdiv_eq_ediv_of_nonneg _ (Int.natCast_nonneg b)]
  exact h
theorem Bin.modN {a b : Nat} {Q : D → Mu → Prop} (hb : 0 < b) (h : Q (.int ((a % b : Nat) : Int)) μ) : Bin X n .Mod (.int ((a : Nat) : Int)) (.int ((b : Nat) : Int)) μ Q := by
  refine Bin.mod (by omega) ?_
  rw [Int.fmod_eq_emod_of_nonneg _ (Int.natCast_nonneg b)]
  exact h
def natD (b : Nat) : D := .int ((b : Nat) : Int)
def bookF (cs : List Code) : List (Int × D) := cs.map fun c => (((2 ^ c.2.1 + c.1 : Nat) : Int), natD c.2.2)
def wordsF (cs : List Code) : List (Int × D) := cs.map fun c => (((c.2.2 : Nat) : Int), D.lst ((bitsN c.1 c.2.1).map natD))
theorem iget_book (cs : List Code) (k : Nat) : iget (bookF cs) ((k : Nat) : Int) = (dec cs k).map natD := by
  unfold iget bookF dec
  rw [List.find?_map, Option.map_map, Option.map_map]
  have e : ((fun x : Int × D => decide (x.1 = ((k : Nat) : Int))) ∘ fun c : Code => (((2 ^ c.2.1 + c.1 : Nat) : Int), natD c.2.2)) = fun c : Code => decide (2 ^ c.2.1 + c.1 = k) := by
    funext c
    simp only [Function.comp]
    exact decide_eq_decide.mpr ⟨fun h => by omega, fun h => by omega⟩
  rw [e]
  rfl
theorem iget_words (cs : List Code) (m : Nat) : iget (wordsF cs) ((m : Nat) : Int) = (cs.find? fun c => decide (c.2.2 = m)).map fun c => D.lst ((bitsN c.1 c.2.1).map natD) := by
  unfold iget wordsF
  rw [List.find?_map, Option.map_map]
  have e : ((fun x : Int × D => decide (x.1 = ((m : Nat) : Int))) ∘ fun c : Code => (((c.2.2 : Nat) : Int), D.lst ((bitsN c.1 c.2.1).map natD))) = fun c : Code => decide (c.2.2 = m) := by
    funext c
    simp only [Function.comp]
    exact decide_eq_decide.mpr ⟨fun h => by omega, fun h => by omega⟩
  rw [e]
  rfl
theorem intsFrom_map : ∀ (k : Nat) (x : Int), intsFrom x k = (List.range k).map fun (i : Nat) => D.int (x + (i : Int))
  | 0, _ => rfl
  | k + 1, x => by
    rw [intsFrom, intsFrom_map k, List.range_succ_eq_map, List.map_cons, List.map_map]
    congr 1
    · congr 1; omega
    · refine List.map_congr_left fun i _ => ?_
      simp only [Function.comp]
      congr 1; omega
theorem intsFrom0 (k : Nat) : intsFrom 0 k = (List.range k).map natD := by
  rw [intsFrom_map]
  refine List.map_congr_left fun i _ => ?_
  unfold natD
  congr 1; omega
def onNat (f : Nat → Nat) : D → Option D
  | .int x => some (natD (f x.toNat))
  | _ => .none
theorem onNat_map (f : Nat → Nat) (l : List Nat) : (l.map natD).filterMap (onNat f) = (l.map f).map natD := by
  induction l with
  | nil => rfl
  | cons x l ih => rw [List.map_cons, List.filterMap_cons, ih]; rfl
theorem kr_mono {N : Nat} {a b : List Nat} : kr N a ≤ kr N (a ++ b) := by rw [kr_append]; exact Nat.le_add_right ..
def stWords : Stmt := stmtAt PX 8
theorem words_walk {a : Addr} {pm cd doc kV ct : Value} {an : Option Addr} {R : List (Nat × Nat)} {N s0 m0 : Nat} {R0 : List (Nat × Nat)} {Q : D → Mu → Prop}
    (O : FnOk X a (fdOf stWords pm cd doc .none kV ct an) (fBody stWords)) (grng : GloF X "range" (.type "range")) (htb : ∃ o, X.h₁.get? X.tb = some o)
    (hR : R = (s0, m0) :: R0) (hs : R.Pairwise fun p q => p.1 ≤ q.1) (hN : ∀ p ∈ R, p.1 ≤ N) (hN10 : N ≤ 10) (hk : kr N (R.map (·.1)) = 2 ^ N) (hnd : (R.map (·.2)).Nodup) (hl : R.length ≤ 900)
    (h : ∀ cs gb gw μ', CK N cs → cs.map (fun c => (c.2.1, c.2.2)) = R → gb ≠ X.tb → gw ≠ X.tb → gb ≠ gw → μ gb = none → μ gw = none → μ' gb = some (.idict (bookF cs)) → μ' gw = some (.idict (wordsF cs)) →
      (∀ x, x ≠ gb → x ≠ gw → μ' x = μ x) → Q (.tup [.raw (.ref gb), .raw (.ref gw), .bool true]) μ') : CallP X (n + 1) (.ref a) [.lst (R.map leafD)] μ Q := by
  refine CallP.fn (names := ["lengths"]) (dvs := []) O (fun s vs hB hl => ?_) (fun x hx => ?_) fun L => ?_
  · obtain ⟨v1, rfl⟩ : ∃ v1, vs = [v1] := by
      match vs, hl with
      | [v1], _ => exact ⟨v1, rfl⟩
    intro M A E Q' hq
    have e : bindArgs (fdOf stWords pm cd doc .none kV ct an) ⟨[v1], []⟩ = pure (List.zip (["lengths"] : List Str) ([v1] ++ [])) := by rfl
    rw [e]
    exact wpAny_pure hq
  · left
    revert x
    show ∀ x ∈ (["lengths"] : List Str), (fScope stWords).names.lookup x = some .local
    decide
  · obtain ⟨body, hb⟩ : ∃ b, b = fBody stWords := ⟨_, rfl⟩
    rw [← hb]
    delta fBody stWords stmtAt at hb
    dsimp only [PX, PySem.Challenge.pw_dw5008_02, List.getElem?_cons_succ, List.getElem?_cons_zero, Option.getD_some] at hb
    subst hb
    have h0N : s0 ≤ N := hN (s0, m0) (by rw [hR]; exact .head _)
    have h0s : ∀ p ∈ R, s0 ≤ p.1 := fun p hp => by
      rw [hR] at hp hs
      rcases List.mem_cons.mp hp with e | e
      · rw [e]; exact Nat.le_refl _
      · exact (List.pairwise_cons.mp hs).1 p e
    repeat walk_at "lay step"
    refine Ev.idictC htb fun gb hgb hgbt => ?_
    repeat walk_at "lay step"
    refine Ev.idictC htb fun gw hgw hgwt => ?_
    have hbw : gw ≠ gb := by rintro rfl; rw [mput_self] at hgw; cases hgw
    rw [mput_ne hbw] at hgw
    repeat walk_at "lay step"
    refine Sub.list (d := leafD (s0, m0)) (.lst _) (by decide) (by decide) (by rw [hR]; rfl) ?_
    repeat walk_at "lay step"
    refine Sub.tup (d := .int ((s0 : Nat) : Int)) (by decide) (by decide) rfl ?_ (by intro _ _; with_unfolding_all rfl)
    repeat walk_at "lay step"
    refine Ex1.for ?_
    repeat walk_at "lay step"
    refine ⟨_, Iterb.lst _, ?_⟩
    refine ForP.eachM leafD (fun pre ρ μ' => ∃ st : CSt, CI N pre st ∧ (st.2.2 = s0 ∨ ∃ p ∈ pre, p.1 = st.2.2) ∧ μ' gb = some (.idict (bookF st.1)) ∧ μ' gw = some (.idict (wordsF st.1)) ∧ (∀ x, x ≠ gb → x ≠ gw → μ' x = μ x)
        ∧ ρ "book" = some (.raw (.ref gb)) ∧ ρ "words" = some (.raw (.ref gw)) ∧ ρ "number" = some (.int ((st.2.1 : Nat) : Int)) ∧ ρ "last" = some (.int ((st.2.2 : Nat) : Int)))
      (fun pre p post hc ρ μ' ⟨st, C, hla, m1, m2, m3, q1, q2, q3, q4⟩ => ?_) (fun ρ μ' ⟨st, C, hla, m1, m2, m3, q1, q2, q3, q4⟩ => ?_)
      ⟨([], 0, s0), CI.start h0N, .inl rfl, (mput_ne hbw.symm).trans mput_self, mput_self, (fun x hx1 hx2 => (mput_ne hx2).trans (mput_ne hx1)), by walk_at "lay rho", by walk_at "lay rho", by walk_at "lay rho", by walk_at "lay rho"⟩
    · have hpR : p ∈ R := by rw [hc]; simp
      have hlast : st.2.2 ≤ p.1 := by
        rcases hla with e | ⟨r, hr, e⟩
        · rw [e]; exact h0s p hpR
        · rw [← e]
          rw [hc] at hs
          exact (List.pairwise_append.mp hs).2.2 r hr p (.head _)
      have hpN := hN p hpR
      have C' := C.step hlast hpN
      have hkr : kr N ((pre ++ [p]).map (·.1)) ≤ 2 ^ N := by
        rw [← hk, hc, List.map_append, List.map_append, List.map_cons, kr_append, kr_append, kr_cons]
        simp only [List.map_cons, List.map_nil, kr_cons]
        have : kr N [] = 0 := rfl
        omega
      have K' := C'.ck hkr
      obtain ⟨sz, mk⟩ := p
      dsimp only at hlast hpN
      obtain ⟨num, hnum⟩ : ∃ num, num = st.2.1 * 2 ^ (sz - st.2.2) := ⟨_, rfl⟩
      have hstep : stepC st (sz, mk) = (st.1 ++ [(num, sz, mk)], num + 1, sz) := by rw [hnum]; rfl
      rw [hstep] at C' K'
      have hN10' : 2 ^ N ≤ 1024 := Nat.pow_le_pow_right (n := 2) (by decide) hN10
      have hnlt : num < 2 ^ sz := (K'.small (num, sz, mk) (by simp)).2
      have hs1 : 2 ^ sz ≤ 1024 := Nat.pow_le_pow_right (n := 2) (by decide) (Nat.le_trans hpN hN10)
      have hst1 : st.2.1 ≤ num := by rw [hnum]; exact Nat.le_mul_of_pos_right _ (Nat.two_pow_pos _)
      refine AsgP.tup (ds := [.int ((sz : Nat) : Int), .int ((mk : Nat) : Int)]) rfl ?_ (names_each rfl)
      repeat walk_at "lay step"
      rw [show ((sz : Nat) : Int) - ((st.2.2 : Nat) : Int) = ((sz - st.2.2 : Nat) : Int) by omega]
      refine Bin.pow2 (by omega) ?_
      refine Bin.mul (mul_ok (by omega) (by omega)) ?_
      rw [← Int.natCast_mul, ← hnum]
      repeat walk_at "lay step"
      refine Bin.pow2 (by omega) ?_
      repeat walk_at "lay step"
      rw [show ((2 ^ sz : Nat) : Int) + ((num : Nat) : Int) = ((2 ^ sz + num : Nat) : Int) from (Int.natCast_add ..).symm]
      have hz : pre.length < 900 := by
        have := congrArg List.length hc
        rw [List.length_append, List.length_cons] at this
        omega
      have hcl : st.1.length = pre.length := by rw [← C.row, List.length_map]
      have hbz : (bookF st.1).length ≤ 1000 := by unfold bookF; rw [List.length_map]; omega
      have hwz : (wordsF st.1).length ≤ 1000 := by unfold wordsF; rw [List.length_map]; omega
      refine SetI.idictNew m1 hgbt (by rw [iget_book, CK.dec_new (c' := (num, sz, mk)) K']; rfl) hbz ?_
      repeat walk_at "lay step"
      refine Ev.comp (compOk rfl) ?_
      repeat walk_at "lay step"
      refine ⟨_, Iterb.rng (by omega) (by omega) (by omega) (by omega), fun Cc => ?_⟩
      rw [show (((sz : Nat) : Int) - 0).toNat = sz by omega, intsFrom0]
      refine CompP.pure (onNat fun j => num / 2 ^ (sz - 1 - j) % 2) (fun d hd => ?_) (by rw [List.length_map, List.length_range]; simp only [List.length_nil]; omega) ?_
      · obtain ⟨j, hj, rfl⟩ := List.mem_map.mp hd
        have hj := List.mem_range.mp hj
        unfold natD
        repeat walk_at "lay step"
        refine TrA.none ?_
        rw [if_pos rfl]
        repeat walk_at "lay step"
        rw [show ((sz : Nat) : Int) - 1 - ((j : Nat) : Int) = ((sz - 1 - j : Nat) : Int) by omega]
        refine Bin.pow2 (by omega) ?_
        have hpj : 2 ^ (sz - 1 - j) ≤ 1024 := (show 2 ^ (sz - 1 - j) ≤ 2 ^ 10 from Nat.pow_le_pow_right (by decide) (by omega))
        refine Bin.divN (Nat.two_pow_pos _) (by omega) ?_
        repeat walk_at "lay step"
        refine ⟨?_, rfl⟩
        rw [Int.fmod_eq_emod_of_nonneg _ (by decide)]
        rfl
      rw [List.nil_append, onNat_map]
      repeat walk_at "lay step"
      have hnw : iget (wordsF st.1) ((mk : Nat) : Int) = none := by
        rw [iget_words, Option.map_eq_none_iff, List.find?_eq_none]
        intro c hcm hq
        have hq := of_decide_eq_true hq
        have hmem : (c.2.1, c.2.2) ∈ pre := by rw [← C.row]; exact List.mem_map_of_mem (f := fun c : Code => (c.2.1, c.2.2)) hcm
        rw [hc, List.map_append, List.map_cons] at hnd
        exact (List.nodup_append.mp hnd).2.2 c.2.2 (List.mem_map_of_mem (f := fun p : Nat × Nat => p.2) hmem) mk (.head _) hq
      refine SetI.idictNew ((mput_ne hbw).trans m2) hgwt hnw hwz ?_
      repeat walk_at "lay step"
      refine ⟨_, C', .inr ⟨(sz, mk), by simp, rfl⟩, ?_, ?_, fun x hx1 hx2 => (mput_ne hx2).trans ((mput_ne hx1).trans (m3 x hx1 hx2)), by walk_at "lay rho", by walk_at "lay rho", by walk_at "lay rho", by walk_at "lay rho"⟩
      · rw [mput_ne hbw.symm, mput_self]
        unfold bookF
        rw [List.map_append]
        rfl
      · rw [mput_self]
        unfold wordsF
        rw [List.map_append]
        rfl
    · have hlN : st.2.2 ≤ N := C.last
      have hfin : st.2.1 = 2 ^ st.2.2 := by
        have e := C.num
        rw [hk, show 2 ^ N = 2 ^ st.2.2 * 2 ^ (N - st.2.2) by rw [← Nat.pow_add]; congr 1; omega] at e
        exact Nat.eq_of_mul_eq_mul_right (Nat.two_pow_pos _) e
      repeat walk_at "lay step"
      refine Bin.pow2 (by omega) ?_
      repeat walk_at "lay step"
      have hb : (((st.2.1 : Nat) : Int) == ((2 ^ st.2.2 : Nat) : Int)) = true := by rw [hfin]; exact beq_self_eq_true _
      rw [hb]
      exact h st.1 gb gw μ' (C.ck (Nat.le_of_eq hk)) C.row hgbt hgwt hbw.symm hgb hgw m1 m2 m3
end Lay

/- part RW3 -/
open PySem PySem.W PyProof.Rows
set_option Elab.async false
set_option linter.unusedVariables false
set_option maxRecDepth 100000
set_option maxHeartbeats 0
namespace Lay
variable {X : Cx} {n : Nat} {ρ : Rho} {μ : Mu}
/- the look of a name -/
local macro_rules | `(tactic| walk_at "lay rho") => `(tactic| first
  | rfl
  | assumption
  | exact rset_self ..
  | (refine (rset_ne _ _ (by decide)).trans ?_; walk_at "lay rho"))
local macro_rules | `(tactic| walk_at "lay kept") => `(tactic| first | exact .inl rfl | exact keptC rfl)
local macro_rules | `(tactic| walk_at "lay name") => `(tactic| first
  | refine Ev.name (by walk_at "lay rho") ?_
  | refine Ev.nameC (by walk_at "lay rho") ?_
  | refine Ev.nameC ((cRho_of rfl).trans (by walk_at "lay rho")) ?_
  | refine Ev.glo (by assumption) ?_)
local macro_rules | `(tactic| walk_at "lay step") => `(tactic| first
  | with_reducible refine Ex.cons ?_
  | with_reducible refine Ex.nil ?_
  | with_reducible refine Ex1.ret ?_
  | with_reducible refine Ex1.ite ?_
  | ((with_reducible refine Ex1.append ?y1 ?y2 ?y3 ?y4 ?y5 ?y6 ?y7); (case y2 => rfl); (case y3 => rfl); (case y4 => rfl); (case y5 => rfl); (case y6 => rfl); (case y7 => rfl))
  | ((with_reducible refine Ex1.asg ?y1 ?y2 ?y3 ?y4); (case y2 => rfl); (case y3 => rfl); (case y4 => rfl))
  | ((with_reducible refine AsgP.name ?y1 ?y2); (case y1 => walk_at "lay kept"))
  | ((with_reducible refine AsgP.tup ?y1 ?y2 ?y3); (case y1 => rfl); (case y3 => exact names_each rfl))
  | with_reducible refine AsgL.more ?_
  | with_reducible refine AsgL.done ?_
  | with_reducible refine Ev.int ?_
  | with_reducible refine Ev.none ?_
  | with_reducible refine Ev.bool ?_
  | ((with_reducible refine (?_ : Ev _ _ _ (.Name _ _) _ _ _)); walk_at "lay name")
  | with_reducible refine Ev.bin ?_
  | with_reducible refine Ev.una ?_
  | with_reducible refine Ev.slice ?_
  | with_reducible refine Ev.sub ?_
  | with_reducible refine Ev.ifx ?_
  | with_reducible refine Ev.tup ?_
  | ((with_reducible refine Ev.cmp ?y1 ?y2); (case y2 => with_unfolding_all rfl))
  | ((with_reducible refine Ev.call ?y1 ?y2 ?y3 ?y4); (case y2 => rfl); (case y3 => rfl); (case y4 => rfl))
  | ((with_reducible refine EvL.cons ?y1 ?y2); (case y2 => rfl))
  | with_reducible refine EvL.nil ?_
  | ((with_reducible refine (?_ : Ev _ _ _ (.List (_ :: _) _) _ _ _)); refine Ev.lst ?_)
  | ((with_reducible refine (?_ : Small _ ∧ _)); refine ⟨Nat.le_of_ble_eq_true rfl, ?_⟩)
  | ((with_reducible refine (?_ : ∃ vf, D.raw _ = .raw vf ∧ KeepOk _ vf ∧ _)); refine ⟨_, rfl, (by first | exact KeepOk.builtin _ | exact KeepOk.type _ | assumption), ?_⟩)
  | with_reducible refine CallP.range1 ?_
  | with_reducible refine CallP.range2 ?_
  | with_reducible refine CallP.min2 ?_
  | ((with_reducible refine Sub.tup (d := ?dd) ?y1 ?y2 ?y3 ?y4 ?y5); (case y1 => decide); (case y2 => decide); (case y3 => rfl); (case y5 => (intro _ _; with_unfolding_all rfl)))
  | with_reducible refine Tr.not ?_
  | with_reducible refine Tr.boolop ?_
  | ((with_reducible refine Tr.cmp ?y1 ?y2); (case y2 => with_unfolding_all rfl))
  | with_reducible refine Tru.bool ?_
  | with_reducible refine Bin.add ?_
  | with_reducible refine Bin.sub ?_
  | with_reducible refine Cmp.eq ?_
  | with_reducible refine Cmp.ne ?_
  | with_reducible refine Cmp.lt ?_
  | with_reducible refine Cmp.gt ?_
  | with_reducible refine Cmp.le ?_
  | with_reducible refine Cmp.ge ?_
  | with_reducible refine Una.neg ?_)
local macro_rules | `(tactic| walk_at "lay step") => `(tactic| first
  | with_reducible refine TrL.and ?_
  | with_reducible refine TrL.or ?_
  | with_reducible refine TrL.andNil ?_
  | with_reducible refine TrL.orNil ?_
  | ((with_reducible refine Bin.floordiv ?y1 ?y2 ?y3); (case y1 => decide); (case y2 => exact PyProof.noPylong_small (by decide)))
  | ((with_reducible refine Bin.mod ?y1 ?y2); (case y1 => decide)))
local macro_rules | `(tactic| walk_at "lay step") => `(tactic| ((with_reducible refine Ex1.setitem ?y1 ?y2); (case y2 => rfl)))
def pairD (ga gw : Addr) : D := .tup [.raw (.ref ga), .raw (.ref gw)]
def stWrite : Stmt := stmtAt PX 9
theorem write_walk {a ga gw : Addr} {pm cd doc kV ct : Value} {an : Option Addr} {cs : List Code} {bs w : List Nat} {mk : Nat} {Q : D → Mu → Prop}
    (O : FnOk X a (fdOf stWrite pm cd doc .none kV ct an) (fBody stWrite)) (h1 : μ ga = some (.app (bs.map natD))) (hat : ga ≠ X.tb) (h2 : μ gw = some (.idict (wordsF cs))) (hg : iget (wordsF cs) ((mk : Nat) : Int) = some (.lst (w.map natD)))
    (hz : bs.length + w.length ≤ 100000) (h : ∀ μ', μ' ga = some (.app ((bs ++ w).map natD)) → (∀ x, x ≠ ga → μ' x = μ x) → Q (pairD ga gw) μ') : CallP X (n + 1) (.ref a) [pairD ga gw, natD mk] μ Q := by
  refine CallP.fn (names := ["pair", "mark"]) (dvs := []) O (fun s vs hB hl => ?_) (fun x hx => ?_) fun L => ?_
  · obtain ⟨v1, v2, rfl⟩ : ∃ v1 v2, vs = [v1, v2] := by
      match vs, hl with
      | [v1, v2], _ => exact ⟨v1, v2, rfl⟩
    intro M A E Q' hq
    have e : bindArgs (fdOf stWrite pm cd doc .none kV ct an) ⟨[v1, v2], []⟩ = pure (List.zip (["pair", "mark"] : List Str) ([v1, v2] ++ [])) := by rfl
    rw [e]
    exact wpAny_pure hq
  · left
    revert x
    show ∀ x ∈ (["pair", "mark"] : List Str), (fScope stWrite).names.lookup x = some .local
    decide
  · obtain ⟨body, hb⟩ : ∃ b, b = fBody stWrite := ⟨_, rfl⟩
    rw [← hb]
    delta fBody stWrite stmtAt at hb
    dsimp only [PX, PySem.Challenge.pw_dw5008_02, List.getElem?_cons_succ, List.getElem?_cons_zero, Option.getD_some] at hb
    subst hb
    repeat walk_at "lay step"
    refine Sub.tup (d := .raw (.ref ga)) (by decide) (by decide) rfl ?_ (by intro _ _; with_unfolding_all rfl)
    repeat walk_at "lay step"
    refine Ex1.for ?_
    repeat walk_at "lay step"
    refine Sub.tup (d := .raw (.ref gw)) (by decide) (by decide) rfl ?_ (by intro _ _; with_unfolding_all rfl)
    repeat walk_at "lay step"
    refine Sub.idict h2 hg ⟨_, Iterb.lst _, ?_⟩
    refine ForP.eachM natD (fun pre ρ μ' => μ' ga = some (.app ((bs ++ pre).map natD)) ∧ (∀ x, x ≠ ga → μ' x = μ x) ∧ ρ "bits" = some (.raw (.ref ga)) ∧ ρ "pair" = some (pairD ga gw))
      (fun pre x post hc ρ μ' ⟨m1, m2, q1, q2⟩ => ?_) (fun ρ μ' ⟨m1, m2, q1, q2⟩ => ?_) ⟨by rw [List.append_nil]; exact h1, fun _ _ => rfl, by walk_at "lay rho", by walk_at "lay rho"⟩
    · repeat walk_at "lay step"
      refine ⟨ga, rfl, ⟨_, m1⟩, ?_⟩
      repeat walk_at "lay step"
      have hl := congrArg List.length hc
      rw [List.length_append, List.length_cons] at hl
      refine ⟨_, m1, hat, by show _ ≤ _; rw [List.length_map, List.length_append]; omega, ?_⟩
      repeat walk_at "lay step"
      refine ⟨?_, fun x hx => (mput_ne hx).trans (m2 x hx), by walk_at "lay rho", by walk_at "lay rho"⟩
      rw [mput_self, ← List.append_assoc, List.map_append (l₂ := [_])]
      rfl
    · repeat walk_at "lay step"
      exact h μ' m1 m2
theorem write_fold {a ga gw : Addr} {pm cd doc kV ct : Value} {an : Option Addr} {cs : List Code} (O : FnOk X a (fdOf stWrite pm cd doc .none kV ct an) (fBody stWrite)) (hat : ga ≠ X.tb) (hne : gw ≠ ga) (hn : (cs.map fun c => c.2.2).Nodup) {Q : D → Mu → Prop} :
    ∀ (text bs : List Nat) {μ : Mu}, (∀ m ∈ text, m ∈ cs.map fun c => c.2.2) → bs.length + (text.flatMap (word cs)).length ≤ 100000 → μ ga = some (.app (bs.map natD)) → μ gw = some (.idict (wordsF cs)) →
      (∀ μ', μ' ga = some (.app ((bs ++ text.flatMap (word cs)).map natD)) → (∀ x, x ≠ ga → μ' x = μ x) → Q (pairD ga gw) μ') → FoldP X (n + 1) (.ref a) (text.map natD) (pairD ga gw) μ Q
  | [], bs, μ, _, _, h1, _, h => h μ (by simpa using h1) fun _ _ => rfl
  | m :: text, bs, μ, hm, hz, h1, h2, h => by
    obtain ⟨c, hc, hcm⟩ := List.mem_map.mp (hm m (.head _))
    have ew : word cs m = bitsN c.1 c.2.1 := by rw [← hcm]; unfold word; rw [find_mark hn hc]
    rw [List.flatMap_cons, List.length_append] at hz
    refine write_walk (w := word cs m) (bs := bs) O h1 hat h2 (by rw [iget_words, ← hcm, find_mark hn hc, hcm, ew]; rfl) (by omega) fun μ' m1 m2 => ?_
    refine write_fold O hat hne hn text (bs ++ word cs m) (fun x hx => hm x (.tail _ hx)) (by rw [List.length_append]; omega) m1 ((m2 gw hne).trans h2) fun μ'' n1 n2 => ?_
    refine h μ'' ?_ fun x hx => (n2 x hx).trans (m2 x hx)
    rw [List.flatMap_cons, ← List.append_assoc]
    exact n1
def stateD (gt gb : Addr) (p : Nat) : D := .tup [.raw (.ref gt), natD p, .raw (.ref gb)]
def stRead : Stmt := stmtAt PX 10
theorem read_walk {a gt gb : Addr} {pm cd doc kV ct : Value} {an : Option Addr} {cs : List Code} {told : List Nat} {p bit : Nat} {Q : D → Mu → Prop} (S : SysOk X)
    (O : FnOk X a (fdOf stRead pm cd doc .none kV ct an) (fBody stRead)) (h1 : μ gt = some (.app (told.map natD))) (hat : gt ≠ X.tb) (hne : gb ≠ gt) (h2 : μ gb = some (.idict (bookF cs)))
    (hz : told.length ≤ 100000) (h : ∀ μ', μ' gt = some (.app ((readF cs (told, p) bit).1.map natD)) → (∀ x, x ≠ gt → μ' x = μ x) → Q (stateD gt gb (readF cs (told, p) bit).2) μ') : CallP X (n + 1) (.ref a) [stateD gt gb p, natD bit] μ Q := by
  refine CallP.fn (names := ["state", "bit"]) (dvs := []) O (fun s vs hB hl => ?_) (fun x hx => ?_) fun L => ?_
  · obtain ⟨v1, v2, rfl⟩ : ∃ v1 v2, vs = [v1, v2] := by
      match vs, hl with
      | [v1, v2], _ => exact ⟨v1, v2, rfl⟩
    intro M A E Q' hq
    have e : bindArgs (fdOf stRead pm cd doc .none kV ct an) ⟨[v1, v2], []⟩ = pure (List.zip (["state", "bit"] : List Str) ([v1, v2] ++ [])) := by rfl
    rw [e]
    exact wpAny_pure hq
  · left
    revert x
    show ∀ x ∈ (["state", "bit"] : List Str), (fScope stRead).names.lookup x = some .local
    decide
  · obtain ⟨body, hb⟩ : ∃ b, b = fBody stRead := ⟨_, rfl⟩
    rw [← hb]
    delta fBody stRead stmtAt at hb
    dsimp only [PX, PySem.Challenge.pw_dw5008_02, List.getElem?_cons_succ, List.getElem?_cons_zero, Option.getD_some] at hb
    subst hb
    unfold stateD natD
    repeat walk_at "lay step"
    refine Bin.mul (mul_ok (by decide) (by decide)) ?_
    repeat walk_at "lay step"
    rw [show (2 : Int) * ((p : Nat) : Int) + ((bit : Nat) : Int) = ((2 * p + bit : Nat) : Int) by omega]
    repeat walk_at "lay step"
    refine Cmp.inI S h2 ?_
    repeat walk_at "lay step"
    rw [iget_book]
    have hr : readF cs (told, p) bit = match dec cs (2 * p + bit) with
      | some m => (told ++ [m], 1)
      | none => (told, 2 * p + bit) := rfl
    cases hd : dec cs (2 * p + bit) with
    | none =>
      rw [hd] at hr
      rw [hr] at h
      rw [if_neg (by decide)]
      repeat walk_at "lay step"
      exact h μ h1 fun _ _ => rfl
    | some m =>
      rw [hd] at hr
      rw [hr] at h
      rw [if_pos (show (Option.map natD (some m)).isSome = true from rfl)]
      repeat walk_at "lay step"
      refine ⟨gt, rfl, ⟨_, h1⟩, ?_⟩
      repeat walk_at "lay step"
      refine Sub.idict h2 (by rw [iget_book, hd]; rfl) ?_
      refine ⟨_, h1, hat, by show _ ≤ _; rw [List.length_map]; omega, ?_⟩
      repeat walk_at "lay step"
      refine h _ ?_ fun x hx => mput_ne hx
      rw [mput_self, List.map_append]
      rfl
theorem readF_len (cs : List Code) (st : List Nat × Nat) (bit : Nat) : (readF cs st bit).1.length ≤ st.1.length + 1 := by
  unfold readF
  split <;> simp
theorem read_fold {a gt gb : Addr} {pm cd doc kV ct : Value} {an : Option Addr} {cs : List Code} (S : SysOk X) (O : FnOk X a (fdOf stRead pm cd doc .none kV ct an) (fBody stRead)) (hat : gt ≠ X.tb) (hne : gb ≠ gt) {Q : D → Mu → Prop} :
    ∀ (bits : List Nat) (st : List Nat × Nat) {μ : Mu}, st.1.length + bits.length ≤ 100000 → μ gt = some (.app (st.1.map natD)) → μ gb = some (.idict (bookF cs)) →
      (∀ μ', μ' gt = some (.app ((bits.foldl (readF cs) st).1.map natD)) → (∀ x, x ≠ gt → μ' x = μ x) → Q (stateD gt gb (bits.foldl (readF cs) st).2) μ') → FoldP X (n + 1) (.ref a) (bits.map natD) (stateD gt gb st.2) μ Q
  | [], st, μ, _, h1, _, h => h μ h1 fun _ _ => rfl
  | b :: bits, st, μ, hz, h1, h2, h => by
    rw [List.length_cons] at hz
    refine read_walk S O h1 hat hne h2 (by omega) fun μ' m1 m2 => ?_
    refine read_fold S O hat hne bits (readF cs st b) ?_ m1 ((m2 gb hne).trans h2) fun μ'' n1 n2 => ?_
    · have := readF_len cs st b; omega
    · exact h μ'' n1 fun x hx => (n2 x hx).trans (m2 x hx)
end Lay

/- part Lay20 -/
open PySem PySem.W PyProof.Rows
set_option Elab.async false
set_option linter.unusedVariables false
set_option maxRecDepth 100000
namespace Lay
variable {X : Cx} {n : Nat} {env : Env} {ρ : Rho} {μ : Mu}
theorem Reps.rep {F : FZ} {d : D} {v : Value} (r : Rep F d v) : ∀ k : Nat, Reps F (List.replicate k d) (List.replicate k v)
  | 0 => rfl
  | k + 1 => ⟨v, _, rfl, r, Reps.rep r k⟩
theorem flat_one {α : Type} (v : α) : ∀ k : Nat, (List.replicate k [v]).flatten = List.replicate k v
  | 0 => rfl
  | k + 1 => by rw [List.replicate_succ, List.flatten_cons, flat_one v k]; rfl
theorem mul_rep {prog : Program} {w : World} {A : Around} {E : Value → Shared → Prop} {s : Shared} {l : Addr} {vs : Array Value} {k : Nat} {dd : Option Addr} {sl : Array (Option Value)} {x : Int} {u : Tok} {Q : Value → Shared → Prop}
    (ho : s.heap.get? l = some { cls := .type "list", dict := dd, data := .seq vs k, slots := sl }) (hlo : -(2 ^ 63 : Int) ≤ x) (hhi : x < 2 ^ 63) (hsz : vs.size * x.toNat ≤ 2 ^ 24)
    (h : Q (.ref s.heap.objs.size) { s with heap := s.heap.push { cls := .type "list", data := .seq (List.foldl (fun x1 x2 => x1 ++ x2) #[] (List.replicate (if vs.isEmpty = true then 0 else x.toNat) vs)) } }) :
    wpAny (model prog w) A (binaryOp .Mult (.ref l) (.int x u)) Q E s :=
  wpAny_binaryOp_repeat_ref (T := "list") (U := "int") (by decide) ⟨_, ho, rfl⟩ (fun s' => typeIs_int s' x u) noFill_list_mul PySem.F.fills_int_mul PySem.F.slot_int_rmul repeat_list PySem.F.slot_int_index.lookup
    (call_meets PySem.F.slot_int_rmul (typeIs_int s x u) PySem.F.entry_int_rmul (PySem.F.args_int_rmul_2 _ _) (lm_int_rmul_list_any x u l vs k dd sl)
      ⟨ho, rfl, ⟨_, ho, rfl⟩, call_meets PySem.F.slot_list_mul ⟨_, ho, rfl⟩ PySem.F.entry_list_mul (PySem.F.args_list_mul_2 _ _)
        (lm_list_mul_any l vs k dd sl x u (by simp [Builtin.List.listFitsIndex]; omega) (by omega) (by simp [Builtin.List.listTooLong, sizeLine]; omega))
        ⟨ho, h⟩⟩)
/-- [d] * k, an own list -/
theorem Bin.repC {o d : D} {k : Nat} {Q : D → Mu → Prop} (hl : IsL μ o [d]) (hz : k ≤ 1000000) (htb : ∃ o, X.h₁.get? X.tb = some o) (h : ∀ a, μ a = .none → a ≠ X.tb → Q (.raw (.ref a)) (mput μ a (.list (List.replicate k d)))) : Bin X n .Mult o (.int ((k : Nat) : Int)) μ Q := by
  rintro A F s _ _ hA H r ⟨t, rfl⟩
  obtain ⟨a, vs, rfl, ⟨o, ho, hc, kk, hd⟩, hr⟩ := hl.isList H r
  obtain ⟨cls, dd, data, sl⟩ := o
  simp only at hc hd
  subst hc hd
  obtain ⟨v, vs', hv, rv, rn⟩ := hr
  obtain rfl : vs' = [] := rn
  have h1 : vs.size = 1 := by rw [← Array.length_toList, hv]; rfl
  have hk : ((k : Nat) : Int).toNat = k := Int.toNat_natCast k
  refine mul_rep ho (by omega) (by omega) (by rw [h1, hk]; omega) ?_
  obtain ⟨hF, hM, hB⟩ := H.none_of_fresh push_none
  have e := listMul_foldl_if vs ((k : Nat) : Int).toNat
  rw [hk, hv, flat_one] at e
  rw [hk, e]
  obtain ⟨H', S'⟩ := H.cellNew (s' := { s with heap := s.heap.push { cls := .type "list", data := .seq (List.replicate k v).toArray } }) (c := .list (List.replicate k d)) push_none (Heap.get?_push_size _ rfl) ⟨rfl, _, _, rfl, by simpa using Reps.rep rv k⟩ (fun b o e => Heap.get?_push_of_some _ e) rfl rfl
  exact ⟨_, _, _, h _ hM (fun e => by obtain ⟨o, ho⟩ := htb; rw [e, ho] at hB; cases hB), rfl, H', S'⟩
end Lay

/- part RW4 -/
open PySem PySem.W PyProof.Rows
set_option Elab.async false
set_option linter.unusedVariables false
set_option maxRecDepth 100000
set_option maxHeartbeats 0
namespace Lay
variable {X : Cx} {n : Nat} {ρ : Rho} {μ : Mu}
/- the look of a name -/
local macro_rules | `(tactic| walk_at "lay rho") => `(tactic| first
  | rfl
  | assumption
  | exact rset_self ..
  | (refine (rset_ne _ _ (by decide)).trans ?_; walk_at "lay rho"))
local macro_rules | `(tactic| walk_at "lay kept") => `(tactic| first | exact .inl rfl | exact keptC rfl)
local macro_rules | `(tactic| walk_at "lay name") => `(tactic| first
  | refine Ev.name (by walk_at "lay rho") ?_
  | refine Ev.nameC (by walk_at "lay rho") ?_
  | refine Ev.nameC ((cRho_of rfl).trans (by walk_at "lay rho")) ?_
  | refine Ev.glo (by assumption) ?_)
local macro_rules | `(tactic| walk_at "lay step") => `(tactic| first
  | with_reducible refine Ex.cons ?_
  | with_reducible refine Ex.nil ?_
  | with_reducible refine Ex1.ret ?_
  | with_reducible refine Ex1.ite ?_
  | ((with_reducible refine Ex1.append ?y1 ?y2 ?y3 ?y4 ?y5 ?y6 ?y7); (case y2 => rfl); (case y3 => rfl); (case y4 => rfl); (case y5 => rfl); (case y6 => rfl); (case y7 => rfl))
  | ((with_reducible refine Ex1.asg ?y1 ?y2 ?y3 ?y4); (case y2 => rfl); (case y3 => rfl); (case y4 => rfl))
  | ((with_reducible refine AsgP.name ?y1 ?y2); (case y1 => walk_at "lay kept"))
  | ((with_reducible refine AsgP.tup ?y1 ?y2 ?y3); (case y1 => rfl); (case y3 => exact names_each rfl))
  | with_reducible refine AsgL.more ?_
  | with_reducible refine AsgL.done ?_
  | with_reducible refine Ev.int ?_
  | with_reducible refine Ev.none ?_
  | with_reducible refine Ev.bool ?_
  | ((with_reducible refine (?_ : Ev _ _ _ (.Name _ _) _ _ _)); walk_at "lay name")
  | with_reducible refine Ev.bin ?_
  | with_reducible refine Ev.una ?_
  | with_reducible refine Ev.slice ?_
  | with_reducible refine Ev.sub ?_
  | with_reducible refine Ev.ifx ?_
  | with_reducible refine Ev.tup ?_
  | ((with_reducible refine Ev.cmp ?y1 ?y2); (case y2 => with_unfolding_all rfl))
  | ((with_reducible refine Ev.call ?y1 ?y2 ?y3 ?y4); (case y2 => rfl); (case y3 => rfl); (case y4 => rfl))
  | ((with_reducible refine EvL.cons ?y1 ?y2); (case y2 => rfl))
  | with_reducible refine EvL.nil ?_
  | ((with_reducible refine (?_ : Ev _ _ _ (.List (_ :: _) _) _ _ _)); refine Ev.lst ?_)
  | ((with_reducible refine (?_ : Small _ ∧ _)); refine ⟨Nat.le_of_ble_eq_true rfl, ?_⟩)
  | ((with_reducible refine (?_ : ∃ vf, D.raw _ = .raw vf ∧ KeepOk _ vf ∧ _)); refine ⟨_, rfl, (by first | exact KeepOk.builtin _ | exact KeepOk.type _ | assumption), ?_⟩)
  | with_reducible refine CallP.range1 ?_
  | with_reducible refine CallP.range2 ?_
  | with_reducible refine CallP.min2 ?_
  | ((with_reducible refine Sub.tup (d := ?dd) ?y1 ?y2 ?y3 ?y4 ?y5); (case y1 => decide); (case y2 => decide); (case y3 => rfl); (case y5 => (intro _ _; with_unfolding_all rfl)))
  | with_reducible refine Tr.not ?_
  | with_reducible refine Tr.boolop ?_
  | ((with_reducible refine Tr.cmp ?y1 ?y2); (case y2 => with_unfolding_all rfl))
  | with_reducible refine Tru.bool ?_
  | with_reducible refine Bin.add ?_
  | with_reducible refine Bin.sub ?_
  | with_reducible refine Cmp.eq ?_
  | with_reducible refine Cmp.ne ?_
  | with_reducible refine Cmp.lt ?_
  | with_reducible refine Cmp.gt ?_
  | with_reducible refine Cmp.le ?_
  | with_reducible refine Cmp.ge ?_
  | with_reducible refine Una.neg ?_)
local macro_rules | `(tactic| walk_at "lay step") => `(tactic| first
  | with_reducible refine TrL.and ?_
  | with_reducible refine TrL.or ?_
  | with_reducible refine TrL.andNil ?_
  | with_reducible refine TrL.orNil ?_
  | ((with_reducible refine Bin.floordiv ?y1 ?y2 ?y3); (case y1 => decide); (case y2 => exact PyProof.noPylong_small (by decide)))
  | ((with_reducible refine Bin.mod ?y1 ?y2); (case y1 => decide)))
local macro_rules | `(tactic| walk_at "lay step") => `(tactic| ((with_reducible refine Ex1.setitem ?y1 ?y2); (case y2 => rfl)))
theorem low_bit : ∀ S < 64, ((S : Nat) : Int) - Builtin.bitAnd ((S : Nat) : Int) (-((S : Nat) : Int)) = ((restF S : Nat) : Int) := by decide +kernel
theorem band_nat (a b : Nat) : Builtin.bitAnd ((a : Nat) : Int) ((b : Nat) : Int) = ((a &&& b : Nat) : Int) := by
  rw [bitAnd_pp (Int.natCast_nonneg a) (Int.natCast_nonneg b), Int.toNat_natCast, Int.toNat_natCast]
theorem getN {l : List Nat} {i : Nat} (h : i < l.length) : (l.map natD)[((i : Nat) : Int).toNat]? = some (natD (l.getD i 0)) := by
  rw [Int.toNat_natCast]
  simp [List.getD, h]
def bestD : Option Nat → D
  | none => .none
  | some b => natD b
theorem addD_map (w : Nat) (s : List Nat) : (s.map natD).filterMap (onNat fun x => x + w) = (s.map fun x => x + w).map natD := onNat_map _ s
def stLeast : Stmt := stmtAt PX 11
theorem least_walk {a : Addr} {pm cd doc kV ct : Value} {an : Option Addr} {ws : List Nat} {W : Nat → Nat} {Q : D → Mu → Prop}
    (O : FnOk X a (fdOf stLeast pm cd doc .none kV ct an) (fBody stLeast)) (grng : GloF X "range" (.type "range")) (glen : GloF X "len" (.builtin "len")) (htb : ∃ o, X.h₁.get? X.tb = some o)
    (h1 : 1 ≤ ws.length) (h6 : ws.length ≤ 6) (hW : ∀ i < ws.length, ws.getD i 0 = W i) (h : ∀ L, Good W ws.length (2 ^ ws.length - 1) L → Q (natD L) μ) : CallP X (n + 1) (.ref a) [.lst (ws.map natD)] μ Q := by
  refine CallP.fn (names := ["weights"]) (dvs := []) O (fun s vs hB hl => ?_) (fun x hx => ?_) fun L => ?_
  · obtain ⟨v1, rfl⟩ : ∃ v1, vs = [v1] := by
      match vs, hl with
      | [v1], _ => exact ⟨v1, rfl⟩
    intro M A E Q' hq
    have e : bindArgs (fdOf stLeast pm cd doc .none kV ct an) ⟨[v1], []⟩ = pure (List.zip (["weights"] : List Str) ([v1] ++ [])) := by rfl
    rw [e]
    exact wpAny_pure hq
  · left
    revert x
    show ∀ x ∈ (["weights"] : List Str), (fScope stLeast).names.lookup x = some .local
    decide
  · obtain ⟨body, hb⟩ : ∃ b, b = fBody stLeast := ⟨_, rfl⟩
    rw [← hb]
    delta fBody stLeast stmtAt at hb
    dsimp only [PX, PySem.Challenge.pw_dw5008_02, List.getElem?_cons_succ, List.getElem?_cons_zero, Option.getD_some] at hb
    subst hb
    obtain ⟨m, hm⟩ : ∃ m, m = ws.length := ⟨_, rfl⟩
    have h64 : 2 ^ m ≤ 64 := (show 2 ^ m ≤ 2 ^ 6 from Nat.pow_le_pow_right (by decide) (by omega))
    have h2m : 2 ≤ 2 ^ m := (show 2 ^ 1 ≤ 2 ^ m from Nat.pow_le_pow_right (by decide) (by omega))
    repeat walk_at "lay step"
    refine Ex1.for ?_
    repeat walk_at "lay step"
    refine ⟨_, Iterb.lst _, ?_⟩
    refine ForP.eachM natD (fun pre ρ μ' => ∃ s : List Nat, SumsOk W pre.length s ∧ μ' = μ ∧ ρ "sums" = some (.lst (s.map natD)))
      (fun pre w post hc ρ μ' ⟨s, hs, e, q1⟩ => ?_) (fun ρ μ' ⟨s, hs, e, q1⟩ => ?_) ⟨[0], SumsOk.zero W, rfl, by walk_at "lay rho"⟩
    · subst e
      have hpl : pre.length < ws.length := by
        have := congrArg List.length hc
        rw [List.length_append, List.length_cons] at this
        omega
      have hw : W pre.length = w := by
        rw [← hW _ hpl, hc]
        simp [List.getD]
      have hsl : s.length ≤ 32 := by
        rw [hs.1]
        exact (show 2 ^ pre.length ≤ 2 ^ 5 from Nat.pow_le_pow_right (by decide) (by omega))
      repeat walk_at "lay step"
      refine Ev.comp (compOk rfl) ?_
      repeat walk_at "lay step"
      refine ⟨_, Iterb.lst _, fun Cc => CompP.pure (onNat fun x => x + w) (fun d hd => ?_) (by rw [List.length_map]; simp only [List.length_nil]; omega) ?_⟩
      · obtain ⟨x, hx, rfl⟩ := List.mem_map.mp hd
        unfold natD
        repeat walk_at "lay step"
        refine TrA.none ?_
        rw [if_pos rfl]
        repeat walk_at "lay step"
        exact ⟨rfl, rfl⟩
      rw [List.nil_append, onNat_map]
      repeat walk_at "lay step"
      refine Bin.concat (.lst _) (.lst _) (by show _ ≤ _; simp; omega) ?_
      rw [← List.map_append]
      repeat walk_at "lay step"
      refine ⟨_, ?_, rfl, by walk_at "lay rho"⟩
      rw [List.length_append, ← hw]
      exact hs.step
    · subst e
      have hsl : s.length = 2 ^ m := by rw [hs.1, hm]
      have hsz : (s.map natD).length = 2 ^ m := by rw [List.length_map, hsl]
      repeat walk_at "lay step"
      refine CallP.len (.lst _) (by show _ ≤ _; omega) ?_
      refine Bin.repC (.lst _) (by omega) htb fun g hg hgt => ?_
      rw [hsz]
      have hrep : List.replicate (2 ^ m) (D.int 0) = (List.replicate (2 ^ m) 0).map natD := by rw [List.map_replicate]; rfl
      rw [hrep]
      repeat walk_at "lay step"
      refine Ex1.for ?_
      repeat walk_at "lay step"
      refine CallP.len (.lst _) (by show _ ≤ _; omega) ?_
      rw [hsz]
      repeat walk_at "lay step"
      refine ⟨_, Iterb.rng (by omega) (by omega) (by omega) (by omega), ?_⟩
      rw [show (((2 ^ m : Nat) : Int) - 1).toNat = 2 ^ m - 1 by omega]
      refine ForP.range (fun k ρ μ2 => ∃ l : List Nat, TabGood W m (k + 1) l ∧ μ2 g = some (.list (l.map natD)) ∧ (∀ x, x ≠ g → μ2 x = μ' x) ∧ ρ "sums" = some (.lst (s.map natD)) ∧ ρ "least" = some (.raw (.ref g)))
        (fun k hk ρ μ2 ⟨l, hl, m1, m2, q1, q2⟩ => ?_) (fun ρ μ2 ⟨l, hl, m1, m2, q1, q2⟩ => ?_) ⟨_, TabGood.start W m, mput_self, fun x hx => mput_ne hx, by walk_at "lay rho", by walk_at "lay rho"⟩
      · obtain ⟨S, hS⟩ : ∃ S, S = k + 1 := ⟨_, rfl⟩
        rw [show (1 : Int) + ((k : Nat) : Int) = ((S : Nat) : Int) by omega]
        rw [← hS] at hl
        have hS2 : S < 2 ^ m := by omega
        have hSr : restF S < 64 := parts_lt S (by omega)
        have hlz : (l.map natD).length = 2 ^ m := by rw [List.length_map, hl.len]
        repeat walk_at "lay step"
        refine Bin.band ?_
        repeat walk_at "lay step"
        rw [low_bit S (by omega)]
        repeat walk_at "lay step"
        refine Ex1.while (fun k' ρ μ3 => ∃ (f : Nat) (pre : List Nat), k' ≤ f ∧ pre ++ partsFrom f k' (restF S) = parts S ∧ μ3 = μ2 ∧ ρ "part" = some (.int ((k' : Nat) : Int)) ∧ ρ "best" = some (bestD (bestF (fun x => l.getD x 0) S pre))
            ∧ ρ "rest" = some (.int ((restF S : Nat) : Int)) ∧ ρ "mask" = some (.int ((S : Nat) : Int)) ∧ ρ "sums" = some (.lst (s.map natD)) ∧ ρ "least" = some (.raw (.ref g)))
          (fun k' ρ μ3 ⟨f, pre, hf, hp, e, p1, p2, p3, p4, p5, p6⟩ => ?_) (restF S) ⟨64, [], by omega, rfl, rfl, by walk_at "lay rho", by walk_at "lay rho", by walk_at "lay rho", by walk_at "lay rho", by walk_at "lay rho", by walk_at "lay rho"⟩
        · subst e
          repeat walk_at "lay step"
          have hSp := parts1 S (by omega)
          by_cases h0 : k' = 0
          · subst h0
            rw [if_neg (by decide)]
            rw [partsFrom_zero, List.append_nil] at hp
            subst hp
            repeat walk_at "lay step"
            cases hbs : bestF (fun x => l.getD x 0) S (parts S) with
            | none =>
              rw [hbs] at p2
              dsimp only [bestD] at p2
              repeat walk_at "lay step"
              refine Cmp.isNotNone ?_
              repeat walk_at "lay step"
              rw [if_neg (by decide)]
              repeat walk_at "lay step"
              have hl2 := hl.skip (by omega) (by omega) hS2 (best_none hbs)
              rw [hS] at hl2
              exact ⟨l, hl2, m1, m2, p5, p6⟩
            | some b =>
              rw [hbs] at p2
              dsimp only [bestD, natD] at p2
              repeat walk_at "lay step"
              refine Cmp.isNotNoneInt ?_
              repeat walk_at "lay step"
              rw [if_pos rfl]
              repeat walk_at "lay step"
              refine Sub.list (d := .int ((s.getD S 0 : Nat) : Int)) (.lst _) (by omega) (by omega) (getN (by omega)) ?_
              repeat walk_at "lay step"
              have hsS := hs.2 S (by rw [← hm]; exact hS2)
              rw [← hm] at hsS
              rw [hsS, ← Int.natCast_add]
              refine SetI.list (.inl m1) hgt (by omega) (by omega) (by omega) ?_
              repeat walk_at "lay step"
              have hl2 := hl.set (by omega) hS2 hbs
              refine ⟨l.set S (b + sumS W m S), by rw [hS] at hl2 ⊢; exact hl2, ?_, fun x hx => (mput_ne hx).trans (m2 x hx), by walk_at "lay rho", by walk_at "lay rho"⟩
              rw [mput_self, Int.toNat_natCast, List.map_set]
              rfl
          · have hb0 : (((k' : Nat) : Int) != 0) = true := by rw [bne_iff_ne]; omega
            rw [if_pos hb0]
            obtain ⟨f', hf1, hf2, hf3⟩ := partsFrom_next (rest := restF S) h0 hf
            have hk' : k' ∈ parts S := by rw [← hp, hf3]; simp
            obtain ⟨a0, a1, a2, a3⟩ := hSp k' hk'
            repeat walk_at "lay step"
            refine Sub.list (d := .int ((l.getD k' 0 : Nat) : Int)) (.inr ⟨g, rfl, .inl m1⟩) (by omega) (by omega) (getN (by rw [hl.len]; omega)) ?_
            repeat walk_at "lay step"
            rw [show ((S : Nat) : Int) - ((k' : Nat) : Int) = ((S - k' : Nat) : Int) by omega]
            refine Sub.list (d := .int ((l.getD (S - k') 0 : Nat) : Int)) (.inr ⟨g, rfl, .inl m1⟩) (by omega) (by omega) (getN (by rw [hl.len]; omega)) ?_
            repeat walk_at "lay step"
            obtain ⟨off, hoff⟩ : ∃ off, off = l.getD k' 0 + l.getD (S - k') 0 := ⟨_, rfl⟩
            rw [← Int.natCast_add, ← hoff]
            have hpn : (pre ++ [k']) ++ partsFrom f' ((k' - 1) &&& restF S) (restF S) = parts S := by
              rw [← hp, hf3]; simp
            have hbn := bestF_snoc (l := fun x => l.getD x 0) (S := S) (p := k') (ps := pre)
            rw [← hoff] at hbn
            have hlt : (k' - 1) &&& restF S < k' := Nat.lt_of_le_of_lt Nat.and_le_left (by omega)
            have hpm : ((k' : Nat) : Int) - 1 = ((k' - 1 : Nat) : Int) := by omega
            cases hbs : bestF (fun x => l.getD x 0) S pre with
            | none =>
              rw [hbs] at p2 hbn
              dsimp only at hbn
              refine Cmp.isNone ?_
              repeat walk_at "lay step"
              rw [if_pos rfl, if_pos rfl]
              repeat walk_at "lay step"
              rw [hpm]
              refine Bin.band ?_
              rw [band_nat]
              repeat walk_at "lay step"
              refine ⟨_, hlt, f', pre ++ [k'], hf2, hpn, rfl, by walk_at "lay rho", ?_, by walk_at "lay rho", by walk_at "lay rho", by walk_at "lay rho", by walk_at "lay rho"⟩
              rw [hbn]
              show rset _ _ _ _ = some (.int ((off : Nat) : Int))
              walk_at "lay rho"
            | some b =>
              rw [hbs] at p2 hbn
              dsimp only at hbn
              refine Cmp.isNoneInt (i := ((b : Nat) : Int)) ?_
              repeat walk_at "lay step"
              rw [if_neg (by decide)]
              repeat walk_at "lay step"
              refine Cmp.lt (b := ((b : Nat) : Int)) ?_
              repeat walk_at "lay step"
              by_cases hob : off < b
              · rw [if_pos hob] at hbn
                have ht : decide (((off : Nat) : Int) < ((b : Nat) : Int)) = true := decide_eq_true (by omega)
                rw [if_pos ht, if_pos rfl]
                repeat walk_at "lay step"
                rw [hpm]
                refine Bin.band ?_
                rw [band_nat]
                repeat walk_at "lay step"
                refine ⟨_, hlt, f', pre ++ [k'], hf2, hpn, rfl, by walk_at "lay rho", ?_, by walk_at "lay rho", by walk_at "lay rho", by walk_at "lay rho", by walk_at "lay rho"⟩
                rw [hbn]
                show rset _ _ _ _ = some (.int ((off : Nat) : Int))
                walk_at "lay rho"
              · rw [if_neg hob] at hbn
                have ht : ¬ (decide (((off : Nat) : Int) < ((b : Nat) : Int)) = true) := by rw [decide_eq_true_eq]; omega
                rw [if_neg ht]
                repeat walk_at "lay step"
                rw [if_neg (by decide)]
                repeat walk_at "lay step"
                rw [hpm]
                refine Bin.band ?_
                rw [band_nat]
                repeat walk_at "lay step"
                refine ⟨_, hlt, f', pre ++ [k'], hf2, hpn, rfl, by walk_at "lay rho", ?_, by walk_at "lay rho", by walk_at "lay rho", by walk_at "lay rho", by walk_at "lay rho"⟩
                rw [hbn]
                walk_at "lay rho"
      · rw [show 2 ^ m - 1 + 1 = 2 ^ m by omega] at hl
        have hlz : (l.map natD).length = 2 ^ m := by rw [List.length_map, hl.len]
        refine Ex.freeze (x := "least") q2 (.inl m1) hgt ?_
        have hmd : mdel μ2 g = μ' := by
          funext x
          by_cases hx : x = g
          · subst hx
            unfold mdel
            rw [if_pos rfl, hg]
          · unfold mdel
            rw [if_neg hx, m2 x hx]
        rw [hmd]
        repeat walk_at "lay step"
        refine CallP.len (.lst _) (by show _ ≤ _; omega) ?_
        rw [hsz]
        repeat walk_at "lay step"
        rw [show ((2 ^ m : Nat) : Int) - 1 = ((2 ^ m - 1 : Nat) : Int) by omega]
        refine Sub.list (d := natD (l.getD (2 ^ m - 1) 0)) (.lst _) (by omega) (by omega) (getN (by rw [hl.len]; omega)) ?_
        refine h _ ?_
        rw [← hm]
        exact hl.good _ (by omega) (by omega)
end Lay

/- part RW5 -/
open PySem PySem.W PyProof.Rows
set_option Elab.async false
set_option linter.unusedVariables false
set_option maxRecDepth 100000
set_option maxHeartbeats 0
namespace Lay
variable {X : Cx} {n : Nat} {ρ : Rho} {μ : Mu}
theorem Ev.gloR {env : Env} {x : Str} {pos : Pos} {v : Value} {d : D} {Q : D → Mu → Prop} (G : GloF X x v) (hr : ∀ F : FZ, (∀ a o, X.h₁.get? a = some o → a ≠ X.tb → F a = some o) → Rep F d v) (h : Q d μ) (hk : env.kindOf x = some .globalImplicit := by rfl) (hs : env.scope.kind = .function := by rfl) (hg : env.globals = mainGlobals := by rfl)
    (hb : env.builtins = builtinsNs := by rfl) (hd : (x == ("__debug__" : Str)) = false := by decide) : Ev X n env (.Name x pos) ρ μ Q := fun A F s _ H V =>
  wpAny_Name (by rw [loadName_read hs hk]; exact G env A s _ _ hg hb H.based (Post.now H h (hr F H.base))) hd
/- sorted rows of pairs -/
def rowI (p : Nat × Nat) : List Int := [((p.1 : Nat) : Int), ((p.2 : Nat) : Int)]
theorem leaf_itup (l : List (Nat × Nat)) : l.map leafD = (l.map rowI).map itup := by rw [List.map_map]; rfl
theorem CallP.sortedPairs {l : List (Nat × Nat)} {Q : D → Mu → Prop} (h2 : 2 ≤ l.length) (h64 : l.length < 64)
    (h : ∀ l' : List (Nat × Nat), l'.Perm l → l'.Pairwise (fun a b => a.1 ≤ b.1) → Q (.lst (l'.map leafD)) μ) : CallP X (n + 2) (.builtin "sorted") [.lst (l.map leafD)] μ Q := by
  have hz : (l.map leafD).length = l.length := List.length_map ..
  refine CallP.sorted (n := n) (lt := fun i j => lexLt ((l.map rowI).getD i []) ((l.map rowI).getD j [])) (.lst _) (by omega) (by omega) (lex_swo _) (by
    rw [leaf_itup]
    refine CmpK.tups (by rw [List.length_map]; omega) fun r hr => ?_
    obtain ⟨k, _, rfl⟩ := List.mem_map.mp hr
    simp [rowI]) fun p hp => ?_
  rw [hz] at hp
  have hg : ∀ i < l.length, (l.map leafD).getD i .none = leafD (l.getD i (0, 0)) := fun i hi => by simp [List.getD, hi]
  have e1 : (p.map fun i => (l.map leafD).getD i .none) = (p.map fun i => l.getD i (0, 0)).map leafD := by
    rw [List.map_map]
    exact List.map_congr_left fun i hi => hg i (hp.lt i hi)
  rw [e1]
  refine h _ (pick_perm l (0, 0) hp.1) ?_
  rw [List.pairwise_map]
  refine hp.2.imp_of_mem fun {i j} hi hj hx => ?_
  have hi := hp.lt i hi
  have hj := hp.lt j hj
  have := Lx.le (lex_swo _) hx
  have ei : (l.map rowI).getD i [] = rowI (l.getD i (0, 0)) := by simp [List.getD, hi]
  have ej : (l.map rowI).getD j [] = rowI (l.getD j (0, 0)) := by simp [List.getD, hj]
  rw [ei, ej] at this
  unfold rowI lexLt at this
  split at this
  · omega
  · have := of_decide_eq_false this
    omega
/- the fold of join -/
theorem leaves_le {t : Tree} : ∀ {ts : List Tree}, t ∈ ts → t.2.length ≤ (ts.flatMap fun t => mks t.2).length
  | [], h => by cases h
  | u :: ts, h => by
    rw [List.flatMap_cons, List.length_append, mks_len]
    rcases List.mem_cons.mp h with e | e
    · rw [e]; omega
    · have := leaves_le e; omega
theorem join_fold {m : Nat} {a aK aH c0 : Addr} {fd : FuncData} {mg mb : Str → Option Value} {ps0 : Array Value} {pm cd doc kV ct pm2 cd2 doc2 kV2 ct2 : Value} {an an2 : Option Addr} {cnt : Nat → Nat} {M : List Nat} {N : Nat} {Q : D → Mu → Prop}
    (O : FnOk X a (fdOf stJoin pm cd doc .none kV ct an) (fBody stJoin)) (OH : FnOk X aH (fdOf stHeavier pm2 cd2 doc2 .none kV2 ct2 an2) (fBody stHeavier)) (kH : KeepOk X (.ref aH)) (kK : KeepOk X (.ref aK)) (C : CKF X aK c0 fd mg mb ps0)
    (gs : GloF X "sorted" (.builtin "sorted")) (gc : GloF X "cmp_to_key" (.ref aK)) (gh : GloF X "_law_heavier" (.ref aH)) (hN : M.length ≤ N) (hM : M.length ≤ 60) :
    ∀ (turns : List D) (ts : List Tree) {μ : Mu}, FI cnt M N ts → ts.length = turns.length + 1 → TabOk X μ → (∀ t μ', FI cnt M N [t] → TabOk X μ' → (∀ x, x ≠ X.tb → μ' x = μ x) → Q (.lst ([t].map treeD)) μ') →
      FoldP X (m + 7) (.ref a) turns (.lst (ts.map treeD)) μ Q
  | [], ts, μ, F, hl, ht, h => by
    obtain ⟨t, rfl⟩ : ∃ t, ts = [t] := by
      match ts, hl with
      | [t], _ => exact ⟨t, rfl⟩
    exact h t μ F ht fun _ _ => rfl
  | d :: turns, ts, μ, F, hl, ht, h => by
    rw [List.length_cons] at hl
    have hle : ∀ t ∈ ts, t.2.length ≤ 1000 := fun t ht => by
      have := leaves_le ht
      rw [F.marks.length_eq] at this
      omega
    have htl : ts.length ≤ (ts.flatMap fun t => mks t.2).length := by
      have : ∀ ts : List Tree, (∀ t ∈ ts, 1 ≤ t.2.length) → ts.length ≤ (ts.flatMap fun t => mks t.2).length := fun ts => by
        induction ts with
        | nil => intro _; exact Nat.le_refl _
        | cons t ts ih =>
          intro hq
          rw [List.flatMap_cons, List.length_append, mks_len, List.length_cons]
          have h1 := hq t (.head _)
          have h2 := ih fun x hx => hq x (.tail _ hx)
          omega
      exact this ts fun t ht => full_ne (F.full t ht).2
    rw [F.marks.length_eq] at htl
    refine join_walk O OH kH kK C gs gc gh ht (by omega) (by omega) hle fun r hr1 hr2 => ?_
    have hrl := hr1.length_eq
    obtain ⟨x, y, tl, rfl⟩ : ∃ x y tl, r = x :: y :: tl := by
      match r, hrl with
      | x :: y :: tl, _ => exact ⟨x, y, tl, rfl⟩
      | [x], e => simp at e; omega
      | [], e => simp at e; omega
    rw [List.pairwise_cons, List.pairwise_cons] at hr2
    have F' := (F.perm hr1.symm).join hN (hr2.1 y (.head _)) hr2.2.1
    refine join_fold O OH kH kK C gs gc gh hN hM turns (joinF (x :: y :: tl)) F' ?_ TabOk.warm fun t μ' f1 f2 f3 => ?_
    · simp only [List.length_cons] at hrl
      simp only [joinF, List.length_append, List.length_singleton]
      omega
    · exact h t μ' f1 f2 fun z hz => (f3 z hz).trans (mput_ne hz)
/- counts -/
def cntsF (text : List Nat) : List Nat := (List.range 6).map fun k => text.count k
theorem cnts_set {text : List Nat} {x : Nat} (hx : x < 6) : (cntsF text).set x ((cntsF text).getD x 0 + 1) = cntsF (text ++ [x]) := by
  refine List.ext_getElem (by simp [cntsF]) fun i h1 h2 => ?_
  have hi : i < 6 := by simpa [cntsF] using h2
  rw [List.getElem_set]
  simp only [cntsF, List.getElem_map, List.getElem_range, List.count_append]
  by_cases e : x = i
  · subst e
    rw [if_pos rfl]
    simp [List.getD, hx]
  · rw [if_neg e, List.count_singleton, if_neg (by simpa using e)]
    omega
theorem cnts_get {text : List Nat} {k : Nat} (hk : k < 6) : (cntsF text).getD k 0 = text.count k := by simp [cntsF, List.getD, hk]
def marksF (text : List Nat) : List Nat := (List.range 6).filter fun k => text.count k != 0
theorem marks_mem {text : List Nat} {k : Nat} : k ∈ marksF text ↔ k < 6 ∧ k ∈ text := by
  unfold marksF
  rw [List.mem_filter, List.mem_range, bne_iff_ne, Ne, List.count_eq_zero, Decidable.not_not]
theorem marks_nodup (text : List Nat) : (marksF text).Nodup := List.nodup_range.filter _
theorem marks_len (text : List Nat) : (marksF text).length ≤ 6 := by
  have := List.length_filter_le (fun k => text.count k != 0) (List.range 6)
  rw [List.length_range] at this
  exact this
theorem marks_sorted (text : List Nat) : (marksF text).Pairwise fun a b => a ≤ b := (List.pairwise_lt_range.imp fun h => Nat.le_of_lt h).filter _
theorem wsum_text {text : List Nat} (h : ∀ x ∈ text, x < 6) : wsum (fun k => text.count k) (marksF text) = text.length := by
  have := sum_count (f := fun _ => 1) (marks_nodup text) fun x hx => marks_mem.mpr ⟨h x hx, hx⟩
  have h1 : ∀ l : List Nat, (l.map fun _ => 1).sum = l.length := fun l => by
    induction l with
    | nil => rfl
    | cons a l ih => rw [List.map_cons, List.sum_cons, ih, List.length_cons]; omega
  rw [h1] at this
  rw [this]
  simp [wsum]
/-- the tail of the text -/
def tailL : List Nat := [0, 1, 1, 2, 2, 2, 2, 3, 3, 3, 3, 3, 3, 3, 3]
def textF (xs : List Int) : List Nat := (xs.map fun x => (x.fmod 6).toNat) ++ tailL
theorem text_lt (xs : List Int) : ∀ x ∈ textF xs, x < 6 := fun x hx => by
  rcases List.mem_append.mp hx with h | h
  · obtain ⟨y, _, rfl⟩ := List.mem_map.mp h
    have h2 := Int.fmod_lt_of_pos y (show (0 : Int) < 6 by decide)
    have h1 := Int.fmod_nonneg_of_pos y (show (0 : Int) < 6 by decide)
    omega
  · have h2 : ∀ x ∈ tailL, x < 6 := by decide
    exact h2 x h
theorem marks_four (xs : List Int) : 4 ≤ (marksF (textF xs)).length := by
  have hm : ∀ k ∈ ([0, 1, 2, 3] : List Nat), ((textF xs).count k != 0) = true := fun k hk => by
    have h2 : ∀ k ∈ ([0, 1, 2, 3] : List Nat), k ∈ tailL := by decide
    rw [bne_iff_ne, Ne, List.count_eq_zero, Decidable.not_not]
    exact List.mem_append_right _ (h2 k hk)
  unfold marksF
  rw [show List.range 6 = [0, 1, 2, 3] ++ [4, 5] from rfl, List.filter_append, List.filter_eq_self.mpr hm, List.length_append]
  show 4 ≤ 4 + _
  omega
end Lay

/- part RW6 -/
open PySem PySem.W PyProof.Rows
set_option Elab.async false
set_option linter.unusedVariables false
set_option maxRecDepth 100000
set_option maxHeartbeats 0
namespace Lay
variable {X : Cx} {n : Nat} {ρ : Rho} {μ : Mu}
/- the look of a name -/
local macro_rules | `(tactic| walk_at "lay rho") => `(tactic| first
  | rfl
  | assumption
  | exact rset_self ..
  | (refine (rset_ne _ _ (by decide)).trans ?_; walk_at "lay rho"))
local macro_rules | `(tactic| walk_at "lay kept") => `(tactic| first | exact .inl rfl | exact keptC rfl)
local macro_rules | `(tactic| walk_at "lay name") => `(tactic| first
  | refine Ev.name (by walk_at "lay rho") ?_
  | refine Ev.nameC (by walk_at "lay rho") ?_
  | refine Ev.nameC ((cRho_of rfl).trans (by walk_at "lay rho")) ?_
  | refine Ev.glo (by assumption) ?_)
local macro_rules | `(tactic| walk_at "lay step") => `(tactic| first
  | with_reducible refine Ex.cons ?_
  | with_reducible refine Ex.nil ?_
  | with_reducible refine Ex1.ret ?_
  | with_reducible refine Ex1.ite ?_
  | ((with_reducible refine Ex1.append ?y1 ?y2 ?y3 ?y4 ?y5 ?y6 ?y7); (case y2 => rfl); (case y3 => rfl); (case y4 => rfl); (case y5 => rfl); (case y6 => rfl); (case y7 => rfl))
  | ((with_reducible refine Ex1.asg ?y1 ?y2 ?y3 ?y4); (case y2 => rfl); (case y3 => rfl); (case y4 => rfl))
  | ((with_reducible refine AsgP.name ?y1 ?y2); (case y1 => walk_at "lay kept"))
  | ((with_reducible refine AsgP.tup ?y1 ?y2 ?y3); (case y1 => rfl); (case y3 => exact names_each rfl))
  | with_reducible refine AsgL.more ?_
  | with_reducible refine AsgL.done ?_
  | with_reducible refine Ev.int ?_
  | with_reducible refine Ev.none ?_
  | with_reducible refine Ev.bool ?_
  | ((with_reducible refine (?_ : Ev _ _ _ (.Name _ _) _ _ _)); walk_at "lay name")
  | with_reducible refine Ev.bin ?_
  | with_reducible refine Ev.una ?_
  | with_reducible refine Ev.slice ?_
  | with_reducible refine Ev.sub ?_
  | with_reducible refine Ev.ifx ?_
  | with_reducible refine Ev.tup ?_
  | ((with_reducible refine Ev.cmp ?y1 ?y2); (case y2 => with_unfolding_all rfl))
  | ((with_reducible refine Ev.call ?y1 ?y2 ?y3 ?y4); (case y2 => rfl); (case y3 => rfl); (case y4 => rfl))
  | ((with_reducible refine EvL.cons ?y1 ?y2); (case y2 => rfl))
  | with_reducible refine EvL.nil ?_
  | ((with_reducible refine (?_ : Ev _ _ _ (.List (_ :: _) _) _ _ _)); refine Ev.lst ?_)
  | ((with_reducible refine (?_ : Small _ ∧ _)); refine ⟨Nat.le_of_ble_eq_true rfl, ?_⟩)
  | ((with_reducible refine (?_ : ∃ vf, D.raw _ = .raw vf ∧ KeepOk _ vf ∧ _)); refine ⟨_, rfl, (by first | exact KeepOk.builtin _ | exact KeepOk.type _ | assumption), ?_⟩)
  | with_reducible refine CallP.range1 ?_
  | with_reducible refine CallP.range2 ?_
  | with_reducible refine CallP.min2 ?_
  | ((with_reducible refine Sub.tup (d := ?dd) ?y1 ?y2 ?y3 ?y4 ?y5); (case y1 => decide); (case y2 => decide); (case y3 => rfl); (case y5 => (intro _ _; with_unfolding_all rfl)))
  | with_reducible refine Tr.not ?_
  | with_reducible refine Tr.boolop ?_
  | ((with_reducible refine Tr.cmp ?y1 ?y2); (case y2 => with_unfolding_all rfl))
  | with_reducible refine Tru.bool ?_
  | with_reducible refine Bin.add ?_
  | with_reducible refine Bin.sub ?_
  | with_reducible refine Cmp.eq ?_
  | with_reducible refine Cmp.ne ?_
  | with_reducible refine Cmp.lt ?_
  | with_reducible refine Cmp.gt ?_
  | with_reducible refine Cmp.le ?_
  | with_reducible refine Cmp.ge ?_
  | with_reducible refine Una.neg ?_)
local macro_rules | `(tactic| walk_at "lay step") => `(tactic| first
  | with_reducible refine TrL.and ?_
  | with_reducible refine TrL.or ?_
  | with_reducible refine TrL.andNil ?_
  | with_reducible refine TrL.orNil ?_
  | ((with_reducible refine Bin.floordiv ?y1 ?y2 ?y3); (case y1 => decide); (case y2 => exact PyProof.noPylong_small (by decide)))
  | ((with_reducible refine Bin.mod ?y1 ?y2); (case y1 => decide)))
local macro_rules | `(tactic| walk_at "lay step") => `(tactic| ((with_reducible refine Ex1.setitem ?y1 ?y2); (case y2 => rfl)))
/-- what the law stands on -/
structure LF (X : Cx) (aK aR aH aJ aO aW aD aL aT am : Addr) : Prop where
  glen : GloF X "len" (.builtin "len")
  grng : GloF X "range" (.type "range")
  gsor : GloF X "sorted" (.builtin "sorted")
  glst : GloF X "list" (.type "list")
  gck : GloF X "cmp_to_key" (.ref aK)
  gred : GloF X "reduce" (.ref aR)
  ghv : GloF X "_law_heavier" (.ref aH)
  gjo : GloF X "_law_join" (.ref aJ)
  gwo : GloF X "_law_words" (.ref aO)
  gwr : GloF X "_law_write" (.ref aW)
  grd : GloF X "_law_read" (.ref aD)
  gle : GloF X "_law_least" (.ref aL)
  tail : GloF X "_law_TAIL" (.ref aT) ∧ ∀ F : FZ, (∀ a o, X.h₁.get? a = some o → a ≠ X.tb → F a = some o) → Rep F (.lst (tailL.map natD)) (.ref aT)
  giter : GloF X "iter" (.builtin "iter")
  gmiss : GloF X "_initial_missing" (.ref am)
  htb : ∃ o, X.h₁.get? X.tb = some o
  sys : SysOk X
  kK : KeepOk X (.ref aK)
  kR : KeepOk X (.ref aR)
  kH : KeepOk X (.ref aH)
  kJ : KeepOk X (.ref aJ)
  kO : KeepOk X (.ref aO)
  kW : KeepOk X (.ref aW)
  kD : KeepOk X (.ref aD)
  kL : KeepOk X (.ref aL)
  oH : ∃ pm cd doc kV ct an, FnOk X aH (fdOf stHeavier pm cd doc .none kV ct an) (fBody stHeavier)
  oJ : ∃ pm cd doc kV ct an, FnOk X aJ (fdOf stJoin pm cd doc .none kV ct an) (fBody stJoin)
  oO : ∃ pm cd doc kV ct an, FnOk X aO (fdOf stWords pm cd doc .none kV ct an) (fBody stWords)
  oW : ∃ pm cd doc kV ct an, FnOk X aW (fdOf stWrite pm cd doc .none kV ct an) (fBody stWrite)
  oD : ∃ pm cd doc kV ct an, FnOk X aD (fdOf stRead pm cd doc .none kV ct an) (fBody stRead)
  oL : ∃ pm cd doc kV ct an, FnOk X aL (fdOf stLeast pm cd doc .none kV ct an) (fBody stLeast)
  oR : ∃ pm cd doc kV ct an T oT kT, FnOk X aR (fdOf stReduce pm cd doc (.ref T) kV ct an) (fBody stReduce) ∧ X.h₁.get? T = some oT ∧ oT.data = .seq #[.ref am] kT ∧ T ≠ X.tb
  am : ∃ om, X.h₁.get? am = some om ∧ am ≠ X.tb ∧ om.cls ≠ .type "tuple" ∧ om.cls ≠ .type "list"
  ck : ∃ c0 fd mg mb, CKF X aK c0 fd mg mb #[]
theorem mod6_map (xs : List Int) : (xs.map D.int).filterMap (onInt fun x => x.fmod 6) = (xs.map fun x => (x.fmod 6).toNat).map natD := by
  rw [onInt_map, List.map_map, List.map_map]
  refine List.map_congr_left fun x _ => ?_
  have h1 := Int.fmod_nonneg_of_pos x (show (0 : Int) < 6 by decide)
  simp only [Function.comp, natD]
  congr 1
  omega
def keepD (text : List Nat) : D → Option D
  | .int k => if text.count k.toNat != 0 then some (.int k) else .none
  | _ => .none
theorem keep_map (text : List Nat) (l : List Nat) : (l.map natD).filterMap (keepD text) = (l.filter fun k => text.count k != 0).map natD := by
  induction l with
  | nil => rfl
  | cons k l ih =>
    have e : keepD text (natD k) = if (text.count k != 0) = true then some (natD k) else .none := rfl
    rw [List.map_cons, List.filterMap_cons, List.filter_cons, e]
    by_cases h : (text.count k != 0) = true
    · rw [if_pos h, if_pos h, List.map_cons, ← ih]
    · rw [if_neg h, if_neg h, ← ih]
def leafOf (text : List Nat) : D → Option D
  | .int k => some (treeD (text.count k.toNat, [(k.toNat, 0)]))
  | _ => .none
theorem leaf_map (text : List Nat) (l : List Nat) : (l.map natD).filterMap (leafOf text) = (l.map fun k => (text.count k, [(k, 0)])).map treeD := by
  induction l with
  | nil => rfl
  | cons k l ih => rw [List.map_cons, List.filterMap_cons, ih]; rfl
def swapD : D → Option D
  | .tup [.int a, .int b] => some (.tup [.int b, .int a])
  | _ => .none
theorem swap_map (l : List (Nat × Nat)) : (l.map leafD).filterMap swapD = (l.map fun p => (p.2, p.1)).map leafD := by
  induction l with
  | nil => rfl
  | cons p l ih => rw [List.map_cons, List.filterMap_cons, ih]; rfl
theorem last_get {α β : Type} (f : α → β) (ini : List α) (q : α) : ((ini ++ [q]).map f)[((-1 : Int) + (((ini ++ [q]).map f).length : Nat)).toNat]? = some (f q) := by
  have e : ((-1 : Int) + (((ini ++ [q]).map f).length : Nat)).toNat = ini.length := by
    rw [List.length_map, List.length_append, List.length_singleton]
    omega
  rw [e, List.getElem?_map, List.getElem?_append_right (Nat.le_refl _), Nat.sub_self]
  rfl
theorem has_last {α : Type} {l : List α} (h : 1 ≤ l.length) : ∃ ini q, l = ini ++ [q] := by
  rcases List.eq_nil_or_concat l with e | ⟨L, b, e⟩
  · rw [e] at h; simp at h
  · exact ⟨L, b, by simpa using e⟩
theorem bits_len {cs : List Code} {ls : List (Nat × Nat)} {M text : List Nat} (hMn : M.Nodup) (hMt : ∀ x ∈ text, x ∈ M) (hcn : (cs.map fun c => c.2.2).Nodup) (hcM : (cs.map fun c => c.2.2).Perm M)
    (hp : (cs.map fun c => (c.2.1, c.2.2)).Perm (ls.map fun p => (p.2, p.1))) : (text.flatMap (word cs)).length = wdep (fun k => text.count k) ls := by
  rw [List.length_flatMap]
  have e1 : (text.map fun a => (word cs a).length) = text.map (szOf cs) := List.map_congr_left fun a _ => word_len cs a
  rw [e1, sum_count hMn hMt, ← (hcM.map fun k => text.count k * szOf cs k).sum_nat, List.map_map]
  have e2 : (cs.map ((fun k => text.count k * szOf cs k) ∘ fun c => c.2.2)) = cs.map fun c => text.count c.2.2 * c.2.1 := by
    refine List.map_congr_left fun c hc => ?_
    simp only [Function.comp]
    unfold szOf
    rw [find_mark hcn hc]
  have e3 := (hp.map fun p : Nat × Nat => text.count p.2 * p.1).sum_nat
  rw [List.map_map, List.map_map] at e3
  rw [e2]
  exact e3
theorem kr_pos {N d : Nat} {ds : List Nat} (hd : d ∈ ds) (h2 : 2 ≤ ds.length) (hk : kr N ds = 2 ^ N) : 1 ≤ d := by
  refine Nat.pos_of_ne_zero fun e => ?_
  subst e
  obtain ⟨S, T, rfl⟩ := List.append_of_mem hd
  have hp : (S ++ 0 :: T).Perm (0 :: (S ++ T)) := List.perm_middle
  rw [kr_perm hp, kr_cons, Nat.sub_zero] at hk
  have hl := hp.length_eq
  match h : S ++ T, hl with
  | [], hl =>
    rw [hl] at h2
    simp at h2
  | x :: l, _ =>
    rw [h, kr_cons] at hk
    have := Nat.two_pow_pos (N - x)
    omega
theorem flat_le {f : Nat → List Nat} {b : Nat} (hf : ∀ x, (f x).length ≤ b) : ∀ l : List Nat, (l.flatMap f).length ≤ b * l.length
  | [] => Nat.zero_le _
  | x :: l => by
    have := flat_le hf l
    have h1 := hf x
    rw [List.flatMap_cons, List.length_append, List.length_cons, Nat.mul_add, Nat.mul_one]
    omega
theorem TabOk.same {μ μ' : Mu} (h : TabOk X μ) (e : μ' X.tb = μ X.tb) : TabOk X μ' := by
  unfold TabOk
  rw [e]
  exact h
def stLaw : Stmt := stmtAt PX 12
theorem law_walk {m : Nat} {a aK aR aH aJ aO aW aD aL aT am : Addr} {pm cd doc kV ct : Value} {an : Option Addr} {xs : List Int}
    (O : FnOk X a (fdOf stLaw pm cd doc .none kV ct an) (fBody stLaw)) (L : LF X aK aR aH aJ aO aW aD aL aT am) (h63 : xs.length ≤ 63) (hmt : μ X.tb = some (.obj (tabO #[]))) :
    CallP X (m + 9) (.ref a) [.lst (xs.map .int)] μ (fun d _ => d = .bool true) := by
  obtain ⟨glen, grng, gsor, glst, gck, gred, ghv, gjo, gwo, gwr, grd, gle, ⟨gta, hta⟩, giter, gmiss, htb, sys, kK, kR, kH, kJ, kO, kW, kD, kL, ⟨_, _, _, _, _, _, oH⟩, ⟨_, _, _, _, _, _, oJ⟩, ⟨_, _, _, _, _, _, oO⟩, ⟨_, _, _, _, _, _, oW⟩, ⟨_, _, _, _, _, _, oD⟩, ⟨_, _, _, _, _, _, oL⟩, ⟨_, _, _, _, _, _, T, oTT, kTT, oR, hT1, hT2, hT3⟩, ⟨om, ham1, ham2, ham3, ham4⟩, ⟨c0, fd, mg, mb, C⟩⟩ := L
  refine CallP.fn (names := ["script"]) (dvs := []) O (fun s vs hB hl => ?_) (fun x hx => ?_) fun L => ?_
  · obtain ⟨v1, rfl⟩ : ∃ v1, vs = [v1] := by
      match vs, hl with
      | [v1], _ => exact ⟨v1, rfl⟩
    intro M A E Q' hq
    have e : bindArgs (fdOf stLaw pm cd doc .none kV ct an) ⟨[v1], []⟩ = pure (List.zip (["script"] : List Str) ([v1] ++ [])) := by rfl
    rw [e]
    exact wpAny_pure hq
  · obtain rfl := List.mem_singleton.mp hx
    first | exact .inl rfl | exact .inr ⟨rfl, by decide⟩
  · obtain ⟨body, hb⟩ : ∃ b, b = fBody stLaw := ⟨_, rfl⟩
    rw [← hb]
    delta fBody stLaw stmtAt at hb
    dsimp only [PX, PySem.Challenge.pw_dw5008_02, List.getElem?_cons_succ, List.getElem?_cons_zero, Option.getD_some] at hb
    subst hb
    have hlz : (xs.map D.int).length ≤ 63 := by rw [List.length_map]; exact h63
    repeat walk_at "lay step"
    refine Ev.comp (compOk rfl) ?_
    repeat walk_at "lay step"
    refine ⟨_, Iterb.lst _, fun Cc => CompP.pure (onInt fun x => x.fmod 6) (fun d hd => ?_) (by simp only [List.length_nil]; omega) ?_⟩
    · obtain ⟨x, hx, rfl⟩ := List.mem_map.mp hd
      repeat walk_at "lay step"
      refine TrA.none ?_
      rw [if_pos rfl]
      repeat walk_at "lay step"
      exact ⟨rfl, rfl⟩
    rw [List.nil_append, mod6_map]
    refine Ev.gloR gta hta ?_
    refine Bin.concat (.lst _) (.lst _) (by show _ ≤ _; rw [List.length_append, List.length_map, List.length_map, List.length_map]; show _ + 15 ≤ _; omega) ?_
    rw [← List.map_append]
    obtain ⟨text, htext⟩ : ∃ text, text = textF xs := ⟨_, rfl⟩
    have hte : (xs.map fun x => (x.fmod 6).toNat) ++ tailL = text := htext.symm
    rw [hte]
    have htl : ∀ x ∈ text, x < 6 := fun x hx => text_lt xs x (htext ▸ hx)
    have h4 : 4 ≤ (marksF text).length := htext ▸ marks_four xs
    have h6 := marks_len text
    have htz : text.length ≤ 78 := by
      rw [← hte, List.length_append, List.length_map]
      show _ + 15 ≤ _
      omega
    clear hte htext
    refine AsgP.name (by walk_at "lay kept") ?_
    refine Ex.cons (Ex1.asg (Ev.lstC ?_ htb))
    repeat walk_at "lay step"
    intro g hg hgt
    repeat walk_at "lay step"
    refine Ex1.for ?_
    repeat walk_at "lay step"
    refine ⟨_, Iterb.lst _, ?_⟩
    refine ForP.eachM natD (fun pre ρ μ' => CellL μ' g ((cntsF pre).map natD) ∧ (∀ x, x ≠ g → μ' x = μ x) ∧ ρ "text" = some (.lst (text.map natD)) ∧ ρ "counts" = some (.raw (.ref g)))
      (fun pre x post hc ρ μ' ⟨m1, m2, q1, q2⟩ => ?_) (fun ρ μ' ⟨m1, m2, q1, q2⟩ => ?_) ⟨.inr mput_self, fun x hx => mput_ne hx, by walk_at "lay rho", by walk_at "lay rho"⟩
    · have hx6 : x < 6 := htl x (by rw [hc]; simp)
      have hcz : (cntsF pre).length = 6 := by simp [cntsF]
      have hcz2 : ((cntsF pre).map natD).length = 6 := by rw [List.length_map, hcz]
      refine AsgP.name (by walk_at "lay kept") ?_
      have hxd : natD x = .int ((x : Nat) : Int) := rfl
      rw [hxd]
      repeat walk_at "lay step"
      refine Sub.list (d := .int (((cntsF pre).getD x 0 : Nat) : Int)) (.inr ⟨g, rfl, m1⟩) (by omega) (by omega) (getN (by omega)) ?_
      repeat walk_at "lay step"
      refine SetI.list m1 hgt (by omega) (by omega) (by omega) ?_
      repeat walk_at "lay step"
      refine ⟨.inl ?_, fun z hz => (mput_ne hz).trans (m2 z hz), by walk_at "lay rho", by walk_at "lay rho"⟩
      rw [mput_self, Int.toNat_natCast, ← cnts_set hx6, List.map_set]
      rfl
    · refine Ex.freeze (x := "counts") q2 m1 hgt ?_
      have hmd : mdel μ' g = μ := by
        funext x
        by_cases hx : x = g
        · subst hx
          unfold mdel
          rw [if_pos rfl, hg]
        · unfold mdel
          rw [if_neg hx, m2 x hx]
      rw [hmd]
      have hcz2 : ((cntsF text).map natD).length = 6 := by simp [cntsF]
      repeat walk_at "lay step"
      have hget : ∀ k < 6, ((cntsF text).map natD)[((k : Nat) : Int).toNat]? = some (.int ((text.count k : Nat) : Int)) := fun k hk => by
        have := getN (l := cntsF text) (i := k) (by simp [cntsF]; omega)
        rw [cnts_get hk] at this
        exact this
      refine Ex1.asgComp (compOk rfl) (by walk_at "lay kept") ?_
      repeat walk_at "lay step"
      refine ⟨_, Iterb.rng (by omega) (by omega) (by omega) (by omega), fun Cc => ?_⟩
      rw [show ((6 : Int) - 0).toNat = 6 from rfl, intsFrom0]
      refine CompP.pure (keepD text) (fun d hd => ?_) (by rw [List.length_map, List.length_range]; simp only [List.length_nil]; omega) ?_
      · obtain ⟨k, hk, rfl⟩ := List.mem_map.mp hd
        have hk := List.mem_range.mp hk
        have hkd : natD k = .int ((k : Nat) : Int) := rfl
        rw [hkd]
        repeat walk_at "lay step"
        refine TrA.one ?_
        repeat walk_at "lay step"
        refine Sub.list (d := .int ((text.count k : Nat) : Int)) (.lst _) (by omega) (by omega) (hget k hk) ?_
        repeat walk_at "lay step"
        by_cases hc : (text.count k != 0) = true
        · have hc2 : (((text.count k : Nat) : Int) != 0) = true := by rw [bne_iff_ne] at hc ⊢; omega
          rw [if_pos hc2]
          repeat walk_at "lay step"
          exact ⟨if_pos hc, rfl⟩
        · have hc2 : ¬ ((((text.count k : Nat) : Int) != 0) = true) := by rw [bne_iff_ne] at hc ⊢; omega
          rw [if_neg hc2]
          exact ⟨if_neg hc, rfl⟩
      rw [List.nil_append, keep_map]
      have hM0 : (List.range 6).filter (fun k => text.count k != 0) = marksF text := rfl
      rw [hM0]
      obtain ⟨M, hM⟩ : ∃ M, M = marksF text := ⟨_, rfl⟩
      rw [← hM] at h4 h6 ⊢
      have hMn : M.Nodup := hM ▸ marks_nodup text
      have hM6 : ∀ k ∈ M, k < 6 := fun k hk => (marks_mem.mp (hM ▸ hk)).1
      have hMt : ∀ k ∈ text, k ∈ M := fun k hk => hM ▸ marks_mem.mpr ⟨htl k hk, hk⟩
      have hMs : M.Pairwise fun a b => a ≤ b := hM ▸ marks_sorted text
      have hMw : wsum (fun k => text.count k) M = text.length := hM ▸ wsum_text htl
      clear hM hM0
      repeat walk_at "lay step"
      refine Ev.comp (compOk rfl) ?_
      repeat walk_at "lay step"
      refine ⟨_, Iterb.lst _, fun Cc => CompP.pure (onNat fun k => text.count k) (fun d hd => ?_) (by rw [List.length_map]; simp only [List.length_nil]; omega) ?_⟩
      · obtain ⟨k, hk, rfl⟩ := List.mem_map.mp hd
        have hk := hM6 k hk
        have hkd : natD k = .int ((k : Nat) : Int) := rfl
        rw [hkd]
        repeat walk_at "lay step"
        refine TrA.none ?_
        rw [if_pos rfl]
        repeat walk_at "lay step"
        exact Sub.list (d := .int ((text.count k : Nat) : Int)) (.lst _) (by omega) (by omega) (hget k hk) ⟨rfl, rfl⟩
      rw [List.nil_append, onNat_map]
      repeat walk_at "lay step"
      have hMl : (M.map fun k => text.count k).length = M.length := List.length_map ..
      refine least_walk (n := m + 7) (W := wOf (fun k => text.count k) M) oL grng glen htb (by omega) (by omega) (fun i hi => ?_) fun Lw hLw => ?_
      · rw [hMl] at hi
        simp [wOf, List.getD, hi]
      rw [hMl] at hLw
      have hLd : natD Lw = .int ((Lw : Nat) : Int) := rfl
      rw [hLd]
      repeat walk_at "lay step"
      have hMz : (M.map natD).length = M.length := List.length_map ..
      refine Ex1.for ?_
      repeat walk_at "lay step"
      refine Ev.una (Ev.int (Una.neg ⟨-1, rfl, _, .lst _, by show _ ≤ _; omega, by rw [pickL_rev]; show _ ≤ _; rw [List.length_reverse]; omega, by decide, ?_⟩))
      rw [pickL_rev, ← List.map_reverse]
      repeat walk_at "lay step"
      refine ⟨_, Iterb.tup _, ?_⟩
      refine ForP.eachM (fun o : List Nat => D.lst (o.map natD)) (l := [M, M.reverse]) (fun pre ρ μ' => TabOk X μ' ∧ ρ "text" = some (.lst (text.map natD)) ∧ ρ "counts" = some (.lst ((cntsF text).map natD)) ∧ ρ "marks" = some (.lst (M.map natD)) ∧ ρ "least" = some (.int ((Lw : Nat) : Int)))
        (fun pre o post hc ρ μ' ⟨ht, q1, q2, q3, q4⟩ => ?_) (fun ρ μ' ⟨ht, q1, q2, q3, q4⟩ => ?_) ⟨.inr ⟨#[], hmt, rfl, by first | exact trivial | simp [TriplesOk]⟩, by walk_at "lay rho", by walk_at "lay rho", by walk_at "lay rho", by walk_at "lay rho"⟩
      · have hop : o.Perm M := by
          have : o ∈ [M, M.reverse] := by rw [hc]; simp
          rcases List.mem_cons.mp this with e | e
          · rw [e]
          · rw [List.mem_singleton.mp e]; exact List.reverse_perm M
        have hol := hop.length_eq
        have hoz : (o.map natD).length = M.length := by rw [List.length_map, hol]
        clear hc
        refine AsgP.name (by walk_at "lay kept") ?_
        repeat walk_at "lay step"
        refine Ex1.asgComp (compOk rfl) (by walk_at "lay kept") ?_
        repeat walk_at "lay step"
        refine ⟨_, Iterb.lst _, fun Cc => CompP.pure (leafOf text) (fun d hd => ?_) (by simp only [List.length_nil]; omega) ?_⟩
        · obtain ⟨k, hk, rfl⟩ := List.mem_map.mp hd
          have hk := hM6 k (hop.mem_iff.mp hk)
          have hkd : natD k = .int ((k : Nat) : Int) := rfl
          rw [hkd]
          repeat walk_at "lay step"
          refine TrA.none ?_
          rw [if_pos rfl]
          repeat walk_at "lay step"
          refine Sub.list (d := .int ((text.count k : Nat) : Int)) (.lst _) (by omega) (by omega) (hget k hk) ?_
          repeat walk_at "lay step"
          exact ⟨rfl, rfl⟩
        rw [List.nil_append, leaf_map]
        repeat walk_at "lay step"
        refine CallP.len (.lst _) (by show _ ≤ _; omega) ?_
        rw [hoz]
        repeat walk_at "lay step"
        refine reduce_walk (dV := .none) (n := m + 7) oR hT1 hT2 hT3 htb giter gmiss ham1 ham2 ham3 ham4 (IterC.rng (by omega) (by omega) (by omega) (by omega)) (.inr ⟨_, rfl⟩) kJ
          (join_fold (cnt := fun k => text.count k) (M := o) (N := 6) oJ oH kH kK C gsor gck ghv (by omega) (by omega) _ _ (FI.start (fun k => text.count k) o 6) (by rw [intsFrom_length, List.length_map, hol]; omega) ht fun t μ2 F2 ht2 hk2 => ?_)
        obtain ⟨f1, f2, f3, f4, _, _⟩ := F2.last
        have hcost := huff_eq hMn h6 hop F2 hLw
        have hwt : t.1 = text.length := by
          rw [f2, ← hMw]
          exact (hop.map _).sum_nat
        have f1 := f1.trans hop
        rw [hol] at f3
        clear F2
        rw [show ([t].map treeD) = [treeD t] from rfl]
        have htz2 : (text.map natD).length = text.length := List.length_map ..
        repeat walk_at "lay step"
        refine CallP.len (.lst _) (Nat.le_of_ble_eq_true rfl) ?_
        repeat walk_at "lay step"
        rw [show ((([treeD t].length : Nat) : Int)) = 1 from rfl, if_neg (show ¬ (((1 : Int) != 1) = true) by decide)]
        repeat walk_at "lay step"
        refine Sub.list (d := treeD t) (.lst _) (by decide) (by decide) rfl ?_
        repeat walk_at "lay step"
        refine Sub.tup (d := .int ((t.1 : Nat) : Int)) (by decide) (by decide) rfl ?_ (by intro _ _; with_unfolding_all rfl)
        repeat walk_at "lay step"
        refine CallP.len (.lst _) (by show _ ≤ _; omega) ?_
        rw [htz2, hwt]
        repeat walk_at "lay step"
        rw [if_neg (show ¬ ((((text.length : Nat) : Int) != ((text.length : Nat) : Int)) = true) by simp)]
        repeat walk_at "lay step"
        refine Sub.list (d := treeD t) (.lst _) (by decide) (by decide) rfl ?_
        repeat walk_at "lay step"
        refine Sub.tup (d := .lst (t.2.map leafD)) (by decide) (by decide) rfl ?_ (by intro _ _; with_unfolding_all rfl)
        repeat walk_at "lay step"
        have htM : t.2.length = M.length := by rw [← mks_len, f1.length_eq]
        refine CallP.sortedPairs (n := m + 6) (by omega) (by omega) fun l' hl1 hl2 => ?_
        have hll := hl1.length_eq
        obtain ⟨ini, q, rfl⟩ := has_last (l := l') (by omega)
        obtain ⟨Mi, mz, hMz⟩ := has_last (l := M) (by omega)
        have hqm : q.1 = mz := by
          have e : mks (ini ++ [q]) = M := List.Perm.eq_of_pairwise (fun a b _ _ h h' => Nat.le_antisymm h h') (by unfold mks; rw [List.pairwise_map]; exact hl2) hMs ((hl1.map _).trans f1)
          rw [hMz, mks, List.map_append] at e
          have := List.append_inj_right' e rfl
          simpa using this
        repeat walk_at "lay step"
        refine Sub.listNeg (.lst _) (by decide) (by rw [List.length_map, hll]; omega) (by decide) (last_get leafD ini q) ?_
        repeat walk_at "lay step"
        refine Sub.tup (d := .int ((q.1 : Nat) : Int)) (by decide) (by decide) rfl ?_ (by intro _ _; with_unfolding_all rfl)
        repeat walk_at "lay step"
        refine Sub.listNeg (d := natD mz) (.lst _) (by decide) (by omega) (by decide) (by rw [hMz]; exact last_get natD Mi mz) ?_
        rw [show natD mz = .int ((mz : Nat) : Int) from rfl, hqm]
        repeat walk_at "lay step"
        rw [if_neg (show ¬ ((((mz : Nat) : Int) != ((mz : Nat) : Int)) = true) by simp)]
        repeat walk_at "lay step"
        rw [if_neg (by decide)]
        repeat walk_at "lay step"
        refine Ev.comp (compOk rfl) ?_
        repeat walk_at "lay step"
        refine Sub.list (d := treeD t) (.lst _) (by decide) (by decide) rfl ?_
        repeat walk_at "lay step"
        refine Sub.tup (d := .lst (t.2.map leafD)) (by decide) (by decide) rfl ?_ (by intro _ _; with_unfolding_all rfl)
        have htlz : (t.2.map leafD).length = M.length := by rw [List.length_map, htM]
        refine ⟨_, Iterb.lst _, fun Cc => CompP.pure swapD (fun d hd => ?_) (by simp only [List.length_nil]; omega) ?_⟩
        · obtain ⟨p, hp, rfl⟩ := List.mem_map.mp hd
          unfold leafD
          repeat walk_at "lay step"
          refine TrA.none ?_
          rw [if_pos rfl]
          repeat walk_at "lay step"
          exact ⟨rfl, rfl⟩
        rw [List.nil_append, swap_map]
        repeat walk_at "lay step"
        have hsw : (t.2.map fun p => (p.2, p.1)).length = M.length := by rw [List.length_map, htM]
        refine CallP.sortedPairs (n := m + 6) (by omega) (by omega) fun R hR1 hR2 => ?_
        have hRl := hR1.length_eq
        obtain ⟨⟨s0, m0⟩, R0, hR⟩ : ∃ x R0, R = x :: R0 := by
          match R, hRl with
          | x :: R0, _ => exact ⟨x, R0, rfl⟩
          | [], e => simp at e; omega
        have hRs : (R.map (·.1)).Perm (dps t.2) := by
          have := hR1.map fun p : Nat × Nat => p.1
          rw [List.map_map] at this
          exact this
        have hRm : (R.map (·.2)).Perm M := by
          have := hR1.map fun p : Nat × Nat => p.2
          rw [List.map_map] at this
          exact List.Perm.trans this f1
        repeat walk_at "lay step"
        refine words_walk (n := m + 7) (N := 6) oO grng htb hR hR2 (fun p hp => by have := f3 p.1 (hRs.mem_iff.mp (List.mem_map_of_mem hp)); omega) (by decide) (by rw [kr_perm hRs, f4]) (hRm.nodup_iff.mpr hMn) (by omega) fun cs gb gw μ3 K hcs hbt hwt' hbw hb0 hw0 hgb hgw hk3 => ?_
        repeat walk_at "lay step"
        refine Tr.val ?_
        repeat walk_at "lay step"
        rw [if_neg (show ¬ ((!true) = true) by decide)]
        repeat walk_at "lay step"
        have hcl : cs.length = M.length := by rw [← hsw, ← hRl, ← hcs, List.length_map]
        have hwl : (wordsF cs).length = M.length := by unfold wordsF; rw [List.length_map, hcl]
        refine CallP.lenI sys hgw (by omega) ?_
        rw [hwl]
        repeat walk_at "lay step"
        refine CallP.len (.lst _) (by show _ ≤ _; rw [List.length_map]; omega) ?_
        rw [List.length_map]
        repeat walk_at "lay step"
        rw [if_neg (show ¬ ((((M.length : Nat) : Int) != ((M.length : Nat) : Int)) = true) by simp)]
        repeat walk_at "lay step"
        rw [if_neg (by decide)]
        repeat walk_at "lay step"
        refine CallP.list (.lst _) (by show _ ≤ _; omega) ?_
        repeat walk_at "lay step"
        refine Ev.lstC ?_ htb
        repeat walk_at "lay step"
        intro ga hga hgat
        have hcm : (cs.map fun c => c.2.2) = R.map (·.2) := by rw [← hcs, List.map_map]; rfl
        have hcz : (cs.map fun c => c.2.1) = R.map (·.1) := by rw [← hcs, List.map_map]; rfl
        have hcM : (cs.map fun c => c.2.2).Perm M := hcm ▸ hRm
        have hcn := hcM.nodup_iff.mpr hMn
        have hct : ∀ x ∈ text, x ∈ cs.map fun c => c.2.2 := fun x hx => hcM.mem_iff.mpr (hMt x hx)
        have hblen : (text.flatMap (word cs)).length = Lw := by
          rw [← hcost]
          exact bits_len hMn hMt hcn hcM (by rw [hcs]; exact hR1)
        have hc1 : ∀ c ∈ cs, 1 ≤ c.2.1 := fun c hc => by
          refine kr_pos (N := 6) (ds := cs.map fun c => c.2.1) (List.mem_map_of_mem (f := fun c : Code => c.2.1) hc) (by rw [List.length_map]; omega) ?_
          rw [hcz, kr_perm hRs, f4]
        have hb6 : (text.flatMap (word cs)).length ≤ 6 * text.length := flat_le (fun x => by
          rw [word_len]
          unfold szOf
          split
          · rename_i c e
            exact (K.small c (List.mem_of_find?_eq_some e)).1
          · omega) text
        have hgaw : ga ≠ gw := by rintro rfl; rw [hgw] at hga; cases hga
        have hgab : ga ≠ gb := by rintro rfl; rw [hgb] at hga; cases hga
        repeat walk_at "lay step"
        refine reduce_walk (dV := .none) (n := m + 7) oR hT1 hT2 hT3 htb giter gmiss ham1 ham2 ham3 ham4 (IterC.lst _) (.inl ⟨_, rfl⟩) kW
          (write_fold (n := m + 6) oW hgat hgaw.symm hcn text [] hct (by rw [List.length_nil]; omega) mput_self ((mput_ne hgaw.symm).trans hgw) fun μ5 n1 n2 => ?_)
        rw [List.nil_append] at n1
        obtain ⟨bits, hbits⟩ : ∃ bits, bits = text.flatMap (word cs) := ⟨_, rfl⟩
        have hread := read_text K hcn hc1 text [] hct
        rw [← hbits] at n1 hblen hb6 hread
        rw [List.nil_append] at hread
        have hbz : (bits.map natD).length = Lw := by rw [List.length_map, hblen]
        repeat walk_at "lay step"
        refine Sub.tup (d := .raw (.ref ga)) (by decide) (by decide) rfl ?_ (by intro _ _; with_unfolding_all rfl)
        repeat walk_at "lay step"
        refine CallP.list (.inr ⟨ga, rfl, .inr n1⟩) (by show _ ≤ _; omega) ?_
        repeat walk_at "lay step"
        refine Ev.lstC ?_ htb
        repeat walk_at "lay step"
        intro gt hgt2 hgtt
        have hgta : gt ≠ ga := by rintro rfl; rw [n1] at hgt2; cases hgt2
        have hb5 : μ5 gb = some (.idict (bookF cs)) := (n2 gb hgab.symm).trans ((mput_ne hgab.symm).trans hgb)
        have hgtb : gt ≠ gb := by rintro rfl; rw [hb5] at hgt2; cases hgt2
        repeat walk_at "lay step"
        refine reduce_walk (dV := .none) (n := m + 7) oR hT1 hT2 hT3 htb giter gmiss ham1 ham2 ham3 ham4 (IterC.lst _) (.inl ⟨_, rfl⟩) kD
          (read_fold (n := m + 6) sys oD hgtt hgtb.symm bits ([], 1) (by simp only [List.length_nil]; omega) mput_self ((mput_ne hgtb.symm).trans hb5) fun μ7 r1 r2 => ?_)
        rw [hread] at r1 ⊢
        dsimp only at r1
        repeat walk_at "lay step"
        have ha7 : μ7 ga = some (.app (bits.map natD)) := (r2 ga hgta.symm).trans ((mput_ne hgta.symm).trans n1)
        refine CallP.len (.inr ⟨ga, rfl, .inr ha7⟩) (by show _ ≤ _; omega) ?_
        rw [hbz]
        repeat walk_at "lay step"
        rw [if_neg (show ¬ ((((Lw : Nat) : Int) != ((Lw : Nat) : Int)) = true) by simp)]
        repeat walk_at "lay step"
        refine Sub.tup (d := .raw (.ref gt)) (by decide) (by decide) rfl ?_ (by intro _ _; with_unfolding_all rfl)
        repeat walk_at "lay step"
        have hkq : ∀ d ∈ text.map natD, kqdOk 8 d.dat = true := fun d hd => by
          obtain ⟨r, hr, rfl⟩ := List.mem_map.mp hd
          rfl
        refine Cmp.neL (IsL.app r1) (.lst _) hkq hkq fun b hb => ?_
        obtain rfl : b = false := by
          cases b with
          | false => rfl
          | true => exact absurd rfl (hb.mp rfl)
        clear hb
        repeat walk_at "lay step"
        rw [if_neg (by decide)]
        repeat walk_at "lay step"
        refine Sub.tup (d := .int 1) (by decide) (by decide) rfl ?_ (by intro _ _; with_unfolding_all rfl)
        repeat walk_at "lay step"
        rw [if_neg (show ¬ (((1 : Int) != 1) = true) by decide)]
        repeat walk_at "lay step"
        rw [if_neg (by decide)]
        repeat walk_at "lay step"
        refine ⟨ht2.same ?_, by walk_at "lay rho", by walk_at "lay rho", by walk_at "lay rho", by walk_at "lay rho"⟩
        rw [r2 _ hgtt.symm, mput_ne hgtt.symm, n2 _ hgat.symm, mput_ne hgat.symm, hk3 _ hbt.symm hwt'.symm]
      · repeat walk_at "lay step"
        rfl
end Lay

/- part RZM -/
open PySem PySem.W PySem.W.X PySem.W.ZRun PyProof.Rows
set_option Elab.async false
namespace Lay
theorem ns_val {h : Heap} {a : Addr} {m : Str → Option Value} {o : Obj} {es : Array DictEntry} {ep : Nat} {x : Str} {r : Option Value} (hn : h.Ns a m) (ho : h.get? a = some o) (hd : o.data = .dict es ep) (hr : nsFind es x = r) : m x = r := by
  obtain ⟨o', es', ep', e1, e2, _, e4⟩ := hn
  rw [ho] at e1
  cases e1
  rw [hd] at e2
  cases e2
  rw [← e4]; exact hr
theorem ints_reps {F : FZ} : ∀ {vs : List Value} {xs : List Int}, IntsAre vs xs → Reps F (xs.map D.int) vs
  | _, _, .nil => rfl
  | _, _, .cons n t h => ⟨_, _, rfl, ⟨t, rfl⟩, ints_reps h⟩
end Lay
open Lay
set_option maxRecDepth 100000 in
set_option maxHeartbeats 0 in
theorem PySem.Challenge.cw_dw5008_02_holds : PySem.Challenge.rw_dw5008_02.Holds := by
  w_on; o_law; z_head; (case hw => w_witness2)
  k_fill
  intro w s₀ s₁ mg mb G y fa o pm cd doc dV kV ho hd hcd hD hmg hg args vals as L hpre hlay hrd hwl hlo
  z_open y L KX ZH ZN ZT
  refine Ground.open G ?_
  intro T B D TE TW
  wrow_args hpre hlay hrd hwl hlo
  obtain ⟨hat, hsz⟩ := script_at L
  have htk := script_toks L ZT
  rw [ZN] at hat hsz
  subst hat
  x_fa T KX hmg
  all_lens
  clear hd hcd hD y hmg
  rename_i xs hs hlay0 hL1 hr1 hl2 wa wb vs wc ra hr h63 hc0 hL w1 r0 hia hlen
  have hX : ∀ h' : Heap, (∀ b o, s₁.heap.get? b = some o → b ≠ 16 → h'.get? b = some o) → h'.NoLimit := fun h' B => let ⟨mc, hns, hn⟩ := T.nolimit; ⟨mc, hns.at' fun o e => B 2 o e (by decide), hn⟩
  let X : Cx := { prog := PX, w := w, h₁ := s₁.heap, tb := 16, gens := s₁.gens, os := s₁.os }
  have gm : ∀ {x : Str} {v : Value}, mg x = some v → GloF X x v := fun e => GloF.mod (X := X) T.g (show mainGlobals ≠ 16 by decide) e
  have gb : ∀ {x : Str} {v : Value}, mg x = none → mb x = some v → GloF X x v := fun e e' => GloF.boot (X := X) T.g (show mainGlobals ≠ 16 by decide) e T.b (show builtinsNs ≠ 16 by decide) e'
  have mv : ∀ {x : Str} {r : Option Value}, nsFind _ x = r → mg x = r := fun e => ns_val T.g (KX 3 _ rfl) rfl e
  have hmb : ∀ {x : Str} {r : Option Value}, x ≠ "__name__" → bootBuiltins x = r → mb x = r := fun h e => (T.builtins _ h).trans e
  have fn : ∀ {a c : Addr} {o oc : Obj} {fd : FuncData} {body : List Stmt} {cs : Array Value} {t : Tok}, s₁.heap.get? a = some o → o.data = .func fd → a ≠ 16 → s₁.heap.get? c = some oc → oc.data = .fields cs → c ≠ 16 → fd.code = .ref c → cs[1]? = some (.str fd.qualname t) → fd.body = .stmts body → fd.closure = [] → fd.scope.isCoroutine = false → fd.scope.isGenerator = false → fd.scope.kind = .function → (fd.scope.names.map (·.1)).Nodup → FnOk X a fd body := fun h1 h2 h3 h4 h5 h6 h7 h8 h9 h10 h11 h12 h13 h14 =>
    ⟨⟨_, h1, h2⟩, h3, fun h' B => hX h' B, fun h' B => ⟨_, _, _, _, h7, B _ _ h4 h6, h5, h8⟩, h9, h10, h11, h12, h13, h14⟩
  have std : Std X := ⟨rfl, KX 2 _ rfl, show (2 : Nat) ≠ 16 by decide, fun h' B => hX h' B⟩
  have oH : ∃ pm cd doc kV ct an, FnOk X 38 (fdOf stHeavier pm cd doc .none kV ct an) (fBody stHeavier) := ⟨_, _, _, _, _, _, fn (KX 38 _ rfl) rfl (by decide) (KX 37 _ rfl) rfl (by decide) rfl rfl rfl rfl rfl rfl rfl (by decide)⟩
  have oJ : ∃ pm cd doc kV ct an, FnOk X 43 (fdOf stJoin pm cd doc .none kV ct an) (fBody stJoin) := ⟨_, _, _, _, _, _, fn (KX 43 _ rfl) rfl (by decide) (KX 42 _ rfl) rfl (by decide) rfl rfl rfl rfl rfl rfl rfl (by decide)⟩
  have oO : ∃ pm cd doc kV ct an, FnOk X 48 (fdOf stWords pm cd doc .none kV ct an) (fBody stWords) := ⟨_, _, _, _, _, _, fn (KX 48 _ rfl) rfl (by decide) (KX 47 _ rfl) rfl (by decide) rfl rfl rfl rfl rfl rfl rfl (by decide)⟩
  have oWt : ∃ pm cd doc kV ct an, FnOk X 55 (fdOf stWrite pm cd doc .none kV ct an) (fBody stWrite) := ⟨_, _, _, _, _, _, fn (KX 55 _ rfl) rfl (by decide) (KX 54 _ rfl) rfl (by decide) rfl rfl rfl rfl rfl rfl rfl (by decide)⟩
  have oD : ∃ pm cd doc kV ct an, FnOk X 62 (fdOf stRead pm cd doc .none kV ct an) (fBody stRead) := ⟨_, _, _, _, _, _, fn (KX 62 _ rfl) rfl (by decide) (KX 61 _ rfl) rfl (by decide) rfl rfl rfl rfl rfl rfl rfl (by decide)⟩
  have oL : ∃ pm cd doc kV ct an, FnOk X 67 (fdOf stLeast pm cd doc .none kV ct an) (fBody stLeast) := ⟨_, _, _, _, _, _, fn (KX 67 _ rfl) rfl (by decide) (KX 66 _ rfl) rfl (by decide) rfl rfl rfl rfl rfl rfl rfl (by decide)⟩
  have oR : ∃ pm cd doc kV ct an TT oT kT, FnOk X 30 (fdOf stReduce pm cd doc (.ref TT) kV ct an) (fBody stReduce) ∧ X.h₁.get? TT = some oT ∧ oT.data = .seq #[.ref 22] kT ∧ TT ≠ X.tb := ⟨_, _, _, _, _, _, 23, _, _, fn (KX 30 _ rfl) rfl (by decide) (KX 29 _ rfl) rfl (by decide) rfl rfl rfl rfl rfl rfl rfl (by decide), KX 23 _ rfl, rfl, show (23 : Nat) ≠ 16 by decide⟩
  have oW : ∃ pm cd doc kV ct an, FnOk X 72 (fdOf stLaw pm cd doc .none kV ct an) (fBody stLaw) := ⟨_, _, _, _, _, _, fn (KX 72 _ rfl) rfl (by decide) (KX 71 _ rfl) rfl (by decide) rfl rfl rfl rfl rfl rfl rfl (by decide)⟩
  have oK : ∃ pm doc ct an, FnOk X 21 (fdOf (stmtAt PX 1) pm (.ref 20) doc .none .none ct an) (fBody (stmtAt PX 1)) := ⟨_, _, _, _, fn (KX 21 _ rfl) rfl (by decide) (KX 20 _ rfl) rfl (by decide) rfl rfl rfl rfl rfl rfl rfl (by decide)⟩
  have kp : ∀ {a : Addr} {o : Obj} {fd : FuncData}, s₁.heap.get? a = some o → o.data = .func fd → a ≠ 16 → KeepOk X (.ref a) := fun h1 h2 h3 => KeepOk.func (X := X) h1 h2 h3
  have ck : ∃ c0 fd mg mb, CKF X 21 c0 fd mg mb #[] := by
    obtain ⟨_, _, _, _, oK⟩ := oK
    exact ⟨20, _, mg, mb, {
      fn := oK
      fdE := ⟨rfl, rfl, rfl, rfl, rfl⟩
      std := std
      ns := T.g
      nb := T.b
      nt := ⟨show mainGlobals ≠ 16 by decide, show builtinsNs ≠ 16 by decide, show sysModules ≠ 16 by decide, show (20 : Nat) ≠ 16 by decide, show (16 : Nat) ≠ cStatics by decide⟩
      bm := ⟨4, _, mv (by kernel_rfl), by decide, show (4 : Nat) ≠ 16 by decide, KX 4 _ rfl, rfl, rfl, rfl⟩
      nm := ⟨_, mv (r := some (.str "law_dw5008_02" 211)) (by kernel_rfl)⟩
      bc := hmb (by decide) (by kernel_rfl)
      ob := ⟨mv (by kernel_rfl), hmb (by decide) (by kernel_rfl)⟩
      sys := ⟨_, KX 1 _ rfl⟩
      c0h := ⟨_, KX 20 _ rfl, ⟨_, rfl, rfl, ⟨_, _, rfl⟩, ⟨_, _, rfl⟩, ⟨_, rfl⟩, ⟨_, _, rfl⟩⟩⟩
      tab := ⟨⟨_, _, KX 20 _ rfl, rfl, rfl, rfl⟩, KX 16 _ rfl⟩
      bind := fun v => rfl }⟩
  have tl : ∀ F : FZ, (∀ a o, X.h₁.get? a = some o → a ≠ X.tb → F a = some o) → Rep F (.lst (tailL.map natD)) (.ref 31) := fun F hF =>
    ⟨31, _, _, _, rfl, hF 31 _ (KX 31 _ rfl) (show (31 : Nat) ≠ 16 by decide), rfl, rfl, ⟨_, _, rfl, ⟨_, rfl⟩, _, _, rfl, ⟨_, rfl⟩, _, _, rfl, ⟨_, rfl⟩, _, _, rfl, ⟨_, rfl⟩, _, _, rfl, ⟨_, rfl⟩, _, _, rfl, ⟨_, rfl⟩, _, _, rfl, ⟨_, rfl⟩, _, _, rfl, ⟨_, rfl⟩, _, _, rfl, ⟨_, rfl⟩, _, _, rfl, ⟨_, rfl⟩, _, _, rfl, ⟨_, rfl⟩, _, _, rfl, ⟨_, rfl⟩, _, _, rfl, ⟨_, rfl⟩, _, _, rfl, ⟨_, rfl⟩, _, _, rfl, ⟨_, rfl⟩, rfl⟩⟩
  have LL : LF X 21 30 38 43 48 55 62 67 31 22 := {
    glen := gb (mv (by kernel_rfl)) (hmb (by decide) (by kernel_rfl))
    grng := gb (mv (by kernel_rfl)) (hmb (by decide) (by kernel_rfl))
    gsor := gb (mv (by kernel_rfl)) (hmb (by decide) (by kernel_rfl))
    glst := gb (mv (by kernel_rfl)) (hmb (by decide) (by kernel_rfl))
    gck := gm (mv (by kernel_rfl))
    gred := gm (mv (by kernel_rfl))
    ghv := gm (mv (by kernel_rfl))
    gjo := gm (mv (by kernel_rfl))
    gwo := gm (mv (by kernel_rfl))
    gwr := gm (mv (by kernel_rfl))
    grd := gm (mv (by kernel_rfl))
    gle := gm (mv (by kernel_rfl))
    tail := ⟨gm (mv (by kernel_rfl)), tl⟩
    giter := gb (mv (by kernel_rfl)) (hmb (by decide) (by kernel_rfl))
    gmiss := gm (mv (by kernel_rfl))
    htb := ⟨_, KX 16 _ rfl⟩
    sys := ⟨⟨_, KX 1 _ rfl⟩, show (16 : Nat) ≠ sysModules by decide⟩
    kK := kp (KX 21 _ rfl) rfl (by decide)
    kR := kp (KX 30 _ rfl) rfl (by decide)
    kH := kp (KX 38 _ rfl) rfl (by decide)
    kJ := kp (KX 43 _ rfl) rfl (by decide)
    kO := kp (KX 48 _ rfl) rfl (by decide)
    kW := kp (KX 55 _ rfl) rfl (by decide)
    kD := kp (KX 62 _ rfl) rfl (by decide)
    kL := kp (KX 67 _ rfl) rfl (by decide)
    oH := oH
    oJ := oJ
    oO := oO
    oW := oWt
    oD := oD
    oL := oL
    oR := oR
    am := ⟨_, KX 22 _ rfl, show (22 : Nat) ≠ 16 by decide, fun e => absurd (Value.type.inj (show Value.type "object" = Value.type "tuple" from e)) (by decide), fun e => absurd (Value.type.inj (show Value.type "object" = Value.type "list" from e)) (by decide)⟩
    ck := ck }
  obtain ⟨_, _, _, _, _, _, oW⟩ := oW
  let F₀ : FZ := fun b => if b = 16 then none else s₁.heap.get? b
  let μ₀ : Mu := fun b => if b = 16 then some (.obj (tabO #[])) else none
  have hf1 : ∀ b o, b ≠ 16 → s₁.heap.get? b = some o → F₀ b = some o := fun b o hb e => by dsimp only [F₀]; rw [if_neg hb]; exact e
  have H : HC X F₀ μ₀ s₁ := by
    refine ⟨fun b o e => ?_, fun b o e hb => hf1 b o hb e, fun b c e => ?_, OldK.refl _, rfl, rfl⟩
    · dsimp only [F₀] at e
      split at e
      · cases e
      · exact e
    · dsimp only [μ₀] at e
      split at e
      · rename_i q
        subst q
        cases e
        exact ⟨if_pos rfl, .inl rfl, _, KX 16 _ rfl, rfl⟩
      · cases e
  obtain ⟨oL73, hL73, hLc, kL73, hLd⟩ := hL
  have R73 : Rep F₀ (.lst (xs.map .int)) (.ref 73) := ⟨73, _, _, _, rfl, hf1 73 _ (by decide) hL73, hLc, hLd, ints_reps hia⟩
  refine wpAny_mono (law_walk (X := X) (m := 0) (xs := xs) oW LL (by omega) (if_pos rfl) callerA F₀ s₁ [.ref 73] ⟨rfl, by decide, by decide⟩ H ⟨_, _, rfl, R73, rfl⟩) ?_ (fun _ _ e => e.elim)
  rintro v s' ⟨d, μ', F', rfl, r, H', S'⟩
  obtain rfl : v = .bool true := r
  refine ⟨.inl ⟨_, _, [], rfl, fun _ => rfl, ReadsW.bool true, ?_, fun _ => ⟨List.nodup_nil, fun _ hm => (nomatch hm)⟩⟩, H'.old, H'.os, .of_eq (H'.gens.trans hg)⟩
  first | rfl | wrow_post
