import PyProof.Rows.All
import Wide.All
import OpenK.AllK
import Wide.FinOn
import PyProof.Draws
import PyProof.EnumMake
import KE.KDictLaws
import PyProof.Rows.SetObj
import KE.KDictIter
import KE.KLam
import OpenK.KCls
import PyProof.ListRange
import PyProof.SetRoads
import KE.KDictList
import PyProof.RulesDel
import PyProof.RulesDelMore
import PyProof.TupleCall
import PyProof.CollectWalk
import PySem.Challenge.RW_mu0006_06
set_option Elab.async false
set_option compiler.extract_closed false
section
open PySem PySem.W PyProof.Rows
set_option Elab.async false
set_option linter.unusedVariables false
namespace Mine
noncomputable abbrev Ff : Value → Shared → Prop := fun _ _ => False
noncomputable def Rest (s₀ s : Shared) : Prop := s.gens = s₀.gens ∧ s.drawn = s.drawn ∧ s.os = s₀.os
noncomputable def Keeps (s s' : Shared) : Prop := ∃ h' tk, s' = { s with heap := h', toks := tk, drawn := s'.drawn } ∧ ∀ b o, s.heap.get? b = some o → h'.get? b = some o
theorem Rest.trans {a b c : Shared} (x : Rest a b) (y : Rest b c) : Rest a c := ⟨y.1.trans x.1, rfl, y.2.2.trans x.2.2⟩
noncomputable abbrev Ext (h h' : Heap) : Prop := ∀ b o, h.get? b = some o → h'.get? b = some o
theorem Ext.trans {a b c : Heap} (x : Ext a b) (y : Ext b c) : Ext a c := fun q o e => y q o (x q o e)
theorem keepsRefl (s : Shared) : Keeps s s := ⟨s.heap, s.toks, rfl, fun _ _ e => e⟩
theorem keepsTrans {a b c : Shared} (x : Keeps a b) (y : Keeps b c) : Keeps a c := by
  obtain ⟨h, t, e, k⟩ := x
  obtain ⟨h', t', e', k'⟩ := y
  rw [e] at e'
  have e2 : b.heap = h := by rw [e]
  exact ⟨h', t', e', fun q o m => k' q o (by rw [e2]; exact k q o m)⟩
theorem keepsExt {a b : Shared} (x : Keeps a b) : Ext a.heap b.heap := by obtain ⟨h, t, e, k⟩ := x; rw [e]; exact k
theorem keepsRest {a b : Shared} (x : Keeps a b) : Rest a b := by obtain ⟨h, t, e, k⟩ := x; rw [e]; exact ⟨rfl, rfl, rfl⟩
theorem keepsOf {a b : Shared} (k : Ext a.heap b.heap) (r : Rest a b) : Keeps a b := by
  obtain ⟨h, gg, dr, tk, os⟩ := b
  obtain ⟨r1, r2, r3⟩ := r
  simp only at r1 r3
  subst r1 r3
  exact ⟨h, tk, rfl, k⟩
theorem keepsTok (s : Shared) (t : Nat) : Keeps s { s with toks := t } := ⟨s.heap, t, rfl, fun _ _ e => e⟩
noncomputable abbrev Vars := List (PySem.Str × Value)
noncomputable abbrev Own := List (Addr × (Obj → Prop))
structure At (h₀ : Heap) (L : Addr) (vars : Vars) (own : Own) (s₀ s : Shared) : Prop where
  fr : ∃ m, Fr h₀ L s.heap m ∧ ∀ p ∈ vars, m p.1 = some p.2
  news : ∀ p ∈ own, (∃ o, s.heap.get? p.1 = some o ∧ p.2 o) ∧ p.1 ≠ L ∧ h₀.get? p.1 = none
  nodup : (own.map (·.1)).Nodup
  rest : Rest s₀ s
section
variable {h₀ : Heap} {L : Addr} {vars vars' : Vars} {own own' : Own} {s₀ s s' : Shared}
inductive Put (a : Addr) (P' : Obj → Prop) : Own → Own → Prop
  | here {P r} : Put a P' ((a, P) :: r) ((a, P') :: r)
  | there {p r r'} : Put a P' r r' → Put a P' (p :: r) (p :: r')
inductive Drop (x : PySem.Str) : Vars → Vars → Prop
  | nil : Drop x [] []
  | skip {v r r'} : Drop x r r' → Drop x ((x, v) :: r) r'
  | keep {p r r'} : (p.1 == x) = false → Drop x r r' → Drop x (p :: r) (p :: r')
end
section
variable {M : Model} {A : Around} {E : Value → Shared → Prop} {h₀ : Heap} {L : Addr} {vars vars' : Vars} {own own' : Own} {s₀ : Shared} {qn : PySem.Str} {sc : Scope} {f : Addr} {cd : Value} {cl : List (PySem.Str × Addr)}
noncomputable abbrev Go (h₀ : Heap) (L : Addr) (vars : Vars) (own : Own) (s₀ : Shared) (C : Shared → Prop) : Prop := ∀ s, At h₀ L vars own s₀ s → C s
end
section
variable {prog : Program} {w : World} {A : Around} {E : Value → Shared → Prop} {h₀ : Heap} {L : Addr} {vars vars' : Vars} {own own' : Own} {s₀ : Shared} {a b : Int} {t u : Tok} {Q : Value → Shared → Prop}
end
end Mine
end
section
open PySem PySem.W PyProof.Rows
set_option Elab.async false
set_option linter.unusedVariables false
namespace Mine
theorem ff {α : Type} {M : Model} {A : Around} {E : Value → Shared → Prop} {s : Shared} {t : Sem α} {Q : α → Shared → Prop} (h : wpAny M A t Q Ff s) : wpAny M A t Q E s := wpAny_mono h (fun _ _ x => x) fun _ _ x => x.elim
structure Iter (prog : Program) (w : World) (A : Around) (I : Addr) (n : Nat) (P : Nat → Value → Prop) (It : Nat → Obj → Prop) (Side : Heap → Prop) : Prop where
  item : ∀ i (s : Shared) (Q : Option Value → Shared → Prop), i < n → (∃ o, s.heap.get? I = some o ∧ It i o) → Side s.heap →
    (∀ v h' tk, P i v → (∃ o, h'.get? I = some o ∧ It (i + 1) o) → (∀ b o, b ≠ I → s.heap.get? b = some o → h'.get? b = some o) → Q (some v) { s with heap := h', toks := tk }) → wpAny (model prog w) A (pyNext (.ref I)) Q Ff s
  done : ∀ (s : Shared) (Q : Option Value → Shared → Prop), (∃ o, s.heap.get? I = some o ∧ It n o) → Side s.heap →
    (∀ h' tk, (∀ b o, b ≠ I → s.heap.get? b = some o → h'.get? b = some o) → Q none { s with heap := h', toks := tk }) → wpAny (model prog w) A (pyNext (.ref I)) Q Ff s
section
variable {prog : Program} {w : World} {A : Around} {I : Addr}
end
section
variable {prog : Program} {w : World} {A : Around} {E : Value → Shared → Prop} {h₀ : Heap} {L : Addr} {s₀ : Shared} {qn : PySem.Str} {sc : Scope} {f : Addr} {cd : Value} {cl : List (PySem.Str × Addr)}
end
end Mine
end
section
open PySem PySem.W PyProof.Rows
set_option Elab.async false
set_option linter.unusedVariables false
namespace Mine
noncomputable def Cel (v : Option Value) : Obj → Prop := fun o => o.data = .cell v
noncomputable def retOf : Flow → Value
  | .ret v => v
  | _ => .none
section
variable {prog : Program} {w : World} {A : Around} {E : Value → Shared → Prop} {s : Shared}
theorem r_entry {name qual : PySem.Str} {params : Arguments} {body : List Stmt} {sc : Scope} {dV kV doc pm cdv ct : Value} {an : Option Addr} {fo : Obj} {f : Addr} {args : List Value} {kw : List (PySem.Str × Value)} {binds : List (PySem.Str × Value)} {Q : Value → Shared → Prop}
    {vars : Vars} {cl : Addr → List (PySem.Str × Addr)} {own : Addr → Own}
    (hroom : A.depth < recursionLimit) (ho : s.heap.get? f = some fo) (hd : fo.data = .func (fnX name qual params body sc [] dV kV doc pm an cdv ct)) (hlim : s.heap.NoLimit) (hcd : s.heap.CodeRec cdv qual)
    (hbind : BindsTo s (fnX name qual params body sc [] dV kV doc pm an cdv ct) ⟨args, kw⟩ binds)
    (hkind : (binds.all fun y => sc.names.lookup y.1 == some .local || sc.names.lookup y.1 == some .cell) = true)
    (hnd : ((cellsFrom 0 sc.names []).map (·.1)).Nodup)
    (hcl : ∀ L, cellsFrom (L + 1) sc.names [] = cl L)
    (hvars : (vars.map fun p => bindL (fun x => sc.names.lookup x) binds (fun _ => none) p.1) = vars.map fun p => some p.2)
    (hown : ∀ L, ((cl L).map fun p => (p.2, Cel (bindC (fun x => sc.names.lookup x) binds (fun _ => none) p.1))) = own L)
    (hfl : (sc.isCoroutine || sc.isGenerator || !(sc.kind == .function)) = false)
    (k : ∀ L, Go s.heap L vars (own L) s fun s₁ => wpAny (model prog w) (A.deeper (envX qual sc L f cdv (cl L))) (execs body (envX qual sc L f cdv (cl L))) (fun fl s' => Q (retOf fl) s') Ff s₁) :
    wpAny (model prog w) A (call (.ref f) args kw) Q E s := by
  simp only [Bool.or_eq_false_iff, Bool.not_eq_false'] at hfl
  obtain ⟨⟨hco, hgen⟩, hk⟩ := hfl
  have hk' : sc.kind = .function := by simpa using hk
  refine wpAny_call (codeAny_call_function hroom ho hd hco hgen rfl hcd (hbind _ _ _ _ ?_))
  refine wpAny_newFunctionEnv_cells hk' (kindsX hkind _) fun env' he s' x => ?_
  subst he
  refine ⟨hlim.keeps x.toInCall.keep, codeAny_func ?_⟩
  obtain ⟨h₁, tk, rfl, _⟩ := x.done
  have hk₁ := x.toInCall.keep
  have henv : newEnv sc s.heap.objs.size mainGlobals (cellsFrom (s.heap.objs.size + 1) sc.names []) (qual ++ PySem.Str.ofString ".<locals>.") (some f) cdv none builtinsNs = envX qual sc s.heap.objs.size f cdv (cl s.heap.objs.size) := by
    rw [hcl]; rfl
  have hat : At s.heap s.heap.objs.size vars (own s.heap.objs.size) s { s with heap := h₁, toks := tk } := by
    refine ⟨⟨_, ⟨x.toInCall.ns, hk₁, Nat.le_refl _⟩, fun p hp => ?_⟩, ?_, ?_, ⟨rfl, rfl, rfl⟩⟩
    · have := (List.map_inj_left.mp hvars) p hp
      exact this
    · rw [← hown]
      intro p hp
      obtain ⟨⟨n, c⟩, hm, rfl⟩ := List.mem_map.mp hp
      rw [← hcl] at hm
      have e := lookup_of_mem_nodup (cellsFrom_names sc.names 0 (s.heap.objs.size + 1) [] [] rfl ▸ hnd) hm
      have h1 := x.cell n c e
      have h2 := x.above n c hm
      refine ⟨h1, Nat.ne_of_gt h2, ?_⟩
      cases q : s.heap.get? c with
      | none => rfl
      | some o => exact absurd (Heap.lt_size q) (Nat.not_lt.mpr (Nat.le_of_lt h2))
    · rw [← hown, ← hcl, List.map_map]
      have := x.apart
      exact List.pairwise_map.mpr this
  have := k s.heap.objs.size _ hat
  show wpAny (model prog w) (A.deeper (newEnv sc s.heap.objs.size mainGlobals (cellsFrom (s.heap.objs.size + 1) sc.names []) (qual ++ PySem.Str.ofString ".<locals>.") (some f) cdv none builtinsNs)) (execs body (newEnv sc s.heap.objs.size mainGlobals (cellsFrom (s.heap.objs.size + 1) sc.names []) (qual ++ PySem.Str.ofString ".<locals>.") (some f) cdv none builtinsNs)) _ _ _
  rw [henv]
  refine ff (wpAny_mono this (fun fl s' h => ?_) fun _ _ y => y)
  cases fl <;> exact h
end
end Mine
end
section
open PySem PySem.W PyProof.Rows PySem.Calls
set_option Elab.async false
set_option linter.unusedVariables false
namespace Mine
structure Cx (K : Frag) (h : Heap) : Prop where
  X : K.In h
  T : ∃ p loose mg mb, TopRead p loose mg mb h
theorem Cx.ext {K : Frag} {h h' : Heap} (C : Cx K h) (k : Ext h h') : Cx K h' := ⟨C.X.keeps k, let ⟨p, l, mg, mb, T⟩ := C.T; ⟨p, l, mg, mb, T.keeps k⟩⟩
theorem Cx.lim {K : Frag} {h : Heap} (C : Cx K h) : h.NoLimit := let ⟨_, _, _, _, T⟩ := C.T; T.nolimit
noncomputable def Kp (M : Model) (h : Heap) (f : Value) : Prop := ∃ k, (k = Keeper.frame ∨ k = Keeper.machine ∨ k = Keeper.boundFrame) ∧ Looks M h (keeperOf f) k
theorem Kp.K {M : Model} {K : Frag} {h : Heap} {f : Value} (X : K.In h) (e : keepIn K f = true) : Kp M h f := keeps_K e h X
theorem Kp.builtin {M : Model} {h : Heap} {id : String} : Kp M h (.builtin id) := ⟨.machine, .inr (.inl rfl), fun _ _ _ _ _ q => wpAny_pure q⟩
theorem Kp.type {M : Model} {h : Heap} {id : String} : Kp M h (.type id) := ⟨.machine, .inr (.inl rfl), fun _ _ _ _ _ q => wpAny_pure q⟩
theorem Kp.ext {M : Model} {h h' : Heap} {f : Value} (x : Kp M h f) (k : Ext h h') : Kp M h' f := let ⟨a, b, c⟩ := x; ⟨a, b, c.keeps k⟩
section
variable {M : Model} {A : Around} {E : Value → Shared → Prop} {h₀ : Heap} {L : Addr} {vars vars' : Vars} {own own' : Own} {s₀ : Shared} {qn : PySem.Str} {sc : Scope} {f : Addr} {cd : Value} {cl : List (PySem.Str × Addr)} {K : Frag} {env : Env}
end
end Mine
end
section
open PySem PySem.W PyProof.Rows PySem.Calls
set_option Elab.async false
set_option linter.unusedVariables false
namespace Mine
inductive D where
  | none
  | bool (b : Bool)
  | int (i : Int)
  | str (x : PySem.Str)
  | tup (ds : List D)
  | lst (ds : List D)
  | raw (v : Value)
  | sp (P : Heap → Value → Prop)
noncomputable def PlainTup (h : Heap) (a : Addr) (vs : List Value) : Prop := ∃ n, h.get? a = some { cls := .type "tuple", data := .seq vs.toArray n }
noncomputable def PlainLst (h : Heap) (a : Addr) (vs : List Value) : Prop := ∃ n, h.get? a = some { cls := .type "list", data := .seq vs.toArray n }
mutual
inductive Rep (g : Heap) : Value → D → Prop
  | none : Rep g .none .none
  | bool (b : Bool) : Rep g (.bool b) (.bool b)
  | int (i : Int) (t : Tok) : Rep g (.int i t) (.int i)
  | str (x : PySem.Str) (t : Tok) : Rep g (.str x t) (.str x)
  | tup {a : Addr} {vs : List Value} {ds : List D} : PlainTup g a vs → Reps g vs ds → Rep g (.ref a) (.tup ds)
  | lst {a : Addr} {vs : List Value} {ds : List D} : PlainLst g a vs → Reps g vs ds → Rep g (.ref a) (.lst ds)
  | raw (v : Value) : Rep g v (.raw v)
  | sp {v : Value} {P : Heap → Value → Prop} : P g v → (∀ g g' v, Ext g g' → P g v → P g' v) → Rep g v (.sp P)
inductive Reps (g : Heap) : List Value → List D → Prop
  | nil : Reps g [] []
  | cons {v : Value} {vs : List Value} {d : D} {ds : List D} : Rep g v d → Reps g vs ds → Reps g (v :: vs) (d :: ds)
end
theorem PlainTup.ext {g g' : Heap} {a : Addr} {vs : List Value} (h : PlainTup g a vs) (k : Ext g g') : PlainTup g' a vs := let ⟨n, e⟩ := h; ⟨n, k _ _ e⟩
theorem PlainLst.ext {g g' : Heap} {a : Addr} {vs : List Value} (h : PlainLst g a vs) (k : Ext g g') : PlainLst g' a vs := let ⟨n, e⟩ := h; ⟨n, k _ _ e⟩
theorem PlainLst.isList {g : Heap} {a : Addr} {vs : List Value} (h : PlainLst g a vs) : g.IsList a vs.toArray := let ⟨n, e⟩ := h; ⟨_, e, rfl, n, rfl⟩
theorem PlainTup.isTup {g : Heap} {a : Addr} {vs : List Value} (h : PlainTup g a vs) : IsTup g a vs.toArray := let ⟨n, e⟩ := h; ⟨_, e, rfl, n, rfl⟩
theorem PlainLst.plain {g : Heap} {a : Addr} {vs : List Value} (h : PlainLst g a vs) : g.PlainList a vs.toArray := h
theorem Reps.ext {g g' : Heap} (k : Ext g g') {vs : List Value} {ds : List D} (r : Reps g vs ds) : Reps g' vs ds :=
  Reps.rec (motive_1 := fun v d _ => Rep g' v d) (motive_2 := fun vs ds _ => Reps g' vs ds) .none .bool .int .str (fun h _ ih => .tup (h.ext k) ih) (fun h _ ih => .lst (h.ext k) ih) .raw (fun h m => .sp (m _ _ _ k h) m) .nil (fun _ _ a b => .cons a b) r
theorem Rep.ext {g g' : Heap} (k : Ext g g') {v : Value} {d : D} (r : Rep g v d) : Rep g' v d :=
  Rep.rec (motive_1 := fun v d _ => Rep g' v d) (motive_2 := fun vs ds _ => Reps g' vs ds) .none .bool .int .str (fun h _ ih => .tup (h.ext k) ih) (fun h _ ih => .lst (h.ext k) ih) .raw (fun h m => .sp (m _ _ _ k h) m) .nil (fun _ _ a b => .cons a b) r
section
variable {g : Heap}
@[elab_as_elim] theorem Reps.eNil {motive : (vs : List Value) → Reps g vs [] → Prop} (nil : motive [] .nil) {vs : List Value} (r : Reps g vs []) : motive vs r := by cases r; exact nil
@[elab_as_elim] theorem Reps.eCons {d : D} {ds : List D} {motive : (vs : List Value) → Reps g vs (d :: ds) → Prop} (cons : ∀ {v : Value} {vs : List Value} (r : Rep g v d) (rs : Reps g vs ds), motive (v :: vs) (.cons r rs)) {vs : List Value} (r : Reps g vs (d :: ds)) : motive vs r := by
  cases r with
  | cons r rs => exact cons r rs
@[elab_as_elim] theorem Rep.eInt {i : Int} {motive : (v : Value) → Rep g v (.int i) → Prop} (int : ∀ t, motive (.int i t) (.int i t)) {v : Value} (r : Rep g v (.int i)) : motive v r := by cases r; exact int _
@[elab_as_elim] theorem Rep.eStr {i : PySem.Str} {motive : (v : Value) → Rep g v (.str i) → Prop} (str : ∀ t, motive (.str i t) (.str i t)) {v : Value} (r : Rep g v (.str i)) : motive v r := by cases r; exact str _
@[elab_as_elim] theorem Rep.eBool {i : Bool} {motive : (v : Value) → Rep g v (.bool i) → Prop} (bool : motive (.bool i) (.bool i)) {v : Value} (r : Rep g v (.bool i)) : motive v r := by cases r; exact bool
@[elab_as_elim] theorem Rep.eNone {motive : (v : Value) → Rep g v .none → Prop} (none : motive .none .none) {v : Value} (r : Rep g v .none) : motive v r := by cases r; exact none
@[elab_as_elim] theorem Rep.eRaw {w : Value} {motive : (v : Value) → Rep g v (.raw w) → Prop} (raw : motive w (.raw w)) {v : Value} (r : Rep g v (.raw w)) : motive v r := by cases r; exact raw
@[elab_as_elim] theorem Rep.eSp {P : Heap → Value → Prop} {motive : (v : Value) → Rep g v (.sp P) → Prop} (sp : ∀ {v : Value} (h : P g v) (m : ∀ g g' v, Ext g g' → P g v → P g' v), motive v (.sp h m)) {v : Value} (r : Rep g v (.sp P)) : motive v r := by
  cases r with
  | sp h m => exact sp h m
@[elab_as_elim] theorem Rep.eTup {ds : List D} {motive : (v : Value) → Rep g v (.tup ds) → Prop} (tup : ∀ {a : Addr} {vs : List Value} (p : PlainTup g a vs) (rs : Reps g vs ds), motive (.ref a) (.tup p rs)) {v : Value} (r : Rep g v (.tup ds)) : motive v r := by
  cases r with
  | tup p rs => exact tup p rs
@[elab_as_elim] theorem Rep.eLst {ds : List D} {motive : (v : Value) → Rep g v (.lst ds) → Prop} (lst : ∀ {a : Addr} {vs : List Value} (p : PlainLst g a vs) (rs : Reps g vs ds), motive (.ref a) (.lst p rs)) {v : Value} (r : Rep g v (.lst ds)) : motive v r := by
  cases r with
  | lst p rs => exact lst p rs
end
section
variable {g : Heap} {v : Value} {d : D} {vs ws : List Value} {ds es : List D}
theorem Reps.length (h : Reps g vs ds) : vs.length = ds.length := by
  induction vs generalizing ds with
  | nil => cases h; rfl
  | cons v vs ih =>
    cases h with
    | cons _ r => rw [List.length_cons, List.length_cons, ih r]
theorem Reps.append (h : Reps g vs ds) (k : Reps g ws es) : Reps g (vs ++ ws) (ds ++ es) := by
  induction vs generalizing ds with
  | nil => cases h; exact k
  | cons v vs ih =>
    cases h with
    | cons h r => exact .cons h (ih r)
theorem Reps.get (h : Reps g vs ds) {k : Nat} {d : D} (hk : ds[k]? = some d) : ∃ v, vs[k]? = some v ∧ Rep g v d := by
  induction vs generalizing ds k with
  | nil => cases h; simp at hk
  | cons v vs ih =>
    cases h with
    | cons h r =>
      cases k with
      | zero => simp at hk; subst hk; exact ⟨v, rfl, h⟩
      | succ k => simp at hk; simpa using ih r hk
theorem Reps.getv (h : Reps g vs ds) {k : Nat} {v : Value} (hk : vs[k]? = some v) : ∃ d, ds[k]? = some d ∧ Rep g v d := by
  have hl := h.length
  have : k < ds.length := by
    rcases Nat.lt_or_ge k vs.length with q | q
    · (first | lia | omega)
    · rw [List.getElem?_eq_none q] at hk; cases hk
  obtain ⟨v', e, r⟩ := h.get (List.getElem?_eq_getElem this)
  rw [hk] at e; cases e
  exact ⟨_, List.getElem?_eq_getElem this, r⟩
theorem Reps.reverse (h : Reps g vs ds) : Reps g vs.reverse ds.reverse := by
  induction vs generalizing ds with
  | nil => cases h; exact .nil
  | cons v vs ih =>
    cases h with
    | cons h r => simp; exact (ih r).append (.cons h .nil)
end
structure Gr (g : Heap) (s : Shared) (g' : Heap) (s' : Shared) : Prop where
  keeps : Keeps s s'
  ext : Ext g g'
  sub : Ext g' s'.heap
  new : ∀ a o, g'.get? a = some o → g.get? a = some o ∨ s.heap.get? a = none
theorem Gr.refl {g : Heap} {s : Shared} (h : Ext g s.heap) : Gr g s g s := ⟨keepsRefl s, fun _ _ e => e, h, fun _ _ e => .inl e⟩
theorem Gr.tok {g : Heap} {s : Shared} (h : Ext g s.heap) (t : Nat) : Gr g s g { s with toks := t } := ⟨keepsTok s t, fun _ _ e => e, h, fun _ _ e => .inl e⟩
theorem Gr.same {g : Heap} {s s' : Shared} (h : Ext g s.heap) (k : Keeps s s') : Gr g s g s' := ⟨k, fun _ _ e => e, Ext.trans h (keepsExt k), fun _ _ e => .inl e⟩
theorem Gr.trans {g g' g'' : Heap} {s s' s'' : Shared} (x : Gr g s g' s') (y : Gr g' s' g'' s'') : Gr g s g'' s'' :=
  ⟨keepsTrans x.keeps y.keeps, Ext.trans x.ext y.ext, y.sub, fun a o e => by
    rcases y.new a o e with h | h
    · exact x.new a o h
    · right
      cases q : s.heap.get? a with
      | none => rfl
      | some o' => rw [(keepsExt x.keeps) a o' q] at h; cases h⟩
noncomputable def grow (g : Heap) (s s' : Shared) : Heap := ⟨s'.heap.objs.mapIdx fun i o => if (g.get? i).isNone && (s.heap.get? i).isSome then { o with data := .freed } else o, s'.heap.life⟩
theorem get?_freed {h : Heap} {a : Addr} (q : ∀ o, h.objs[a]? = some o → o.data = .freed) : h.get? a = none := by
  unfold Heap.get?
  cases e : h.objs[a]? with
  | none => rfl
  | some o =>
    obtain ⟨c, d, dt, sl⟩ := o
    have := q _ e
    simp only at this
    subst this
    rfl
theorem get?_grow {g : Heap} {s s' : Shared} {a : Addr} : (grow g s s').get? a = if (g.get? a).isNone && (s.heap.get? a).isSome then none else s'.heap.get? a := by
  by_cases c : ((g.get? a).isNone && (s.heap.get? a).isSome) = true
  · rw [if_pos c]
    refine get?_freed fun o e => ?_
    simp only [grow, Array.getElem?_mapIdx, Option.map_eq_some_iff] at e
    obtain ⟨o', _, e⟩ := e
    rw [if_pos c] at e
    rw [← e]
  · rw [if_neg c]
    unfold Heap.get?
    simp only [grow, Array.getElem?_mapIdx]
    cases e : s'.heap.objs[a]? with
    | none => rfl
    | some o => simp only [Option.map_some, if_neg c]
theorem Gr.max {g : Heap} {s s' : Shared} (h : Ext g s.heap) (k : Keeps s s') : Gr g s (grow g s s') s' := by
  refine ⟨k, fun a o e => ?_, fun a o e => ?_, fun a o e => ?_⟩
  · rw [get?_grow, e]
    simpa using (keepsExt k) a o (h a o e)
  · rw [get?_grow] at e
    split at e
    · cases e
    · exact e
  · rw [get?_grow] at e
    split at e
    · cases e
    · rename_i c
      cases q : g.get? a with
      | some o' =>
        have := (keepsExt k) a o' (h a o' q)
        rw [e] at this
        cases this
        exact .inl rfl
      | none =>
        rw [q] at c
        cases q' : s.heap.get? a with
        | none => exact .inr rfl
        | some o' => rw [q'] at c; simp at c
theorem grow_new {g : Heap} {s s' : Shared} {a : Addr} {o : Obj} (hn : s.heap.get? a = none) (e : s'.heap.get? a = some o) : (grow g s s').get? a = some o := by
  rw [get?_grow, hn]; simpa using e
theorem Gr.into {g g' : Heap} {s s' : Shared} (x : Gr g s g' s') : Ext g' (grow g s s') := fun a o e => by
  rw [get?_grow]
  rcases x.new a o e with h | h
  · rw [h]; simpa using x.sub a o e
  · rw [h]; simpa using x.sub a o e
theorem Gr.push {g : Heap} {s : Shared} {o : Obj} {t : Nat} (h : Ext g s.heap) (hf : o.isFreed = false := by rfl) : Gr g s (grow g s { s with heap := s.heap.push o, toks := t }) { s with heap := s.heap.push o, toks := t } ∧ (grow g s { s with heap := s.heap.push o, toks := t }).get? s.heap.objs.size = some o := by
  have k : Keeps s { s with heap := s.heap.push o, toks := t } := ⟨_, _, rfl, fun b o' e => Heap.get?_push_of_some _ e⟩
  refine ⟨Gr.max h k, grow_new ?_ (Heap.get?_push_size _ hf)⟩
  cases e : s.heap.get? s.heap.objs.size with
  | none => rfl
  | some o' => exact absurd (Heap.lt_size e) (Nat.lt_irrefl _)
noncomputable abbrev DVars := List (PySem.Str × D)
noncomputable abbrev DOwn := List (Addr × (Heap → Obj → Prop))
structure Cc where
  prog : Program
  w : World
  K : Frag
  A : Around
  s₀ : Shared
  gb : Heap
  env : Env
  ro : List (Addr × (Heap → Obj → Prop))
structure At2 (C : Cc) (vars : DVars) (own : DOwn) (g : Heap) (s : Shared) : Prop where
  gr : Gr C.gb C.s₀ g s
  cx : Cx C.K C.gb
  fr : ∃ m, s.heap.Ns C.env.locals m ∧ ∀ p ∈ vars, ∃ v, m p.1 = some v ∧ Rep g v p.2
  frn : C.s₀.heap.get? C.env.locals = none ∧ g.get? C.env.locals = none
  news : ∀ p ∈ own, (∃ o, s.heap.get? p.1 = some o ∧ p.2 g o) ∧ p.1 ≠ C.env.locals ∧ C.s₀.heap.get? p.1 = none ∧ g.get? p.1 = none
  mono : ∀ p ∈ own, ∀ g g' o, Ext g g' → p.2 g o → p.2 g' o
  nodup : (own.map (·.1)).Nodup
  ro : ∀ p ∈ C.ro, (∃ o, C.s₀.heap.get? p.1 = some o ∧ p.2 C.gb o) ∧ ∀ g g' o, Ext g g' → p.2 g o → p.2 g' o
section
variable {C : Cc} {vars vars' : DVars} {own own' : DOwn} {g g' : Heap} {s s' : Shared}
theorem At2.sub (x : At2 C vars own g s) : Ext g s.heap := x.gr.sub
theorem At2.known {p : Addr × (Heap → Obj → Prop)} (x : At2 C vars own g s) (h : p ∈ own ∨ p ∈ C.ro) : ∃ o, s.heap.get? p.1 = some o ∧ p.2 g o := by
  rcases h with h | h
  · exact (x.news p h).1
  · obtain ⟨⟨o, e, q⟩, m⟩ := x.ro p h
    exact ⟨o, keepsExt x.gr.keeps _ _ e, m _ _ _ x.gr.ext q⟩
theorem At2.cxg (x : At2 C vars own g s) : Cx C.K g := x.cx.ext x.gr.ext
theorem live_ne {h : Heap} {a : Addr} (x : h.get? a = none) {o : Obj} (y : h.get? a = some o) : False := by rw [x] at y; cases y
theorem At2.grow (x : At2 C vars own g s) (y : Gr g s g' s') : At2 C vars own g' s' := by
  have live : ∀ a o, s.heap.get? a = some o → g.get? a = none → g'.get? a = none := fun a o e n => by
    cases q : g'.get? a with
    | none => rfl
    | some o' =>
      rcases y.new a o' q with h | h
      · rw [n] at h; cases h
      · rw [e] at h; cases h
  refine ⟨x.gr.trans y, x.cx, ?_, ⟨x.frn.1, ?_⟩, fun p hp => ?_, x.mono, x.nodup, x.ro⟩
  · obtain ⟨m, F, hm⟩ := x.fr
    refine ⟨m, F.keeps (keepsExt y.keeps), fun p hp => ?_⟩
    obtain ⟨v, e, r⟩ := hm p hp
    exact ⟨v, e, r.ext y.ext⟩
  · obtain ⟨m, ⟨o, _, _, e, _⟩, hm⟩ := x.fr
    exact live _ _ e x.frn.2
  · obtain ⟨⟨o, e, q⟩, h1, h2, h3⟩ := x.news p hp
    exact ⟨⟨o, (keepsExt y.keeps) _ _ e, x.mono p hp _ _ _ y.ext q⟩, h1, h2, live _ _ e h3⟩
theorem At2.forget (x : At2 C vars own g s) (hv : ∀ p ∈ vars', p ∈ vars) : At2 C vars' own g s :=
  ⟨x.gr, x.cx, let ⟨m, F, hm⟩ := x.fr; ⟨m, F, fun p hp => hm p (hv p hp)⟩, x.frn, x.news, x.mono, x.nodup, x.ro⟩
theorem At2.drop {p : Addr × (Heap → Obj → Prop)} (x : At2 C vars (p :: own) g s) : At2 C vars own g s :=
  ⟨x.gr, x.cx, x.fr, x.frn, fun q hq => x.news q (.tail _ hq), fun q hq => x.mono q (.tail _ hq), (List.nodup_cons.mp x.nodup).2, x.ro⟩
theorem At2.L_live (x : At2 C vars own g s) : ∃ o, s.heap.get? C.env.locals = some o := by
  obtain ⟨m, ⟨o, _, _, e, _⟩, _⟩ := x.fr
  exact ⟨o, e⟩
theorem At2.newOwn {a : Addr} {o : Obj} {P : Heap → Obj → Prop} (x : At2 C vars own g s) (k : Keeps s s') (hn : s.heap.get? a = none) (e : s'.heap.get? a = some o) (hP : P g o) (hm : ∀ g g' o, Ext g g' → P g o → P g' o) : At2 C vars ((a, P) :: own) g s' := by
  have y := x.grow (Gr.same x.sub k)
  refine ⟨y.gr, y.cx, y.fr, y.frn, fun p hp => ?_, fun p hp => ?_, ?_, y.ro⟩
  · rcases List.mem_cons.mp hp with rfl | hp
    · refine ⟨⟨o, e, hP⟩, fun q => ?_, ?_, ?_⟩
      · obtain ⟨o', e'⟩ := x.L_live
        have q' : a = C.env.locals := q
        rw [q'] at hn; exact live_ne hn e'
      · cases q : C.s₀.heap.get? a with
        | none => rfl
        | some o' => exact (live_ne hn ((keepsExt x.gr.keeps) _ _ q)).elim
      · cases q : g.get? a with
        | none => rfl
        | some o' => exact (live_ne hn (x.sub _ _ q)).elim
    · exact y.news p hp
  · rcases List.mem_cons.mp hp with rfl | hp
    · exact hm
    · exact y.mono p hp
  · refine List.nodup_cons.mpr ⟨fun h => ?_, y.nodup⟩
    obtain ⟨p, hp, q⟩ := List.mem_map.mp h
    obtain ⟨⟨o', e', _⟩, _⟩ := x.news p hp
    have q' : p.1 = a := q
    rw [q'] at e'
    exact live_ne hn e'
inductive DPut (a : Addr) (P' : Heap → Obj → Prop) : DOwn → DOwn → Prop
  | here {P r} : DPut a P' ((a, P) :: r) ((a, P') :: r)
  | there {p r r'} : DPut a P' r r' → DPut a P' (p :: r) (p :: r')
theorem DPut.names {a : Addr} {P' : Heap → Obj → Prop} {l l' : DOwn} (u : DPut a P' l l') : l'.map (·.1) = l.map (·.1) := by
  induction u with
  | here => rfl
  | there _ ih => rw [List.map_cons, List.map_cons, ih]
theorem DPut.mem {a : Addr} {P' : Heap → Obj → Prop} {l l' : DOwn} (u : DPut a P' l l') : (l.map (·.1)).Nodup → ∀ p ∈ l', (p ∈ l ∧ p.1 ≠ a) ∨ p = (a, P') := by
  induction u with
  | @here P r =>
    intro nd p hp
    rcases List.mem_cons.mp hp with rfl | hp
    · exact .inr rfl
    · refine .inl ⟨.tail _ hp, fun e => ?_⟩
      exact (List.nodup_cons.mp nd).1 (List.mem_map.mpr ⟨p, hp, e⟩)
  | @there p r r' u ih =>
    intro nd q hq
    rcases List.mem_cons.mp hq with rfl | hq
    · refine .inl ⟨.head _, fun e => ?_⟩
      have : a ∈ r.map (·.1) := by
        rw [← u.names]
        clear ih nd hq e
        induction u with
        | here => exact .head _
        | there _ ih => exact .tail _ ih
      exact (List.nodup_cons.mp nd).1 (by show q.1 ∈ _; rw [e]; exact this)
    · rcases ih (List.nodup_cons.mp nd).2 q hq with ⟨h1, h2⟩ | h
      · exact .inl ⟨.tail _ h1, h2⟩
      · exact .inr h
theorem DPut.has {a : Addr} {P' : Heap → Obj → Prop} {l l' : DOwn} (u : DPut a P' l l') : ∃ P, (a, P) ∈ l := by
  induction u with
  | here => exact ⟨_, .head _⟩
  | there _ ih => obtain ⟨P, h⟩ := ih; exact ⟨P, .tail _ h⟩
theorem At2.put {a : Addr} {P' : Heap → Obj → Prop} {h' : Heap} {t : Nat} (x : At2 C vars own g s) (u : DPut a P' own own') (k : ∀ b o, b ≠ a → s.heap.get? b = some o → h'.get? b = some o) (n : ∃ o, h'.get? a = some o ∧ P' g o) (hm : ∀ g g' o, Ext g g' → P' g o → P' g' o) :
    At2 C vars own' g { s with heap := h', toks := t } := by
  obtain ⟨P, hP⟩ := u.has
  obtain ⟨_, hL, h0, hg⟩ := x.news _ hP
  refine ⟨⟨keepsOf (fun b o e => k b o (fun q => ?_) ((keepsExt x.gr.keeps) b o e)) (Rest.trans (keepsRest x.gr.keeps) ⟨rfl, rfl, rfl⟩), x.gr.ext, fun b o e => k b o (fun q => ?_) (x.sub b o e), x.gr.new⟩, x.cx, ?_, x.frn, fun p hp => ?_, fun p hp => ?_, ?_, x.ro⟩
  · rw [q] at e; exact live_ne h0 e
  · rw [q] at e; exact live_ne hg e
  · obtain ⟨m, F, hm⟩ := x.fr
    exact ⟨m, F.at' fun o e => k _ _ (Ne.symm hL) e, hm⟩
  · rcases u.mem x.nodup p hp with ⟨h1, h2⟩ | rfl
    · obtain ⟨⟨o, e, q⟩, r⟩ := x.news p h1
      exact ⟨⟨o, k _ _ h2 e, q⟩, r⟩
    · exact ⟨n, hL, h0, hg⟩
  · rcases u.mem x.nodup p hp with ⟨h1, h2⟩ | rfl
    · exact x.mono p h1
    · exact hm
  · rw [u.names]; exact x.nodup
inductive DDrop (x : PySem.Str) : DVars → DVars → Prop
  | nil : DDrop x [] []
  | skip {v r r'} : DDrop x r r' → DDrop x ((x, v) :: r) r'
  | keep {p r r'} : (p.1 == x) = false → DDrop x r r' → DDrop x (p :: r) (p :: r')
theorem DDrop.ok {x : PySem.Str} {l l' : DVars} (d : DDrop x l l') : ∀ p ∈ l', p ∈ l ∧ p.1 ≠ x := by
  induction d with
  | nil => intro p hp; cases hp
  | skip _ ih => intro p hp; exact ⟨.tail _ (ih p hp).1, (ih p hp).2⟩
  | keep h _ ih =>
    intro p hp
    rcases List.mem_cons.mp hp with rfl | hp
    · exact ⟨.head _, by simpa using h⟩
    · exact ⟨.tail _ (ih p hp).1, (ih p hp).2⟩
theorem At2.store {x : PySem.Str} {v : Value} {d : D} {h' : Heap} {t : Nat} {m : PySem.Str → Option Value} (a : At2 C vars own g s) (hd : DDrop x vars vars') (hm : ∀ p ∈ vars, ∃ v, m p.1 = some v ∧ Rep g v p.2) (hn : h'.Ns C.env.locals (fun y => if y = x then some v else m y)) (sb : Heap.SameBut C.env.locals s.heap h') (r : Rep g v d) :
    At2 C ((x, d) :: vars') own g { s with heap := h', toks := t } := by
  have nL : ∀ b o, b ≠ C.env.locals → s.heap.get? b = some o → h'.get? b = some o := fun b o hb e => (sb.2 b hb).trans e
  refine ⟨⟨keepsOf (fun b o e => nL b o (fun q => ?_) ((keepsExt a.gr.keeps) b o e)) (Rest.trans (keepsRest a.gr.keeps) ⟨rfl, rfl, rfl⟩), a.gr.ext, fun b o e => nL b o (fun q => ?_) (a.sub b o e), a.gr.new⟩, a.cx, ⟨_, hn, fun p hp => ?_⟩, a.frn, fun p hp => ?_, a.mono, a.nodup, a.ro⟩
  · rw [q] at e; exact live_ne a.frn.1 e
  · rw [q] at e; exact live_ne a.frn.2 e
  · rcases List.mem_cons.mp hp with rfl | hp
    · exact ⟨v, by simp, r⟩
    · obtain ⟨h1, h2⟩ := hd.ok p hp
      simp only [if_neg h2]
      exact hm p h1
  · obtain ⟨⟨o, e, q⟩, hL, h0⟩ := a.news p hp
    exact ⟨⟨o, nL _ _ hL e, q⟩, hL, h0⟩
end
end Mine
end
section
open PySem PySem.W PyProof.Rows PySem.Calls
set_option Elab.async false
set_option linter.unusedVariables false
namespace Mine
section
variable {prog : Program} {w : World} {A : Around} {E : Value → Shared → Prop} {h₀ : Heap} {L : Addr} {vars vars' : Vars} {own own' : Own} {s₀ : Shared} {qn : PySem.Str} {sc : Scope} {f : Addr} {cd : Value} {cl : List (PySem.Str × Addr)} {K : Frag} {env : Env}
end
end Mine
end
section
open PySem PySem.W PyProof.Rows PySem.Calls
set_option Elab.async false
set_option linter.unusedVariables false
namespace Mine
noncomputable abbrev boundObj (id : String) (self : Value) : Obj := ⟨.type "builtin_function_or_method", none, .fields #[.builtin id, self], #[]⟩
section
variable {prog : Program} {w : World} {A : Around} {E : Value → Shared → Prop} {R : Result → Shared → Prop} {s : Shared}
theorem kp_bound {M : Model} {h : Heap} {m : Addr} {id : String} {self : Value} (e : h.get? m = some (boundObj id self)) : Kp M h (.ref m) :=
  ⟨.machine, .inr (.inl rfl), (Looks.ld (part := none) e).andThen .now⟩
theorem isType_no {d : Addr} {o : Obj} {Q : Bool → Shared → Prop} (ho : s.heap.get? d = some o) (hd : ∀ c, o.data ≠ .cls c) (k : Q false s) : wpAny (model prog w) A (isType (.ref d)) Q E s := by
  show wpAny _ _ (do return match (← loadHead d).data with | .cls _ => true | _ => false) _ _ _
  refine wpAny_bind (wpAny_loadPart ho (wpAny_pure ?_))
  cases h : o.data with
  | cls c => exact absurd h (hd c)
  | _ => exact k
theorem sig_dget : Manifest.signature? "dict.get" = some ⟨.positional, "dict.get", "get", .self, [⟨"key", .posOnly, true⟩, ⟨"default", .posOnly, false⟩]⟩ := by kernel_rfl
theorem kind_dget : builtinKind "dict.get" = some .method := by kernel_rfl
theorem sub_dict_module : isSubtype (.type "dict") (.type "module") = pure false := by rw [isSubtype_type]; kernel_rfl
theorem check_dict_get2 {d : Addr} {x y : Value} {Q : Unit → Shared → Prop} {o : Obj} (ho : s.heap.get? d = some o) (hc : o.cls = .type "dict") (hd : ∀ c, o.data ≠ .cls c) (k : Q () s) :
    wpAny (model prog w) A (checkBoundCall "dict.get" ⟨[.ref d, x, y], []⟩) Q E s := by
  have hT : s.TypeIs (.ref d) "dict" := ⟨o, ho, hc⟩
  unfold checkBoundCall
  rw [sig_dget, kind_dget]
  dsimp only
  rw [if_neg (by decide)]
  refine wpAny_bind (wpAny_isInstance hT sub_dict_module ?_)
  rw [if_neg (by decide +kernel)]
  refine wpAny_bind (isType_no ho hd ?_)
  rw [if_neg (by decide)]
  refine wpAny_bind (wpAny_typeOf hT ?_)
  dsimp only
  exact wpAny_of_eq (show Bind.checkArgs "dict.get" { (⟨.positional, "dict.get", "get", .self, [⟨"key", .posOnly, true⟩, ⟨"default", .posOnly, false⟩]⟩ : Manifest.Signature) with full := s!"{Bind.lastOf "dict"}.{Bind.lastOf "dict.get"}" } ⟨[.ref d, x, y], []⟩ = pure () from by kernel_rfl) k
theorem call_bound_get {K : Type} [DecidableEq K] {knd : PySem.KeyKind prog w K} {m d : Addr} {k : K} {key dflt : Value} {f : K → Option Value} {Q : Value → Shared → Prop} (hm : s.heap.get? m = some (boundObj "dict.get" (.ref d))) (hd : (d == sysModules) = false)
    (hkey : knd.is k key = true) (hf : s.heap.MapOf knd d f) (h : Q ((f k).getD dflt) { s with toks := s.toks + 1 }) : wpAny (model prog w) A (call (.ref m) [key, dflt]) Q E s := by
  obtain ⟨o, es, ep, ho, hx, hdat, hk, hfi⟩ := id hf
  refine wpAny_call (codeAny_of_tree ?_)
  show wpAny _ _ (callAny (.ref m) _) _ _ _
  refine wpAny_bind (wpAny_load hm ?_)
  dsimp only
  rw [if_pos (by decide)]
  show wpAny _ _ (do
    checkBoundCall "dict.get" ⟨[.ref d, key, dflt], []⟩
    return ← again (.builtin "dict.get" ⟨[.ref d, key, dflt], []⟩)) _ _ _
  refine wpAny_bind (check_dict_get2 ho hx.1 (fun c e => by rw [e] at hdat; cases hdat) ?_)
  refine wpAny_bind (wpAny_pure (wpAny_pure ⟨rfl, ?_⟩))
  refine codeAny_builtin (b := Builtin.«dict.get») F.entry_dict_get ?_
  rw [Around.under_plainId (show plainId "dict.get" = true by decide +kernel)]
  have hh := meets_dict_get_default knd d hkey hd dflt A (fun r s' => match r with | .ok (.ret v) => Q v s' | .ok _ => False | .error e => E e s') s ⟨f, hf, h⟩
  exact hh
end
section
variable {prog : Program} {w : World} {A : Around} {E : Value → Shared → Prop} {h₀ : Heap} {L : Addr} {vars vars' : Vars} {own own' : Own} {s₀ : Shared} {qn : PySem.Str} {sc : Scope} {f : Addr} {cd : Value} {cl : List (PySem.Str × Addr)} {K : Frag} {env : Env}
end
end Mine
end
section
open PySem PySem.W PyProof.Rows PySem.Calls
set_option Elab.async false
set_option linter.unusedVariables false
namespace Mine
section
variable {prog : Program} {w : World} {A : Around} {E : Value → Shared → Prop} {h₀ : Heap} {L : Addr} {vars vars' : Vars} {own own' : Own} {s₀ : Shared} {qn : PySem.Str} {sc : Scope} {f : Addr} {cd : Value} {cl : List (PySem.Str × Addr)} {K : Frag} {env : Env}
theorem eval_Dict0 {pos : Pos} : eval (.Dict [] [] pos) env = (do standAt pos; newDict) := by first | rfl | (unfold eval; rfl)
end
end Mine
end
section
open PySem PySem.W PyProof.Rows PySem.Calls
set_option Elab.async false
set_option linter.unusedVariables false
namespace Mine
noncomputable def Dic {prog : Program} {w : World} {κ : Type} [DecidableEq κ] (knd : PySem.KeyKind prog w κ) (kvs : List (κ × Value)) : Obj → Prop :=
  fun o => ∃ es ep, o.ExactDict ∧ o.data = .dict es ep ∧ KeysOf knd es ∧ Pairs knd es.toList kvs ∧ (kvs.map (·.1)).Nodup
section
variable {prog : Program} {w : World} {A : Around} {E : Value → Shared → Prop} {h₀ : Heap} {L : Addr} {vars vars' : Vars} {own own' : Own} {s₀ : Shared} {qn : PySem.Str} {sc : Scope} {f : Addr} {cd : Value} {cl : List (PySem.Str × Addr)} {K : Frag} {env : Env}
variable {κ : Type} [DecidableEq κ] {knd : PySem.KeyKind prog w κ} {kvs : List (κ × Value)}
theorem Dic.of {h : Heap} {d : Addr} (x : h.DictOf knd d kvs) : ∃ o, h.get? d = some o ∧ Dic knd kvs o := let ⟨o, es, ep, a, b⟩ := x; ⟨o, a, es, ep, b⟩
theorem Dic.to {h : Heap} {d : Addr} (x : ∃ o, h.get? d = some o ∧ Dic knd kvs o) : h.DictOf knd d kvs := let ⟨o, a, es, ep, b⟩ := x; ⟨o, es, ep, a, b⟩
end
end Mine
end
section
open PySem PySem.W PyProof.Rows PySem.Calls
set_option Elab.async false
set_option linter.unusedVariables false
namespace Mine
noncomputable def Row (prog : Program) (w : World) (m : Int → Nat) (N : Nat) : Obj → Prop := fun o => ∃ kvs : List (Int × Value), Dic (intKind prog w) kvs o ∧ kvs.length ≤ N ∧
  ∀ j, (m j = 0 ∧ valueAt kvs j = none) ∨ (m j ≠ 0 ∧ ∃ t, valueAt kvs j = some (Value.int (m j) t))
section
variable {prog : Program} {w : World} {A : Around} {E : Value → Shared → Prop} {h₀ : Heap} {L : Addr} {vars vars' : Vars} {own own' : Own} {s₀ : Shared} {K : Frag} {env : Env} {m : Int → Nat} {N : Nat}
theorem valueAt_stored {κ : Type} [DecidableEq κ] (kvs : List (κ × Value)) (k : κ) (v : Value) (x : κ) : valueAt (stored kvs k v) x = if x = k then some v else valueAt kvs x := by
  have a : ∀ l : List (κ × Value), valueAt (l.map fun kv => if kv.1 = k then (kv.1, v) else kv) x = if x = k ∧ (l.any fun kv => kv.1 = k) = true then some v else valueAt l x := by
    intro l
    induction l with
    | nil => simp [valueAt]
    | cons p r ih =>
      unfold valueAt at ih ⊢
      simp only [List.map_cons, List.find?_cons, List.any_cons]
      by_cases h1 : p.1 = k
      · by_cases h2 : k = x
        · subst h2; simp [h1]
        · have h3 : ¬ x = k := fun e => h2 e.symm
          simp only [h1, if_true, h2, decide_false, h3, false_and, if_false]
          rw [ih]; simp [h3]
      · by_cases h2 : p.1 = x
        · have h3 : ¬ x = k := fun e => h1 (h2.trans e)
          simp [h1, h2, h3]
        · simp only [h1, if_false, h2, decide_false, Bool.false_or]
          exact ih
  unfold stored
  split
  · rename_i h
    rw [a kvs]
    simp [h]
  · rename_i h
    unfold valueAt
    rw [List.find?_append]
    by_cases e : x = k
    · subst e
      have : kvs.find? (fun kv => decide (kv.1 = x)) = none := by
        rw [List.find?_eq_none]
        intro p hp q
        exact h (List.any_eq_true.mpr ⟨p, hp, q⟩)
      simp [this]
    · have e' : ¬ k = x := fun q => e q.symm
      simp [e, e']
theorem Row.nil {o : Obj} (h : Dic (intKind prog w) [] o) : Row prog w (fun _ => 0) 0 o := ⟨[], h, Nat.le_refl _, fun j => .inl ⟨rfl, rfl⟩⟩
end
end Mine
end
section
open PySem PySem.W PyProof.Rows PySem.Calls
set_option Elab.async false
set_option linter.unusedVariables false
namespace Mine
section
variable {prog : Program} {w : World} {A : Around} {E : Value → Shared → Prop} {h₀ : Heap} {L : Addr} {vars vars' : Vars} {own own' : Own} {s₀ : Shared} {K : Frag} {env : Env}
theorem small_one {a b : Int} (ha : -(2 ^ 62) < a) (hb : b < 2 ^ 62) (ha' : a < 2 ^ 62) (hb' : -(2 ^ 62) < b) : Builtin.Range.small a b 1 = true := by
  unfold Builtin.Range.small
  rw [rangeSize_one]
  unfold Builtin.Range.rangeFitsLong
  simp only [Bool.and_eq_true, Bool.or_eq_true, decide_eq_true_eq, show (1 : Int) > 0 by decide, if_true, beq_iff_eq]
  split <;> (first | lia | omega)
end
end Mine
end
section
open PySem PySem.W PyProof.Rows PySem.Calls
set_option Elab.async false
set_option linter.unusedVariables false
namespace Mine
section
variable {prog : Program} {w : World} {A : Around} {E : Value → Shared → Prop} {h₀ : Heap} {L : Addr} {vars vars' : Vars} {own own' : Own} {s₀ : Shared} {K : Frag} {env : Env} {κ : Type} [DecidableEq κ] {knd : PySem.KeyKind prog w κ} {kvs : List (κ × Value)}
end
end Mine
end
section
open PySem PySem.W PyProof.Rows
set_option Elab.async false
set_option maxRecDepth 100000
namespace Mine
noncomputable def anyF (as : Array Nat) (p : Nat → Bool) (a b : Nat) : Bool :=
  bif Nat.beq a 0 && Nat.beq b as.toList.length then as.toList.any p else as.any p a b
theorem anyF_eq : @Array.any Nat = @anyF := by
  funext as p a b
  unfold anyF
  cases h : (Nat.beq a 0 && Nat.beq b as.toList.length) with
  | false => rfl
  | true =>
    rw [Bool.and_eq_true] at h
    have h1 : a = 0 := Nat.eq_of_beq_eq_true h.1
    have h2 : b = as.toList.length := Nat.eq_of_beq_eq_true h.2
    subst h1
    subst h2
    rw [Array.length_toList, cond_true, Array.any_toList]
set_option maxHeartbeats 0
inductive TEq {α : Type} (a : α) : α → Type
  | refl : TEq a a
theorem TEq.eq {α : Type} {a b : α} (h : TEq a b) : a = b := by cases h; rfl
noncomputable def tnG : (G : ((as : Array Nat) → (Nat → Bool) → optParam Nat 0 → optParam Nat as.size → Bool) → Builtin) × TEq PySem.W.Fast.tw4202317264376624991 (G (@Array.any Nat)) := by
  delta PySem.W.Fast.tw4202317264376624991
  refine ⟨?G, ?h⟩
  case h =>
    generalize @Array.any Nat = g
    exact TEq.refl
theorem tn_eq : Builtin.«type.__new__» = tnG.1 @anyF := PySem.W.Fast.te4202317264376624991.trans (tnG.2.eq.trans (congrArg tnG.1 @anyF_eq))
noncomputable def tbl (id : String) : Option Builtin := bif Nat.beq (code id) (code "type.__new__") then some (tnG.1 @anyF) else treeTable id
theorem entry_tn : entriesT.find (code "type.__new__") = some Builtin.«type.__new__» := by kernel_rfl
theorem tbl_eq : treeTable = tbl := by
  funext id
  unfold tbl
  cases h : Nat.beq (code id) (code "type.__new__") with
  | false => rfl
  | true =>
    have e := Nat.eq_of_beq_eq_true h
    show entriesT.find (code id) = some (tnG.1 @anyF)
    rw [e, entry_tn, tn_eq]
end Mine
end
section
open PySem PySem.W PyProof.Rows
set_option Elab.async false
set_option maxRecDepth 100000
set_option maxHeartbeats 0
set_option linter.unusedVariables false
namespace Mine
noncomputable section
noncomputable def T : List Stmt := PySem.Challenge.pw_mu0006_06.main.body
noncomputable abbrev S (s : String) : PySem.Str := PySem.Str.ofString s
noncomputable def stAt (l : List Stmt) (i : Nat) : Stmt := l.getD i (.Pass ⟨0, 0, 0, 0⟩)
noncomputable def clsBody : Stmt → List Stmt
  | .ClassDef _ _ _ b _ _ _ _ _ _ _ => b
  | _ => []
noncomputable def fBody : Stmt → List Stmt
  | .FunctionDef _ _ b _ _ _ _ _ _ _ => b
  | _ => []
noncomputable def fParams : Stmt → Arguments
  | .FunctionDef _ a _ _ _ _ _ _ _ _ => a
  | _ => ⟨[], [], none, [], [], none, []⟩
noncomputable def fScope : Stmt → Scope
  | .FunctionDef _ _ _ _ _ _ s _ _ _ => s
  | _ => PySem.Challenge.pw_mu0006_06.main.scope
noncomputable def docAt (b : List Stmt) : PySem.Str := (docOf b).getD PySem.Str.empty
noncomputable def fnD (st : Stmt) (name qual : PySem.Str) (closure : List (PySem.Str × Addr)) (dV kV doc pm : Value) (an : Option Addr) (code ct : Value) (g b : Addr) : FuncData :=
  { name, qualname := qual, params := fParams st, body := .stmts (fBody st), scope := fScope st, globals := g, closure, defaults := dV, kwdefaults := kV, doc, pyModule := pm, annotations := an, code, closureTuple := ct, builtins := b }
noncomputable def a_11 (P : Params) : Obj := ⟨.type "tuple", none, .seq #[] 0, #[]⟩
noncomputable def a_12 (P : Params) : Obj := ⟨.none, none, .fields #[], #[]⟩
noncomputable def a_13 (P : Params) : Obj := ⟨.type "code", none, .fields #[.str (S "<module>") 182, .str (S "<module>") 183, .str (S "/claim/cut.py") 184, .int (1) 0, .int (0) 0, .int (0) 0, .int (0) 0, .int (0) 0, .ref 11, .bool false, .int (181) 0, .ref 12, .none, .none, .none, .none, .int (185) 0, .int (1) 0, .str (S "/claim/cut.py") 186], #[]⟩
noncomputable def a_14 (P : Params) : Obj := ⟨.type "frame", none, .plain, #[(some (.ref 13)), (some (.ref 3)), (some (.ref 3)), none, (some (.str (S "__main__") 164)), none, (some (.ref 0))]⟩
noncomputable def treeA_0 (P : Params) : BT := (.node (PySem.W.boot_o_0 P) (.node (PySem.W.boot_o_1 P) (.node (PySem.W.boot_o_3 P) (.node (PySem.W.boot_o_7 P) .nil .nil) (.node (a_11 P) .nil .nil)) (.node (PySem.W.boot_o_5 P) (.node (PySem.W.boot_o_9 P) .nil .nil) (.node (a_13 P) .nil .nil))) (.node (PySem.W.boot_o_2 P) (.node (PySem.W.boot_o_4 P) (.node (PySem.W.boot_o_8 P) .nil .nil) (.node (a_12 P) .nil .nil)) (.node (PySem.W.boot_o_6 P) (.node (PySem.W.boot_o_10 P) .nil .nil) (.node (a_14 P) .nil .nil))))
noncomputable def treeA (P : Params) : BT := (treeA_0 P)
noncomputable def heapA_1 (P : Params) : List Obj := []
noncomputable def heapA_0 (P : Params) : List Obj := PySem.W.boot_o_0 P :: PySem.W.boot_o_1 P :: PySem.W.boot_o_2 P :: PySem.W.boot_o_3 P :: PySem.W.boot_o_4 P :: PySem.W.boot_o_5 P :: PySem.W.boot_o_6 P :: PySem.W.boot_o_7 P :: PySem.W.boot_o_8 P :: PySem.W.boot_o_9 P :: PySem.W.boot_o_10 P :: a_11 P :: a_12 P :: a_13 P :: a_14 P :: heapA_1 P
noncomputable def heapA (P : Params) : Heap := ⟨⟨heapA_0 P⟩, {}⟩
noncomputable def o_3 (P : Params) : Obj := ⟨.type "dict", none, .dict #[⟨PyData.keyHash P (S "__name__"), .str (S "__name__") 165, .str (S "law_mu0006_06") 591⟩, ⟨PyData.keyHash P (S "__doc__"), .str (S "__doc__") 166, .none⟩, ⟨PyData.keyHash P (S "__package__"), .str (S "__package__") 167, .none⟩, ⟨PyData.keyHash P (S "__loader__"), .str (S "__loader__") 168, .builtin "__main__.__loader__#opaque"⟩, ⟨PyData.keyHash P (S "__spec__"), .str (S "__spec__") 169, .none⟩, ⟨PyData.keyHash P (S "__annotations__"), .str (S "__annotations__") 170, .ref 6⟩, ⟨PyData.keyHash P (S "__builtins__"), .str (S "__builtins__") 171, .ref 4⟩, ⟨PyData.keyHash P (S "__file__"), .str (S "__file__") 173, .str (S "/claim/cut.py") 172⟩, ⟨PyData.keyHash P (S "__cached__"), .str (S "__cached__") 174, .none⟩, ⟨PyData.keyHash P (S "_wall"), .str (S "_wall") 193, .ref 21⟩, ⟨PyData.keyHash P (S "_tuplegetter"), .str (S "_tuplegetter") 252, .ref 60⟩, ⟨PyData.keyHash P (S "Match"), .str (S "Match") 380, .ref 135⟩, ⟨PyData.keyHash P (S "_calculate_ratio"), .str (S "_calculate_ratio") 388, .ref 145⟩, ⟨PyData.keyHash P (S "SequenceMatcher"), .str (S "SequenceMatcher") 574, .ref 242⟩, ⟨PyData.keyHash P (S "_initial_missing"), .str (S "_initial_missing") 577, .ref 247⟩, ⟨PyData.keyHash P (S "reduce"), .str (S "reduce") 590, .ref 255⟩, ⟨PyData.keyHash P (S "_law_text"), .str (S "_law_text") 598, .ref 260⟩, ⟨PyData.keyHash P (S "_law_later"), .str (S "_law_later") 610, .ref 267⟩, ⟨PyData.keyHash P (S "_law_cut"), .str (S "_law_cut") 623, .ref 274⟩, ⟨PyData.keyHash P (S "_law_about"), .str (S "_law_about") 629, .ref 279⟩, ⟨PyData.keyHash P (S "law"), .str (S "law") 635, .ref 284⟩] 21, #[]⟩
noncomputable def o_12 (P : Params) : Obj := ⟨.none, none, .fields #[.int (1) 0, .int (0) 0, .ref 20, .int (5) 0, .int (0) 0, .ref 27, .int (23) 0, .int (0) 0, .ref 71, .int (66) 0, .int (0) 0, .ref 144, .int (70) 0, .int (0) 0, .ref 151, .int (420) 0, .int (0) 0, .ref 254, .int (445) 0, .int (0) 0, .ref 259, .int (450) 0, .int (0) 0, .ref 266, .int (457) 0, .int (0) 0, .ref 273, .int (460) 0, .int (0) 0, .ref 278, .int (465) 0, .int (0) 0, .ref 283], #[]⟩
noncomputable def o_15 (P : Params) : Obj := ⟨.type "tuple", none, .seq #[] 0, #[]⟩
noncomputable def o_16 (P : Params) : Obj := ⟨.none, none, .fields #[], #[]⟩
noncomputable def o_17 (P : Params) : Obj := ⟨.type "tuple", none, .seq #[.str (S "k") 190] 0, #[]⟩
noncomputable def o_18 (P : Params) : Obj := ⟨.type "tuple", none, .seq #[] 0, #[]⟩
noncomputable def o_19 (P : Params) : Obj := ⟨.none, none, .func (fnD (stAt T 0) (S "_wall") (S "_wall") [] (.none) (.none) (.none) (.none) none (.none) (.none) 0 0), #[]⟩
noncomputable def o_20 (P : Params) : Obj := ⟨.type "code", none, .fields #[.str (S "_wall") 187, .str (S "_wall") 188, .str (S "/claim/cut.py") 189, .int (1) 0, .int (1) 0, .int (0) 0, .int (0) 0, .int (3) 0, .ref 15, .bool true, .int (181) 0, .ref 16, .none, .ref 17, .ref 18, .ref 19, .int (191) 0, .int (1) 0, .str (S "/claim/cut.py") 192], #[]⟩
noncomputable def o_21 (P : Params) : Obj := ⟨.type "function", none, .func (fnD (stAt T 0) (S "_wall") (S "_wall") [] (.none) (.none) (.none) (.str (S "__main__") 164) none (.ref 20) (.none) 3 0), #[]⟩
noncomputable def o_22 (P : Params) : Obj := ⟨.type "tuple", none, .seq #[] 0, #[]⟩
noncomputable def o_23 (P : Params) : Obj := ⟨.type "builtin_function_or_method", none, .fields #[.builtin "type.__prepare__", .type "type"], #[]⟩
noncomputable def o_24 (P : Params) : Obj := ⟨.type "dict", none, .dict #[⟨PyData.keyHash P (S "__module__"), .str (S "__module__") 203, .str (S "cpy313.difflib") 194⟩, ⟨PyData.keyHash P (S "__qualname__"), .str (S "__qualname__") 205, .str (S "_tuplegetter") 204⟩, ⟨PyData.keyHash P (S "__firstlineno__"), .str (S "__firstlineno__") 207, .int (5) 206⟩, ⟨PyData.keyHash P (S "__init__"), .str (S "__init__") 216, .ref 35⟩, ⟨PyData.keyHash P (S "__get__"), .str (S "__get__") 225, .ref 43⟩, ⟨PyData.keyHash P (S "__set__"), .str (S "__set__") 234, .ref 50⟩, ⟨PyData.keyHash P (S "__delete__"), .str (S "__delete__") 242, .ref 57⟩, ⟨PyData.keyHash P (S "__static_attributes__"), .str (S "__static_attributes__") 245, .ref 58⟩] 8, #[]⟩
noncomputable def o_25 (P : Params) : Obj := ⟨.type "tuple", none, .seq #[] 0, #[]⟩
noncomputable def o_26 (P : Params) : Obj := ⟨.none, none, .fields #[.int (7) 0, .int (4) 0, .ref 34, .int (11) 0, .int (4) 0, .ref 42, .int (18) 0, .int (4) 0, .ref 49, .int (21) 0, .int (4) 0, .ref 56], #[]⟩
noncomputable def o_27 (P : Params) : Obj := ⟨.type "code", none, .fields #[.str (S "_tuplegetter") 198, .str (S "_tuplegetter") 199, .str (S "/claim/cut.py") 200, .int (5) 0, .int (0) 0, .int (0) 0, .int (0) 0, .int (0) 0, .ref 25, .bool false, .int (181) 0, .ref 26, .none, .none, .none, .none, .int (201) 0, .int (5) 0, .str (S "/claim/cut.py") 202], #[]⟩
noncomputable def o_28 (P : Params) : Obj := ⟨.type "frame", none, .plain, #[(some (.ref 27)), (some (.ref 3)), (some (.ref 24)), none, (some (.str (S "cpy313.difflib") 194)), none, (some (.ref 0))]⟩
noncomputable def o_29 (P : Params) : Obj := ⟨.type "tuple", none, .seq #[] 0, #[]⟩
noncomputable def o_30 (P : Params) : Obj := ⟨.none, none, .fields #[], #[]⟩
noncomputable def o_31 (P : Params) : Obj := ⟨.type "tuple", none, .seq #[.str (S "self") 211, .str (S "index") 212, .str (S "doc") 213] 0, #[]⟩
noncomputable def o_32 (P : Params) : Obj := ⟨.type "tuple", none, .seq #[] 0, #[]⟩
noncomputable def o_33 (P : Params) : Obj := ⟨.none, none, .func (fnD (stAt (clsBody (stAt T 2)) 0) (S "__init__") (S "_tuplegetter.__init__") [] (.none) (.none) (.none) (.none) none (.none) (.none) 0 0), #[]⟩
noncomputable def o_34 (P : Params) : Obj := ⟨.type "code", none, .fields #[.str (S "__init__") 208, .str (S "_tuplegetter.__init__") 209, .str (S "/claim/cut.py") 210, .int (7) 0, .int (3) 0, .int (0) 0, .int (0) 0, .int (3) 0, .ref 29, .bool true, .int (181) 0, .ref 30, .none, .ref 31, .ref 32, .ref 33, .int (214) 0, .int (7) 0, .str (S "/claim/cut.py") 215], #[]⟩
noncomputable def o_35 (P : Params) : Obj := ⟨.type "function", none, .func (fnD (stAt (clsBody (stAt T 2)) 0) (S "__init__") (S "_tuplegetter.__init__") [] (.none) (.none) (.none) (.str (S "cpy313.difflib") 194) none (.ref 34) (.none) 3 0), #[]⟩
noncomputable def o_36 (P : Params) : Obj := ⟨.type "tuple", none, .seq #[.none] 0, #[]⟩
noncomputable def o_37 (P : Params) : Obj := ⟨.type "tuple", none, .seq #[] 0, #[]⟩
noncomputable def o_38 (P : Params) : Obj := ⟨.none, none, .fields #[], #[]⟩
noncomputable def o_39 (P : Params) : Obj := ⟨.type "tuple", none, .seq #[.str (S "self") 220, .str (S "obj") 221, .str (S "objtype") 222] 0, #[]⟩
noncomputable def o_40 (P : Params) : Obj := ⟨.type "tuple", none, .seq #[] 0, #[]⟩
noncomputable def o_41 (P : Params) : Obj := ⟨.none, none, .func (fnD (stAt (clsBody (stAt T 2)) 1) (S "__get__") (S "_tuplegetter.__get__") [] (.none) (.none) (.none) (.none) none (.none) (.none) 0 0), #[]⟩
noncomputable def o_42 (P : Params) : Obj := ⟨.type "code", none, .fields #[.str (S "__get__") 217, .str (S "_tuplegetter.__get__") 218, .str (S "/claim/cut.py") 219, .int (11) 0, .int (3) 0, .int (0) 0, .int (0) 0, .int (3) 0, .ref 37, .bool true, .int (181) 0, .ref 38, .none, .ref 39, .ref 40, .ref 41, .int (223) 0, .int (11) 0, .str (S "/claim/cut.py") 224], #[]⟩
noncomputable def o_43 (P : Params) : Obj := ⟨.type "function", none, .func (fnD (stAt (clsBody (stAt T 2)) 1) (S "__get__") (S "_tuplegetter.__get__") [] (.ref 36) (.none) (.none) (.str (S "cpy313.difflib") 194) none (.ref 42) (.none) 3 0), #[]⟩
noncomputable def o_44 (P : Params) : Obj := ⟨.type "tuple", none, .seq #[] 0, #[]⟩
noncomputable def o_45 (P : Params) : Obj := ⟨.none, none, .fields #[], #[]⟩
noncomputable def o_46 (P : Params) : Obj := ⟨.type "tuple", none, .seq #[.str (S "self") 229, .str (S "obj") 230, .str (S "value") 231] 0, #[]⟩
noncomputable def o_47 (P : Params) : Obj := ⟨.type "tuple", none, .seq #[] 0, #[]⟩
noncomputable def o_48 (P : Params) : Obj := ⟨.none, none, .func (fnD (stAt (clsBody (stAt T 2)) 2) (S "__set__") (S "_tuplegetter.__set__") [] (.none) (.none) (.none) (.none) none (.none) (.none) 0 0), #[]⟩
noncomputable def o_49 (P : Params) : Obj := ⟨.type "code", none, .fields #[.str (S "__set__") 226, .str (S "_tuplegetter.__set__") 227, .str (S "/claim/cut.py") 228, .int (18) 0, .int (3) 0, .int (0) 0, .int (0) 0, .int (3) 0, .ref 44, .bool true, .int (181) 0, .ref 45, .none, .ref 46, .ref 47, .ref 48, .int (232) 0, .int (18) 0, .str (S "/claim/cut.py") 233], #[]⟩
noncomputable def o_50 (P : Params) : Obj := ⟨.type "function", none, .func (fnD (stAt (clsBody (stAt T 2)) 2) (S "__set__") (S "_tuplegetter.__set__") [] (.none) (.none) (.none) (.str (S "cpy313.difflib") 194) none (.ref 49) (.none) 3 0), #[]⟩
noncomputable def o_51 (P : Params) : Obj := ⟨.type "tuple", none, .seq #[] 0, #[]⟩
noncomputable def o_52 (P : Params) : Obj := ⟨.none, none, .fields #[], #[]⟩
noncomputable def o_53 (P : Params) : Obj := ⟨.type "tuple", none, .seq #[.str (S "self") 238, .str (S "obj") 239] 0, #[]⟩
noncomputable def o_54 (P : Params) : Obj := ⟨.type "tuple", none, .seq #[] 0, #[]⟩
noncomputable def o_55 (P : Params) : Obj := ⟨.none, none, .func (fnD (stAt (clsBody (stAt T 2)) 3) (S "__delete__") (S "_tuplegetter.__delete__") [] (.none) (.none) (.none) (.none) none (.none) (.none) 0 0), #[]⟩
noncomputable def o_56 (P : Params) : Obj := ⟨.type "code", none, .fields #[.str (S "__delete__") 235, .str (S "_tuplegetter.__delete__") 236, .str (S "/claim/cut.py") 237, .int (21) 0, .int (2) 0, .int (0) 0, .int (0) 0, .int (3) 0, .ref 51, .bool true, .int (181) 0, .ref 52, .none, .ref 53, .ref 54, .ref 55, .int (240) 0, .int (21) 0, .str (S "/claim/cut.py") 241], #[]⟩
noncomputable def o_57 (P : Params) : Obj := ⟨.type "function", none, .func (fnD (stAt (clsBody (stAt T 2)) 3) (S "__delete__") (S "_tuplegetter.__delete__") [] (.none) (.none) (.none) (.str (S "cpy313.difflib") 194) none (.ref 56) (.none) 3 0), #[]⟩
noncomputable def o_58 (P : Params) : Obj := ⟨.type "tuple", none, .seq #[.str (S "__doc__") 243, .str (S "index") 244] 0, #[]⟩
noncomputable def o_59 (P : Params) : Obj := ⟨.type "dict", none, .dict #[⟨PyData.keyHash P (S "__module__"), .str (S "__module__") 203, .str (S "cpy313.difflib") 194⟩, ⟨PyData.keyHash P (S "__firstlineno__"), .str (S "__firstlineno__") 207, .int (5) 206⟩, ⟨PyData.keyHash P (S "__init__"), .str (S "__init__") 216, .ref 35⟩, ⟨PyData.keyHash P (S "__get__"), .str (S "__get__") 225, .ref 43⟩, ⟨PyData.keyHash P (S "__set__"), .str (S "__set__") 234, .ref 50⟩, ⟨PyData.keyHash P (S "__delete__"), .str (S "__delete__") 242, .ref 57⟩, ⟨PyData.keyHash P (S "__static_attributes__"), .str (S "__static_attributes__") 245, .ref 58⟩, ⟨PyData.keyHash P (S "__dict__"), .str (S "__dict__") 247, .ref 61⟩, ⟨PyData.keyHash P (S "__weakref__"), .str (S "__weakref__") 249, .ref 62⟩, ⟨PyData.keyHash P (S "__doc__"), .str (S "__doc__") 250, .none⟩] 4, #[]⟩
noncomputable def o_60 (P : Params) : Obj := ⟨.type "type", none, .cls { name := S "_tuplegetter", bases := [.type "object"], mro := [.ref 60, .type "object"], ns := 59, qualname := S "_tuplegetter", hasDict := true, slotNames := [], subclasses := [], abstract := false, collection := none, hasDel := false }, #[none, none, (some (.str (S "_tuplegetter") 196)), (some (.str (S "_tuplegetter") 204)), (some (.builtin "object.__new__")), (some (.bool true))]⟩
noncomputable def o_61 (P : Params) : Obj := ⟨.type "getset_descriptor", none, .fields #[.str (S "__dict__") 246, .ref 60, .builtin "function.__dict__", .builtin "function.__dict__#set"], #[]⟩
noncomputable def o_62 (P : Params) : Obj := ⟨.type "getset_descriptor", none, .fields #[.str (S "__weakref__") 248, .ref 60, .builtin "ExceptionGroup.__weakref__", .none], #[]⟩
noncomputable def o_63 (P : Params) : Obj := ⟨.type "super", none, .fields #[.ref 60, .ref 60, .ref 60], #[]⟩
noncomputable def o_64 (P : Params) : Obj := ⟨.type "builtin_function_or_method", none, .fields #[.builtin "object.__init_subclass__", .ref 60], #[]⟩
noncomputable def o_65 (P : Params) : Obj := ⟨.type "tuple", none, .seq #[.type "tuple"] 0, #[]⟩
noncomputable def o_66 (P : Params) : Obj := ⟨.type "builtin_function_or_method", none, .fields #[.builtin "type.__prepare__", .type "type"], #[]⟩
noncomputable def o_67 (P : Params) : Obj := ⟨.type "dict", none, .dict #[⟨PyData.keyHash P (S "__module__"), .str (S "__module__") 260, .str (S "cpy313.difflib") 194⟩, ⟨PyData.keyHash P (S "__qualname__"), .str (S "__qualname__") 262, .str (S "Match") 261⟩, ⟨PyData.keyHash P (S "__firstlineno__"), .str (S "__firstlineno__") 264, .int (23) 263⟩, ⟨PyData.keyHash P (S "__doc__"), .str (S "__doc__") 266, .str (S "Match(a, b, size)") 265⟩, ⟨PyData.keyHash P (S "__slots__"), .str (S "__slots__") 268, .ref 73⟩, ⟨PyData.keyHash P (S "_fields"), .str (S "_fields") 272, .ref 74⟩, ⟨PyData.keyHash P (S "_field_defaults"), .str (S "_field_defaults") 273, .ref 75⟩, ⟨PyData.keyHash P (S "__new__"), .str (S "__new__") 284, .ref 82⟩, ⟨PyData.keyHash P (S "_make"), .str (S "_make") 306, .ref 91⟩, ⟨PyData.keyHash P (S "_replace"), .str (S "_replace") 317, .ref 100⟩, ⟨PyData.keyHash P (S "__replace__"), .str (S "__replace__") 318, .ref 100⟩, ⟨PyData.keyHash P (S "__repr__"), .str (S "__repr__") 326, .ref 107⟩, ⟨PyData.keyHash P (S "_asdict"), .str (S "_asdict") 333, .ref 114⟩, ⟨PyData.keyHash P (S "__getnewargs__"), .str (S "__getnewargs__") 341, .ref 121⟩, ⟨PyData.keyHash P (S "__match_args__"), .str (S "__match_args__") 345, .ref 122⟩, ⟨PyData.keyHash P (S "a"), .str (S "a") 355, .ref 124⟩, ⟨PyData.keyHash P (S "b"), .str (S "b") 365, .ref 127⟩, ⟨PyData.keyHash P (S "size"), .str (S "size") 375, .ref 130⟩, ⟨PyData.keyHash P (S "__static_attributes__"), .str (S "__static_attributes__") 376, .ref 132⟩, ⟨PyData.keyHash P (S "__classcell__"), .str (S "__classcell__") 377, .ref 68⟩] 20, #[]⟩
noncomputable def o_68 (P : Params) : Obj := ⟨.type "cell", none, .cell (some (.ref 135)), #[]⟩
noncomputable def o_69 (P : Params) : Obj := ⟨.type "tuple", none, .seq #[] 0, #[]⟩
noncomputable def o_70 (P : Params) : Obj := ⟨.none, none, .fields #[.int (29) 0, .int (4) 0, .ref 81, .int (34) 0, .int (4) 0, .ref 88, .int (41) 0, .int (4) 0, .ref 99, .int (52) 0, .int (4) 0, .ref 106, .int (56) 0, .int (4) 0, .ref 113, .int (59) 0, .int (4) 0, .ref 120], #[]⟩
noncomputable def o_71 (P : Params) : Obj := ⟨.type "code", none, .fields #[.str (S "Match") 255, .str (S "Match") 256, .str (S "/claim/cut.py") 257, .int (23) 0, .int (0) 0, .int (0) 0, .int (0) 0, .int (0) 0, .ref 69, .bool false, .int (181) 0, .ref 70, .none, .none, .none, .none, .int (258) 0, .int (23) 0, .str (S "/claim/cut.py") 259], #[]⟩
noncomputable def o_72 (P : Params) : Obj := ⟨.type "frame", none, .plain, #[(some (.ref 71)), (some (.ref 3)), (some (.ref 67)), none, (some (.str (S "cpy313.difflib") 194)), none, (some (.ref 0))]⟩
noncomputable def o_73 (P : Params) : Obj := ⟨.type "tuple", none, .seq #[] 0, #[]⟩
noncomputable def o_74 (P : Params) : Obj := ⟨.type "tuple", none, .seq #[.str (S "a") 269, .str (S "b") 270, .str (S "size") 271] 0, #[]⟩
noncomputable def o_75 (P : Params) : Obj := ⟨.type "dict", none, .dict #[] 0, #[]⟩
noncomputable def o_76 (P : Params) : Obj := ⟨.type "tuple", none, .seq #[] 0, #[]⟩
noncomputable def o_77 (P : Params) : Obj := ⟨.none, none, .fields #[], #[]⟩
noncomputable def o_78 (P : Params) : Obj := ⟨.type "tuple", none, .seq #[.str (S "_cls") 277, .str (S "a") 278, .str (S "b") 279, .str (S "size") 280] 0, #[]⟩
noncomputable def o_79 (P : Params) : Obj := ⟨.type "tuple", none, .seq #[] 0, #[]⟩
noncomputable def o_80 (P : Params) : Obj := ⟨.none, none, .func (fnD (stAt (clsBody (stAt T 3)) 4) (S "__new__") (S "Match.__new__") [] (.none) (.none) (.none) (.none) none (.none) (.none) 0 0), #[]⟩
noncomputable def o_81 (P : Params) : Obj := ⟨.type "code", none, .fields #[.str (S "__new__") 274, .str (S "Match.__new__") 275, .str (S "/claim/cut.py") 276, .int (29) 0, .int (4) 0, .int (0) 0, .int (0) 0, .int (3) 0, .ref 76, .bool true, .int (181) 0, .ref 77, .none, .ref 78, .ref 79, .ref 80, .int (281) 0, .int (29) 0, .str (S "/claim/cut.py") 282], #[]⟩
noncomputable def o_82 (P : Params) : Obj := ⟨.type "function", none, .func (fnD (stAt (clsBody (stAt T 3)) 4) (S "__new__") (S "Match.__new__") [] (.none) (.none) (.str (S "Create new instance of Match(a, b, size)") 283) (.str (S "cpy313.difflib") 194) none (.ref 81) (.none) 3 0), #[]⟩
noncomputable def o_83 (P : Params) : Obj := ⟨.type "tuple", none, .seq #[] 0, #[]⟩
noncomputable def o_84 (P : Params) : Obj := ⟨.none, none, .fields #[], #[]⟩
noncomputable def o_85 (P : Params) : Obj := ⟨.type "tuple", none, .seq #[.str (S "cls") 288, .str (S "iterable") 289, .str (S "result") 290] 0, #[]⟩
noncomputable def o_86 (P : Params) : Obj := ⟨.type "tuple", none, .seq #[] 0, #[]⟩
noncomputable def o_87 (P : Params) : Obj := ⟨.none, none, .func (fnD (stAt (clsBody (stAt T 3)) 5) (S "_make") (S "Match._make") [] (.none) (.none) (.none) (.none) none (.none) (.none) 0 0), #[]⟩
noncomputable def o_88 (P : Params) : Obj := ⟨.type "code", none, .fields #[.str (S "_make") 285, .str (S "Match._make") 286, .str (S "/claim/cut.py") 287, .int (33) 0, .int (2) 0, .int (0) 0, .int (0) 0, .int (3) 0, .ref 83, .bool true, .int (181) 0, .ref 84, .none, .ref 85, .ref 86, .ref 87, .int (291) 0, .int (33) 0, .str (S "/claim/cut.py") 292], #[]⟩
noncomputable def o_89 (P : Params) : Obj := ⟨.type "function", none, .func (fnD (stAt (clsBody (stAt T 3)) 5) (S "_make") (S "Match._make") [] (.none) (.none) (.str (docAt (fBody (stAt (clsBody (stAt T 3)) 5))) 293) (.str (S "cpy313.difflib") 194) (some 92) (.ref 88) (.none) 3 0), #[]⟩
noncomputable def o_90 (P : Params) : Obj := ⟨.type "dict", none, .dict #[⟨PyData.keyHash P (S "__module__"), .str (S "__module__") 295, .str (S "cpy313.difflib") 194⟩, ⟨PyData.keyHash P (S "__name__"), .str (S "__name__") 298, .str (S "_make") 297⟩, ⟨PyData.keyHash P (S "__qualname__"), .str (S "__qualname__") 301, .str (S "Match._make") 300⟩, ⟨PyData.keyHash P (S "__doc__"), .str (S "__doc__") 303, .str (docAt (fBody (stAt (clsBody (stAt T 3)) 5))) 293⟩, ⟨PyData.keyHash P (S "__annotations__"), .str (S "__annotations__") 305, .ref 92⟩] 5, #[]⟩
noncomputable def o_91 (P : Params) : Obj := ⟨.type "classmethod", (some 90), .fields #[.ref 89, .bool false], #[]⟩
noncomputable def o_92 (P : Params) : Obj := ⟨.type "dict", none, .dict #[] 0, #[]⟩
noncomputable def o_93 (P : Params) : Obj := ⟨.type "tuple", none, .seq #[.ref 68] 0, #[]⟩
noncomputable def o_94 (P : Params) : Obj := ⟨.type "tuple", none, .seq #[.str (S "__class__") 310] 0, #[]⟩
noncomputable def o_95 (P : Params) : Obj := ⟨.none, none, .fields #[], #[]⟩
noncomputable def o_96 (P : Params) : Obj := ⟨.type "tuple", none, .seq #[.str (S "self") 311, .str (S "kwds") 312, .str (S "result") 313] 0, #[]⟩
noncomputable def o_97 (P : Params) : Obj := ⟨.type "tuple", none, .seq #[] 0, #[]⟩
noncomputable def o_98 (P : Params) : Obj := ⟨.none, none, .func (fnD (stAt (clsBody (stAt T 3)) 6) (S "_replace") (S "Match._replace") [] (.none) (.none) (.none) (.none) none (.none) (.none) 0 0), #[]⟩
noncomputable def o_99 (P : Params) : Obj := ⟨.type "code", none, .fields #[.str (S "_replace") 307, .str (S "Match._replace") 308, .str (S "/claim/cut.py") 309, .int (41) 0, .int (1) 0, .int (1) 0, .int (0) 0, .int (11) 0, .ref 94, .bool true, .int (181) 0, .ref 95, .none, .ref 96, .ref 97, .ref 98, .int (314) 0, .int (41) 0, .str (S "/claim/cut.py") 315], #[]⟩
noncomputable def o_100 (P : Params) : Obj := ⟨.type "function", none, .func (fnD (stAt (clsBody (stAt T 3)) 6) (S "_replace") (S "Match._replace") [(S "__class__", 68)] (.none) (.none) (.str (docAt (fBody (stAt (clsBody (stAt T 3)) 6))) 316) (.str (S "cpy313.difflib") 194) none (.ref 99) (.ref 93) 3 0), #[]⟩
noncomputable def o_101 (P : Params) : Obj := ⟨.type "tuple", none, .seq #[] 0, #[]⟩
noncomputable def o_102 (P : Params) : Obj := ⟨.none, none, .fields #[], #[]⟩
noncomputable def o_103 (P : Params) : Obj := ⟨.type "tuple", none, .seq #[.str (S "self") 322] 0, #[]⟩
noncomputable def o_104 (P : Params) : Obj := ⟨.type "tuple", none, .seq #[] 0, #[]⟩
noncomputable def o_105 (P : Params) : Obj := ⟨.none, none, .func (fnD (stAt (clsBody (stAt T 3)) 8) (S "__repr__") (S "Match.__repr__") [] (.none) (.none) (.none) (.none) none (.none) (.none) 0 0), #[]⟩
noncomputable def o_106 (P : Params) : Obj := ⟨.type "code", none, .fields #[.str (S "__repr__") 319, .str (S "Match.__repr__") 320, .str (S "/claim/cut.py") 321, .int (52) 0, .int (1) 0, .int (0) 0, .int (0) 0, .int (3) 0, .ref 101, .bool true, .int (181) 0, .ref 102, .none, .ref 103, .ref 104, .ref 105, .int (323) 0, .int (52) 0, .str (S "/claim/cut.py") 324], #[]⟩
noncomputable def o_107 (P : Params) : Obj := ⟨.type "function", none, .func (fnD (stAt (clsBody (stAt T 3)) 8) (S "__repr__") (S "Match.__repr__") [] (.none) (.none) (.str (docAt (fBody (stAt (clsBody (stAt T 3)) 8))) 325) (.str (S "cpy313.difflib") 194) none (.ref 106) (.none) 3 0), #[]⟩
noncomputable def o_108 (P : Params) : Obj := ⟨.type "tuple", none, .seq #[] 0, #[]⟩
noncomputable def o_109 (P : Params) : Obj := ⟨.none, none, .fields #[], #[]⟩
noncomputable def o_110 (P : Params) : Obj := ⟨.type "tuple", none, .seq #[.str (S "self") 330] 0, #[]⟩
noncomputable def o_111 (P : Params) : Obj := ⟨.type "tuple", none, .seq #[] 0, #[]⟩
noncomputable def o_112 (P : Params) : Obj := ⟨.none, none, .func (fnD (stAt (clsBody (stAt T 3)) 9) (S "_asdict") (S "Match._asdict") [] (.none) (.none) (.none) (.none) none (.none) (.none) 0 0), #[]⟩
noncomputable def o_113 (P : Params) : Obj := ⟨.type "code", none, .fields #[.str (S "_asdict") 327, .str (S "Match._asdict") 328, .str (S "/claim/cut.py") 329, .int (56) 0, .int (1) 0, .int (0) 0, .int (0) 0, .int (3) 0, .ref 108, .bool true, .int (181) 0, .ref 109, .none, .ref 110, .ref 111, .ref 112, .int (331) 0, .int (56) 0, .str (S "/claim/cut.py") 332], #[]⟩
noncomputable def o_114 (P : Params) : Obj := ⟨.type "function", none, .func (fnD (stAt (clsBody (stAt T 3)) 9) (S "_asdict") (S "Match._asdict") [] (.none) (.none) (.none) (.str (S "cpy313.difflib") 194) none (.ref 113) (.none) 3 0), #[]⟩
noncomputable def o_115 (P : Params) : Obj := ⟨.type "tuple", none, .seq #[] 0, #[]⟩
noncomputable def o_116 (P : Params) : Obj := ⟨.none, none, .fields #[], #[]⟩
noncomputable def o_117 (P : Params) : Obj := ⟨.type "tuple", none, .seq #[.str (S "self") 337] 0, #[]⟩
noncomputable def o_118 (P : Params) : Obj := ⟨.type "tuple", none, .seq #[] 0, #[]⟩
noncomputable def o_119 (P : Params) : Obj := ⟨.none, none, .func (fnD (stAt (clsBody (stAt T 3)) 10) (S "__getnewargs__") (S "Match.__getnewargs__") [] (.none) (.none) (.none) (.none) none (.none) (.none) 0 0), #[]⟩
noncomputable def o_120 (P : Params) : Obj := ⟨.type "code", none, .fields #[.str (S "__getnewargs__") 334, .str (S "Match.__getnewargs__") 335, .str (S "/claim/cut.py") 336, .int (59) 0, .int (1) 0, .int (0) 0, .int (0) 0, .int (3) 0, .ref 115, .bool true, .int (181) 0, .ref 116, .none, .ref 117, .ref 118, .ref 119, .int (338) 0, .int (59) 0, .str (S "/claim/cut.py") 339], #[]⟩
noncomputable def o_121 (P : Params) : Obj := ⟨.type "function", none, .func (fnD (stAt (clsBody (stAt T 3)) 10) (S "__getnewargs__") (S "Match.__getnewargs__") [] (.none) (.none) (.str (docAt (fBody (stAt (clsBody (stAt T 3)) 10))) 340) (.str (S "cpy313.difflib") 194) none (.ref 120) (.none) 3 0), #[]⟩
noncomputable def o_122 (P : Params) : Obj := ⟨.type "tuple", none, .seq #[.str (S "a") 342, .str (S "b") 343, .str (S "size") 344] 0, #[]⟩
noncomputable def o_123 (P : Params) : Obj := ⟨.type "dict", none, .dict #[⟨PyData.keyHash P (S "index"), .str (S "index") 352, .int (0) 346⟩, ⟨PyData.keyHash P (S "__doc__"), .str (S "__doc__") 354, .str (S "Alias for field number 0") 347⟩] 2, #[]⟩
noncomputable def o_124 (P : Params) : Obj := ⟨.ref 60, (some 123), .plain, #[]⟩
noncomputable def o_125 (P : Params) : Obj := ⟨.type "frame", none, .dict #[⟨PyData.keyHash P (S "self"), .str (S "self") 348, .ref 124⟩, ⟨PyData.keyHash P (S "index"), .str (S "index") 349, .int (0) 346⟩, ⟨PyData.keyHash P (S "doc"), .str (S "doc") 350, .str (S "Alias for field number 0") 347⟩] 3, #[]⟩
noncomputable def o_126 (P : Params) : Obj := ⟨.type "dict", none, .dict #[⟨PyData.keyHash P (S "index"), .str (S "index") 362, .int (1) 356⟩, ⟨PyData.keyHash P (S "__doc__"), .str (S "__doc__") 364, .str (S "Alias for field number 1") 357⟩] 2, #[]⟩
noncomputable def o_127 (P : Params) : Obj := ⟨.ref 60, (some 126), .plain, #[]⟩
noncomputable def o_128 (P : Params) : Obj := ⟨.type "frame", none, .dict #[⟨PyData.keyHash P (S "self"), .str (S "self") 358, .ref 127⟩, ⟨PyData.keyHash P (S "index"), .str (S "index") 359, .int (1) 356⟩, ⟨PyData.keyHash P (S "doc"), .str (S "doc") 360, .str (S "Alias for field number 1") 357⟩] 3, #[]⟩
noncomputable def o_129 (P : Params) : Obj := ⟨.type "dict", none, .dict #[⟨PyData.keyHash P (S "index"), .str (S "index") 372, .int (2) 366⟩, ⟨PyData.keyHash P (S "__doc__"), .str (S "__doc__") 374, .str (S "Alias for field number 2") 367⟩] 2, #[]⟩
noncomputable def o_130 (P : Params) : Obj := ⟨.ref 60, (some 129), .plain, #[]⟩
noncomputable def o_131 (P : Params) : Obj := ⟨.type "frame", none, .dict #[⟨PyData.keyHash P (S "self"), .str (S "self") 368, .ref 130⟩, ⟨PyData.keyHash P (S "index"), .str (S "index") 369, .int (2) 366⟩, ⟨PyData.keyHash P (S "doc"), .str (S "doc") 370, .str (S "Alias for field number 2") 367⟩] 3, #[]⟩
noncomputable def o_132 (P : Params) : Obj := ⟨.type "tuple", none, .seq #[] 0, #[]⟩
noncomputable def o_133 (P : Params) : Obj := ⟨.type "list", none, .seq #[] 0, #[]⟩
noncomputable def o_134 (P : Params) : Obj := ⟨.type "dict", none, .dict #[⟨PyData.keyHash P (S "__module__"), .str (S "__module__") 260, .str (S "cpy313.difflib") 194⟩, ⟨PyData.keyHash P (S "__firstlineno__"), .str (S "__firstlineno__") 264, .int (23) 263⟩, ⟨PyData.keyHash P (S "__doc__"), .str (S "__doc__") 266, .str (S "Match(a, b, size)") 265⟩, ⟨PyData.keyHash P (S "__slots__"), .str (S "__slots__") 268, .ref 73⟩, ⟨PyData.keyHash P (S "_fields"), .str (S "_fields") 272, .ref 74⟩, ⟨PyData.keyHash P (S "_field_defaults"), .str (S "_field_defaults") 273, .ref 75⟩, ⟨PyData.keyHash P (S "__new__"), .str (S "__new__") 284, .ref 136⟩, ⟨PyData.keyHash P (S "_make"), .str (S "_make") 306, .ref 91⟩, ⟨PyData.keyHash P (S "_replace"), .str (S "_replace") 317, .ref 100⟩, ⟨PyData.keyHash P (S "__replace__"), .str (S "__replace__") 318, .ref 100⟩, ⟨PyData.keyHash P (S "__repr__"), .str (S "__repr__") 326, .ref 107⟩, ⟨PyData.keyHash P (S "_asdict"), .str (S "_asdict") 333, .ref 114⟩, ⟨PyData.keyHash P (S "__getnewargs__"), .str (S "__getnewargs__") 341, .ref 121⟩, ⟨PyData.keyHash P (S "__match_args__"), .str (S "__match_args__") 345, .ref 122⟩, ⟨PyData.keyHash P (S "a"), .str (S "a") 355, .ref 124⟩, ⟨PyData.keyHash P (S "b"), .str (S "b") 365, .ref 127⟩, ⟨PyData.keyHash P (S "size"), .str (S "size") 375, .ref 130⟩, ⟨PyData.keyHash P (S "__static_attributes__"), .str (S "__static_attributes__") 376, .ref 132⟩] 2, #[]⟩
noncomputable def o_135 (P : Params) : Obj := ⟨.type "type", none, .cls { name := S "Match", bases := [.type "tuple"], mro := [.ref 135, .type "tuple", .type "object"], ns := 134, qualname := S "Match", hasDict := false, slotNames := [], subclasses := [], abstract := false, collection := none, hasDel := false }, #[(some (.ref 65)), none, (some (.str (S "Match") 253)), (some (.str (S "Match") 261)), (some (.none)), (some (.bool false))]⟩
noncomputable def o_136 (P : Params) : Obj := ⟨.type "staticmethod", none, .fields #[.ref 82], #[]⟩
noncomputable def o_137 (P : Params) : Obj := ⟨.type "super", none, .fields #[.ref 135, .ref 135, .ref 135], #[]⟩
noncomputable def o_138 (P : Params) : Obj := ⟨.type "builtin_function_or_method", none, .fields #[.builtin "object.__init_subclass__", .ref 135], #[]⟩
noncomputable def o_139 (P : Params) : Obj := ⟨.type "tuple", none, .seq #[] 0, #[]⟩
noncomputable def o_140 (P : Params) : Obj := ⟨.none, none, .fields #[], #[]⟩
noncomputable def o_141 (P : Params) : Obj := ⟨.type "tuple", none, .seq #[.str (S "matches") 384, .str (S "length") 385] 0, #[]⟩
noncomputable def o_142 (P : Params) : Obj := ⟨.type "tuple", none, .seq #[] 0, #[]⟩
noncomputable def o_143 (P : Params) : Obj := ⟨.none, none, .func (fnD (stAt T 4) (S "_calculate_ratio") (S "_calculate_ratio") [] (.none) (.none) (.none) (.none) none (.none) (.none) 0 0), #[]⟩
noncomputable def o_144 (P : Params) : Obj := ⟨.type "code", none, .fields #[.str (S "_calculate_ratio") 381, .str (S "_calculate_ratio") 382, .str (S "/claim/cut.py") 383, .int (66) 0, .int (2) 0, .int (0) 0, .int (0) 0, .int (3) 0, .ref 139, .bool true, .int (181) 0, .ref 140, .none, .ref 141, .ref 142, .ref 143, .int (386) 0, .int (66) 0, .str (S "/claim/cut.py") 387], #[]⟩
noncomputable def o_145 (P : Params) : Obj := ⟨.type "function", none, .func (fnD (stAt T 4) (S "_calculate_ratio") (S "_calculate_ratio") [] (.none) (.none) (.none) (.str (S "cpy313.difflib") 194) none (.ref 144) (.none) 3 0), #[]⟩
noncomputable def o_146 (P : Params) : Obj := ⟨.type "tuple", none, .seq #[] 0, #[]⟩
noncomputable def o_147 (P : Params) : Obj := ⟨.type "builtin_function_or_method", none, .fields #[.builtin "type.__prepare__", .type "type"], #[]⟩
noncomputable def o_148 (P : Params) : Obj := ⟨.type "dict", none, .dict #[⟨PyData.keyHash P (S "__module__"), .str (S "__module__") 396, .str (S "cpy313.difflib") 194⟩, ⟨PyData.keyHash P (S "__qualname__"), .str (S "__qualname__") 398, .str (S "SequenceMatcher") 397⟩, ⟨PyData.keyHash P (S "__firstlineno__"), .str (S "__firstlineno__") 400, .int (70) 399⟩, ⟨PyData.keyHash P (S "__doc__"), .str (S "__doc__") 402, .str (docAt (clsBody (stAt T 5))) 401⟩, ⟨PyData.keyHash P (S "__init__"), .str (S "__init__") 417, .ref 160⟩, ⟨PyData.keyHash P (S "set_seqs"), .str (S "set_seqs") 427, .ref 167⟩, ⟨PyData.keyHash P (S "set_seq1"), .str (S "set_seq1") 436, .ref 174⟩, ⟨PyData.keyHash P (S "set_seq2"), .str (S "set_seq2") 445, .ref 181⟩, ⟨PyData.keyHash P (S "_SequenceMatcher__chain_b"), .str (S "_SequenceMatcher__chain_b") 463, .ref 188⟩, ⟨PyData.keyHash P (S "find_longest_match"), .str (S "find_longest_match") 491, .ref 196⟩, ⟨PyData.keyHash P (S "get_matching_blocks"), .str (S "get_matching_blocks") 518, .ref 203⟩, ⟨PyData.keyHash P (S "get_opcodes"), .str (S "get_opcodes") 525, .ref 210⟩, ⟨PyData.keyHash P (S "get_grouped_opcodes"), .str (S "get_grouped_opcodes") 534, .ref 218⟩, ⟨PyData.keyHash P (S "ratio"), .str (S "ratio") 543, .ref 225⟩, ⟨PyData.keyHash P (S "quick_ratio"), .str (S "quick_ratio") 550, .ref 232⟩, ⟨PyData.keyHash P (S "real_quick_ratio"), .str (S "real_quick_ratio") 557, .ref 239⟩, ⟨PyData.keyHash P (S "__static_attributes__"), .str (S "__static_attributes__") 568, .ref 240⟩] 17, #[]⟩
noncomputable def o_149 (P : Params) : Obj := ⟨.type "tuple", none, .seq #[] 0, #[]⟩
noncomputable def o_150 (P : Params) : Obj := ⟨.none, none, .fields #[.int (145) 0, .int (4) 0, .ref 159, .int (173) 0, .int (4) 0, .ref 166, .int (184) 0, .int (4) 0, .ref 173, .int (209) 0, .int (4) 0, .ref 180, .int (236) 0, .int (4) 0, .ref 187, .int (260) 0, .int (4) 0, .ref 195, .int (335) 0, .int (4) 0, .ref 202, .int (383) 0, .int (4) 0, .ref 209, .int (386) 0, .int (4) 0, .ref 217, .int (389) 0, .int (4) 0, .ref 224, .int (413) 0, .int (4) 0, .ref 231, .int (416) 0, .int (4) 0, .ref 238], #[]⟩
noncomputable def o_151 (P : Params) : Obj := ⟨.type "code", none, .fields #[.str (S "SequenceMatcher") 391, .str (S "SequenceMatcher") 392, .str (S "/claim/cut.py") 393, .int (70) 0, .int (0) 0, .int (0) 0, .int (0) 0, .int (0) 0, .ref 149, .bool false, .int (181) 0, .ref 150, .none, .none, .none, .none, .int (394) 0, .int (70) 0, .str (S "/claim/cut.py") 395], #[]⟩
noncomputable def o_152 (P : Params) : Obj := ⟨.type "frame", none, .plain, #[(some (.ref 151)), (some (.ref 3)), (some (.ref 148)), none, (some (.str (S "cpy313.difflib") 194)), none, (some (.ref 0))]⟩
noncomputable def o_153 (P : Params) : Obj := ⟨.type "tuple", none, .seq #[.none, .str (S "") 404, .str (S "") 405, .bool true] 0, #[]⟩
noncomputable def o_154 (P : Params) : Obj := ⟨.type "tuple", none, .seq #[] 0, #[]⟩
noncomputable def o_155 (P : Params) : Obj := ⟨.none, none, .fields #[], #[]⟩
noncomputable def o_156 (P : Params) : Obj := ⟨.type "tuple", none, .seq #[.str (S "self") 409, .str (S "isjunk") 410, .str (S "a") 411, .str (S "b") 412, .str (S "autojunk") 413] 0, #[]⟩
noncomputable def o_157 (P : Params) : Obj := ⟨.type "tuple", none, .seq #[] 0, #[]⟩
noncomputable def o_158 (P : Params) : Obj := ⟨.none, none, .func (fnD (stAt (clsBody (stAt T 5)) 1) (S "__init__") (S "SequenceMatcher.__init__") [] (.none) (.none) (.none) (.none) none (.none) (.none) 0 0), #[]⟩
noncomputable def o_159 (P : Params) : Obj := ⟨.type "code", none, .fields #[.str (S "__init__") 406, .str (S "SequenceMatcher.__init__") 407, .str (S "/claim/cut.py") 408, .int (145) 0, .int (5) 0, .int (0) 0, .int (0) 0, .int (3) 0, .ref 154, .bool true, .int (181) 0, .ref 155, .none, .ref 156, .ref 157, .ref 158, .int (414) 0, .int (145) 0, .str (S "/claim/cut.py") 415], #[]⟩
noncomputable def o_160 (P : Params) : Obj := ⟨.type "function", none, .func (fnD (stAt (clsBody (stAt T 5)) 1) (S "__init__") (S "SequenceMatcher.__init__") [] (.ref 153) (.none) (.str (docAt (fBody (stAt (clsBody (stAt T 5)) 1))) 416) (.str (S "cpy313.difflib") 194) none (.ref 159) (.none) 3 0), #[]⟩
noncomputable def o_161 (P : Params) : Obj := ⟨.type "tuple", none, .seq #[] 0, #[]⟩
noncomputable def o_162 (P : Params) : Obj := ⟨.none, none, .fields #[], #[]⟩
noncomputable def o_163 (P : Params) : Obj := ⟨.type "tuple", none, .seq #[.str (S "self") 421, .str (S "a") 422, .str (S "b") 423] 0, #[]⟩
noncomputable def o_164 (P : Params) : Obj := ⟨.type "tuple", none, .seq #[] 0, #[]⟩
noncomputable def o_165 (P : Params) : Obj := ⟨.none, none, .func (fnD (stAt (clsBody (stAt T 5)) 2) (S "set_seqs") (S "SequenceMatcher.set_seqs") [] (.none) (.none) (.none) (.none) none (.none) (.none) 0 0), #[]⟩
noncomputable def o_166 (P : Params) : Obj := ⟨.type "code", none, .fields #[.str (S "set_seqs") 418, .str (S "SequenceMatcher.set_seqs") 419, .str (S "/claim/cut.py") 420, .int (173) 0, .int (3) 0, .int (0) 0, .int (0) 0, .int (3) 0, .ref 161, .bool true, .int (181) 0, .ref 162, .none, .ref 163, .ref 164, .ref 165, .int (424) 0, .int (173) 0, .str (S "/claim/cut.py") 425], #[]⟩
noncomputable def o_167 (P : Params) : Obj := ⟨.type "function", none, .func (fnD (stAt (clsBody (stAt T 5)) 2) (S "set_seqs") (S "SequenceMatcher.set_seqs") [] (.none) (.none) (.str (docAt (fBody (stAt (clsBody (stAt T 5)) 2))) 426) (.str (S "cpy313.difflib") 194) none (.ref 166) (.none) 3 0), #[]⟩
noncomputable def o_168 (P : Params) : Obj := ⟨.type "tuple", none, .seq #[] 0, #[]⟩
noncomputable def o_169 (P : Params) : Obj := ⟨.none, none, .fields #[], #[]⟩
noncomputable def o_170 (P : Params) : Obj := ⟨.type "tuple", none, .seq #[.str (S "self") 431, .str (S "a") 432] 0, #[]⟩
noncomputable def o_171 (P : Params) : Obj := ⟨.type "tuple", none, .seq #[] 0, #[]⟩
noncomputable def o_172 (P : Params) : Obj := ⟨.none, none, .func (fnD (stAt (clsBody (stAt T 5)) 3) (S "set_seq1") (S "SequenceMatcher.set_seq1") [] (.none) (.none) (.none) (.none) none (.none) (.none) 0 0), #[]⟩
noncomputable def o_173 (P : Params) : Obj := ⟨.type "code", none, .fields #[.str (S "set_seq1") 428, .str (S "SequenceMatcher.set_seq1") 429, .str (S "/claim/cut.py") 430, .int (184) 0, .int (2) 0, .int (0) 0, .int (0) 0, .int (3) 0, .ref 168, .bool true, .int (181) 0, .ref 169, .none, .ref 170, .ref 171, .ref 172, .int (433) 0, .int (184) 0, .str (S "/claim/cut.py") 434], #[]⟩
noncomputable def o_174 (P : Params) : Obj := ⟨.type "function", none, .func (fnD (stAt (clsBody (stAt T 5)) 3) (S "set_seq1") (S "SequenceMatcher.set_seq1") [] (.none) (.none) (.str (docAt (fBody (stAt (clsBody (stAt T 5)) 3))) 435) (.str (S "cpy313.difflib") 194) none (.ref 173) (.none) 3 0), #[]⟩
noncomputable def o_175 (P : Params) : Obj := ⟨.type "tuple", none, .seq #[] 0, #[]⟩
noncomputable def o_176 (P : Params) : Obj := ⟨.none, none, .fields #[], #[]⟩
noncomputable def o_177 (P : Params) : Obj := ⟨.type "tuple", none, .seq #[.str (S "self") 440, .str (S "b") 441] 0, #[]⟩
noncomputable def o_178 (P : Params) : Obj := ⟨.type "tuple", none, .seq #[] 0, #[]⟩
noncomputable def o_179 (P : Params) : Obj := ⟨.none, none, .func (fnD (stAt (clsBody (stAt T 5)) 4) (S "set_seq2") (S "SequenceMatcher.set_seq2") [] (.none) (.none) (.none) (.none) none (.none) (.none) 0 0), #[]⟩
noncomputable def o_180 (P : Params) : Obj := ⟨.type "code", none, .fields #[.str (S "set_seq2") 437, .str (S "SequenceMatcher.set_seq2") 438, .str (S "/claim/cut.py") 439, .int (209) 0, .int (2) 0, .int (0) 0, .int (0) 0, .int (3) 0, .ref 175, .bool true, .int (181) 0, .ref 176, .none, .ref 177, .ref 178, .ref 179, .int (442) 0, .int (209) 0, .str (S "/claim/cut.py") 443], #[]⟩
noncomputable def o_181 (P : Params) : Obj := ⟨.type "function", none, .func (fnD (stAt (clsBody (stAt T 5)) 4) (S "set_seq2") (S "SequenceMatcher.set_seq2") [] (.none) (.none) (.str (docAt (fBody (stAt (clsBody (stAt T 5)) 4))) 444) (.str (S "cpy313.difflib") 194) none (.ref 180) (.none) 3 0), #[]⟩
noncomputable def o_182 (P : Params) : Obj := ⟨.type "tuple", none, .seq #[] 0, #[]⟩
noncomputable def o_183 (P : Params) : Obj := ⟨.none, none, .fields #[], #[]⟩
noncomputable def o_184 (P : Params) : Obj := ⟨.type "tuple", none, .seq #[.str (S "self") 449, .str (S "b") 450, .str (S "b2j") 451, .str (S "i") 452, .str (S "elt") 453, .str (S "indices") 454, .str (S "junk") 455, .str (S "isjunk") 456, .str (S "popular") 457, .str (S "n") 458, .str (S "ntest") 459, .str (S "idxs") 460] 0, #[]⟩
noncomputable def o_185 (P : Params) : Obj := ⟨.type "tuple", none, .seq #[] 0, #[]⟩
noncomputable def o_186 (P : Params) : Obj := ⟨.none, none, .func (fnD (stAt (clsBody (stAt T 5)) 5) (S "__chain_b") (S "SequenceMatcher.__chain_b") [] (.none) (.none) (.none) (.none) none (.none) (.none) 0 0), #[]⟩
noncomputable def o_187 (P : Params) : Obj := ⟨.type "code", none, .fields #[.str (S "__chain_b") 446, .str (S "SequenceMatcher.__chain_b") 447, .str (S "/claim/cut.py") 448, .int (236) 0, .int (1) 0, .int (0) 0, .int (0) 0, .int (3) 0, .ref 182, .bool true, .int (181) 0, .ref 183, .none, .ref 184, .ref 185, .ref 186, .int (461) 0, .int (236) 0, .str (S "/claim/cut.py") 462], #[]⟩
noncomputable def o_188 (P : Params) : Obj := ⟨.type "function", none, .func (fnD (stAt (clsBody (stAt T 5)) 5) (S "__chain_b") (S "SequenceMatcher.__chain_b") [] (.none) (.none) (.none) (.str (S "cpy313.difflib") 194) none (.ref 187) (.none) 3 0), #[]⟩
noncomputable def o_189 (P : Params) : Obj := ⟨.type "tuple", none, .seq #[.int (0) 464, .none, .int (0) 465, .none] 0, #[]⟩
noncomputable def o_190 (P : Params) : Obj := ⟨.type "tuple", none, .seq #[] 0, #[]⟩
noncomputable def o_191 (P : Params) : Obj := ⟨.none, none, .fields #[], #[]⟩
noncomputable def o_192 (P : Params) : Obj := ⟨.type "tuple", none, .seq #[.str (S "self") 469, .str (S "alo") 470, .str (S "ahi") 471, .str (S "blo") 472, .str (S "bhi") 473, .str (S "a") 474, .str (S "b") 475, .str (S "b2j") 476, .str (S "isbjunk") 477, .str (S "besti") 478, .str (S "bestj") 479, .str (S "bestsize") 480, .str (S "j2len") 481, .str (S "nothing") 482, .str (S "i") 483, .str (S "j2lenget") 484, .str (S "newj2len") 485, .str (S "j") 486, .str (S "k") 487] 0, #[]⟩
noncomputable def o_193 (P : Params) : Obj := ⟨.type "tuple", none, .seq #[] 0, #[]⟩
noncomputable def o_194 (P : Params) : Obj := ⟨.none, none, .func (fnD (stAt (clsBody (stAt T 5)) 6) (S "find_longest_match") (S "SequenceMatcher.find_longest_match") [] (.none) (.none) (.none) (.none) none (.none) (.none) 0 0), #[]⟩
noncomputable def o_195 (P : Params) : Obj := ⟨.type "code", none, .fields #[.str (S "find_longest_match") 466, .str (S "SequenceMatcher.find_longest_match") 467, .str (S "/claim/cut.py") 468, .int (260) 0, .int (5) 0, .int (0) 0, .int (0) 0, .int (3) 0, .ref 190, .bool true, .int (181) 0, .ref 191, .none, .ref 192, .ref 193, .ref 194, .int (488) 0, .int (260) 0, .str (S "/claim/cut.py") 489], #[]⟩
noncomputable def o_196 (P : Params) : Obj := ⟨.type "function", none, .func (fnD (stAt (clsBody (stAt T 5)) 6) (S "find_longest_match") (S "SequenceMatcher.find_longest_match") [] (.ref 189) (.none) (.str (docAt (fBody (stAt (clsBody (stAt T 5)) 6))) 490) (.str (S "cpy313.difflib") 194) none (.ref 195) (.none) 3 0), #[]⟩
noncomputable def o_197 (P : Params) : Obj := ⟨.type "tuple", none, .seq #[] 0, #[]⟩
noncomputable def o_198 (P : Params) : Obj := ⟨.none, none, .fields #[], #[]⟩
noncomputable def o_199 (P : Params) : Obj := ⟨.type "tuple", none, .seq #[.str (S "self") 495, .str (S "la") 496, .str (S "lb") 497, .str (S "queue") 498, .str (S "matching_blocks") 499, .str (S "alo") 500, .str (S "ahi") 501, .str (S "blo") 502, .str (S "bhi") 503, .str (S "i") 504, .str (S "j") 505, .str (S "k") 506, .str (S "x") 507, .str (S "i1") 508, .str (S "j1") 509, .str (S "k1") 510, .str (S "non_adjacent") 511, .str (S "i2") 512, .str (S "j2") 513, .str (S "k2") 514] 0, #[]⟩
noncomputable def o_200 (P : Params) : Obj := ⟨.type "tuple", none, .seq #[] 0, #[]⟩
noncomputable def o_201 (P : Params) : Obj := ⟨.none, none, .func (fnD (stAt (clsBody (stAt T 5)) 7) (S "get_matching_blocks") (S "SequenceMatcher.get_matching_blocks") [] (.none) (.none) (.none) (.none) none (.none) (.none) 0 0), #[]⟩
noncomputable def o_202 (P : Params) : Obj := ⟨.type "code", none, .fields #[.str (S "get_matching_blocks") 492, .str (S "SequenceMatcher.get_matching_blocks") 493, .str (S "/claim/cut.py") 494, .int (335) 0, .int (1) 0, .int (0) 0, .int (0) 0, .int (3) 0, .ref 197, .bool true, .int (181) 0, .ref 198, .none, .ref 199, .ref 200, .ref 201, .int (515) 0, .int (335) 0, .str (S "/claim/cut.py") 516], #[]⟩
noncomputable def o_203 (P : Params) : Obj := ⟨.type "function", none, .func (fnD (stAt (clsBody (stAt T 5)) 7) (S "get_matching_blocks") (S "SequenceMatcher.get_matching_blocks") [] (.none) (.none) (.str (docAt (fBody (stAt (clsBody (stAt T 5)) 7))) 517) (.str (S "cpy313.difflib") 194) none (.ref 202) (.none) 3 0), #[]⟩
noncomputable def o_204 (P : Params) : Obj := ⟨.type "tuple", none, .seq #[] 0, #[]⟩
noncomputable def o_205 (P : Params) : Obj := ⟨.none, none, .fields #[], #[]⟩
noncomputable def o_206 (P : Params) : Obj := ⟨.type "tuple", none, .seq #[.str (S "self") 522] 0, #[]⟩
noncomputable def o_207 (P : Params) : Obj := ⟨.type "tuple", none, .seq #[] 0, #[]⟩
noncomputable def o_208 (P : Params) : Obj := ⟨.none, none, .func (fnD (stAt (clsBody (stAt T 5)) 8) (S "get_opcodes") (S "SequenceMatcher.get_opcodes") [] (.none) (.none) (.none) (.none) none (.none) (.none) 0 0), #[]⟩
noncomputable def o_209 (P : Params) : Obj := ⟨.type "code", none, .fields #[.str (S "get_opcodes") 519, .str (S "SequenceMatcher.get_opcodes") 520, .str (S "/claim/cut.py") 521, .int (383) 0, .int (1) 0, .int (0) 0, .int (0) 0, .int (3) 0, .ref 204, .bool true, .int (181) 0, .ref 205, .none, .ref 206, .ref 207, .ref 208, .int (523) 0, .int (383) 0, .str (S "/claim/cut.py") 524], #[]⟩
noncomputable def o_210 (P : Params) : Obj := ⟨.type "function", none, .func (fnD (stAt (clsBody (stAt T 5)) 8) (S "get_opcodes") (S "SequenceMatcher.get_opcodes") [] (.none) (.none) (.none) (.str (S "cpy313.difflib") 194) none (.ref 209) (.none) 3 0), #[]⟩
noncomputable def o_211 (P : Params) : Obj := ⟨.type "tuple", none, .seq #[.int (3) 526] 0, #[]⟩
noncomputable def o_212 (P : Params) : Obj := ⟨.type "tuple", none, .seq #[] 0, #[]⟩
noncomputable def o_213 (P : Params) : Obj := ⟨.none, none, .fields #[], #[]⟩
noncomputable def o_214 (P : Params) : Obj := ⟨.type "tuple", none, .seq #[.str (S "self") 530, .str (S "n") 531] 0, #[]⟩
noncomputable def o_215 (P : Params) : Obj := ⟨.type "tuple", none, .seq #[] 0, #[]⟩
noncomputable def o_216 (P : Params) : Obj := ⟨.none, none, .func (fnD (stAt (clsBody (stAt T 5)) 9) (S "get_grouped_opcodes") (S "SequenceMatcher.get_grouped_opcodes") [] (.none) (.none) (.none) (.none) none (.none) (.none) 0 0), #[]⟩
noncomputable def o_217 (P : Params) : Obj := ⟨.type "code", none, .fields #[.str (S "get_grouped_opcodes") 527, .str (S "SequenceMatcher.get_grouped_opcodes") 528, .str (S "/claim/cut.py") 529, .int (386) 0, .int (2) 0, .int (0) 0, .int (0) 0, .int (3) 0, .ref 212, .bool true, .int (181) 0, .ref 213, .none, .ref 214, .ref 215, .ref 216, .int (532) 0, .int (386) 0, .str (S "/claim/cut.py") 533], #[]⟩
noncomputable def o_218 (P : Params) : Obj := ⟨.type "function", none, .func (fnD (stAt (clsBody (stAt T 5)) 9) (S "get_grouped_opcodes") (S "SequenceMatcher.get_grouped_opcodes") [] (.ref 211) (.none) (.none) (.str (S "cpy313.difflib") 194) none (.ref 217) (.none) 3 0), #[]⟩
noncomputable def o_219 (P : Params) : Obj := ⟨.type "tuple", none, .seq #[] 0, #[]⟩
noncomputable def o_220 (P : Params) : Obj := ⟨.none, none, .fields #[], #[]⟩
noncomputable def o_221 (P : Params) : Obj := ⟨.type "tuple", none, .seq #[.str (S "self") 538, .str (S "matches") 539] 0, #[]⟩
noncomputable def o_222 (P : Params) : Obj := ⟨.type "tuple", none, .seq #[] 0, #[]⟩
noncomputable def o_223 (P : Params) : Obj := ⟨.none, none, .func (fnD (stAt (clsBody (stAt T 5)) 10) (S "ratio") (S "SequenceMatcher.ratio") [] (.none) (.none) (.none) (.none) none (.none) (.none) 0 0), #[]⟩
noncomputable def o_224 (P : Params) : Obj := ⟨.type "code", none, .fields #[.str (S "ratio") 535, .str (S "SequenceMatcher.ratio") 536, .str (S "/claim/cut.py") 537, .int (389) 0, .int (1) 0, .int (0) 0, .int (0) 0, .int (3) 0, .ref 219, .bool true, .int (181) 0, .ref 220, .none, .ref 221, .ref 222, .ref 223, .int (540) 0, .int (389) 0, .str (S "/claim/cut.py") 541], #[]⟩
noncomputable def o_225 (P : Params) : Obj := ⟨.type "function", none, .func (fnD (stAt (clsBody (stAt T 5)) 10) (S "ratio") (S "SequenceMatcher.ratio") [] (.none) (.none) (.str (docAt (fBody (stAt (clsBody (stAt T 5)) 10))) 542) (.str (S "cpy313.difflib") 194) none (.ref 224) (.none) 3 0), #[]⟩
noncomputable def o_226 (P : Params) : Obj := ⟨.type "tuple", none, .seq #[] 0, #[]⟩
noncomputable def o_227 (P : Params) : Obj := ⟨.none, none, .fields #[], #[]⟩
noncomputable def o_228 (P : Params) : Obj := ⟨.type "tuple", none, .seq #[.str (S "self") 547] 0, #[]⟩
noncomputable def o_229 (P : Params) : Obj := ⟨.type "tuple", none, .seq #[] 0, #[]⟩
noncomputable def o_230 (P : Params) : Obj := ⟨.none, none, .func (fnD (stAt (clsBody (stAt T 5)) 11) (S "quick_ratio") (S "SequenceMatcher.quick_ratio") [] (.none) (.none) (.none) (.none) none (.none) (.none) 0 0), #[]⟩
noncomputable def o_231 (P : Params) : Obj := ⟨.type "code", none, .fields #[.str (S "quick_ratio") 544, .str (S "SequenceMatcher.quick_ratio") 545, .str (S "/claim/cut.py") 546, .int (413) 0, .int (1) 0, .int (0) 0, .int (0) 0, .int (3) 0, .ref 226, .bool true, .int (181) 0, .ref 227, .none, .ref 228, .ref 229, .ref 230, .int (548) 0, .int (413) 0, .str (S "/claim/cut.py") 549], #[]⟩
noncomputable def o_232 (P : Params) : Obj := ⟨.type "function", none, .func (fnD (stAt (clsBody (stAt T 5)) 11) (S "quick_ratio") (S "SequenceMatcher.quick_ratio") [] (.none) (.none) (.none) (.str (S "cpy313.difflib") 194) none (.ref 231) (.none) 3 0), #[]⟩
noncomputable def o_233 (P : Params) : Obj := ⟨.type "tuple", none, .seq #[] 0, #[]⟩
noncomputable def o_234 (P : Params) : Obj := ⟨.none, none, .fields #[], #[]⟩
noncomputable def o_235 (P : Params) : Obj := ⟨.type "tuple", none, .seq #[.str (S "self") 554] 0, #[]⟩
noncomputable def o_236 (P : Params) : Obj := ⟨.type "tuple", none, .seq #[] 0, #[]⟩
noncomputable def o_237 (P : Params) : Obj := ⟨.none, none, .func (fnD (stAt (clsBody (stAt T 5)) 12) (S "real_quick_ratio") (S "SequenceMatcher.real_quick_ratio") [] (.none) (.none) (.none) (.none) none (.none) (.none) 0 0), #[]⟩
noncomputable def o_238 (P : Params) : Obj := ⟨.type "code", none, .fields #[.str (S "real_quick_ratio") 551, .str (S "SequenceMatcher.real_quick_ratio") 552, .str (S "/claim/cut.py") 553, .int (416) 0, .int (1) 0, .int (0) 0, .int (0) 0, .int (3) 0, .ref 233, .bool true, .int (181) 0, .ref 234, .none, .ref 235, .ref 236, .ref 237, .int (555) 0, .int (416) 0, .str (S "/claim/cut.py") 556], #[]⟩
noncomputable def o_239 (P : Params) : Obj := ⟨.type "function", none, .func (fnD (stAt (clsBody (stAt T 5)) 12) (S "real_quick_ratio") (S "SequenceMatcher.real_quick_ratio") [] (.none) (.none) (.none) (.str (S "cpy313.difflib") 194) none (.ref 238) (.none) 3 0), #[]⟩
noncomputable def o_240 (P : Params) : Obj := ⟨.type "tuple", none, .seq #[.str (S "a") 558, .str (S "autojunk") 559, .str (S "b") 560, .str (S "b2j") 561, .str (S "bjunk") 562, .str (S "bpopular") 563, .str (S "fullbcount") 564, .str (S "isjunk") 565, .str (S "matching_blocks") 566, .str (S "opcodes") 567] 0, #[]⟩
noncomputable def o_241 (P : Params) : Obj := ⟨.type "dict", none, .dict #[⟨PyData.keyHash P (S "__module__"), .str (S "__module__") 396, .str (S "cpy313.difflib") 194⟩, ⟨PyData.keyHash P (S "__firstlineno__"), .str (S "__firstlineno__") 400, .int (70) 399⟩, ⟨PyData.keyHash P (S "__doc__"), .str (S "__doc__") 402, .str (docAt (clsBody (stAt T 5))) 401⟩, ⟨PyData.keyHash P (S "__init__"), .str (S "__init__") 417, .ref 160⟩, ⟨PyData.keyHash P (S "set_seqs"), .str (S "set_seqs") 427, .ref 167⟩, ⟨PyData.keyHash P (S "set_seq1"), .str (S "set_seq1") 436, .ref 174⟩, ⟨PyData.keyHash P (S "set_seq2"), .str (S "set_seq2") 445, .ref 181⟩, ⟨PyData.keyHash P (S "_SequenceMatcher__chain_b"), .str (S "_SequenceMatcher__chain_b") 463, .ref 188⟩, ⟨PyData.keyHash P (S "find_longest_match"), .str (S "find_longest_match") 491, .ref 196⟩, ⟨PyData.keyHash P (S "get_matching_blocks"), .str (S "get_matching_blocks") 518, .ref 203⟩, ⟨PyData.keyHash P (S "get_opcodes"), .str (S "get_opcodes") 525, .ref 210⟩, ⟨PyData.keyHash P (S "get_grouped_opcodes"), .str (S "get_grouped_opcodes") 534, .ref 218⟩, ⟨PyData.keyHash P (S "ratio"), .str (S "ratio") 543, .ref 225⟩, ⟨PyData.keyHash P (S "quick_ratio"), .str (S "quick_ratio") 550, .ref 232⟩, ⟨PyData.keyHash P (S "real_quick_ratio"), .str (S "real_quick_ratio") 557, .ref 239⟩, ⟨PyData.keyHash P (S "__static_attributes__"), .str (S "__static_attributes__") 568, .ref 240⟩, ⟨PyData.keyHash P (S "__dict__"), .str (S "__dict__") 570, .ref 243⟩, ⟨PyData.keyHash P (S "__weakref__"), .str (S "__weakref__") 572, .ref 244⟩] 3, #[]⟩
noncomputable def o_242 (P : Params) : Obj := ⟨.type "type", none, .cls { name := S "SequenceMatcher", bases := [.type "object"], mro := [.ref 242, .type "object"], ns := 241, qualname := S "SequenceMatcher", hasDict := true, slotNames := [], subclasses := [], abstract := false, collection := none, hasDel := false }, #[none, none, (some (.str (S "SequenceMatcher") 389)), (some (.str (S "SequenceMatcher") 397)), (some (.builtin "object.__new__")), (some (.bool true))]⟩
noncomputable def o_243 (P : Params) : Obj := ⟨.type "getset_descriptor", none, .fields #[.str (S "__dict__") 569, .ref 242, .builtin "function.__dict__", .builtin "function.__dict__#set"], #[]⟩
noncomputable def o_244 (P : Params) : Obj := ⟨.type "getset_descriptor", none, .fields #[.str (S "__weakref__") 571, .ref 242, .builtin "ExceptionGroup.__weakref__", .none], #[]⟩
noncomputable def o_245 (P : Params) : Obj := ⟨.type "super", none, .fields #[.ref 242, .ref 242, .ref 242], #[]⟩
noncomputable def o_246 (P : Params) : Obj := ⟨.type "builtin_function_or_method", none, .fields #[.builtin "object.__init_subclass__", .ref 242], #[]⟩
noncomputable def o_247 (P : Params) : Obj := ⟨.type "object", none, .plain, #[]⟩
noncomputable def o_248 (P : Params) : Obj := ⟨.type "tuple", none, .seq #[.ref 247] 0, #[]⟩
noncomputable def o_249 (P : Params) : Obj := ⟨.type "tuple", none, .seq #[] 0, #[]⟩
noncomputable def o_250 (P : Params) : Obj := ⟨.none, none, .fields #[], #[]⟩
noncomputable def o_251 (P : Params) : Obj := ⟨.type "tuple", none, .seq #[.str (S "function") 581, .str (S "sequence") 582, .str (S "initial") 583, .str (S "it") 584, .str (S "value") 585, .str (S "element") 586] 0, #[]⟩
noncomputable def o_252 (P : Params) : Obj := ⟨.type "tuple", none, .seq #[] 0, #[]⟩
noncomputable def o_253 (P : Params) : Obj := ⟨.none, none, .func (fnD (stAt T 8) (S "reduce") (S "reduce") [] (.none) (.none) (.none) (.none) none (.none) (.none) 0 0), #[]⟩
noncomputable def o_254 (P : Params) : Obj := ⟨.type "code", none, .fields #[.str (S "reduce") 578, .str (S "reduce") 579, .str (S "/claim/cut.py") 580, .int (420) 0, .int (3) 0, .int (0) 0, .int (0) 0, .int (3) 0, .ref 249, .bool true, .int (181) 0, .ref 250, .none, .ref 251, .ref 252, .ref 253, .int (587) 0, .int (420) 0, .str (S "/claim/cut.py") 588], #[]⟩
noncomputable def o_255 (P : Params) : Obj := ⟨.type "function", none, .func (fnD (stAt T 8) (S "reduce") (S "reduce") [] (.ref 248) (.none) (.str (docAt (fBody (stAt T 8))) 589) (.str (S "cpy313.functools") 575) none (.ref 254) (.none) 3 0), #[]⟩
noncomputable def o_256 (P : Params) : Obj := ⟨.type "tuple", none, .seq #[] 0, #[]⟩
noncomputable def o_257 (P : Params) : Obj := ⟨.none, none, .fields #[], #[]⟩
noncomputable def o_258 (P : Params) : Obj := ⟨.none, none, .func (fnD (stAt T 10) (S "_law_text") (S "_law_text") [] (.none) (.none) (.none) (.none) none (.none) (.none) 0 0), #[]⟩
noncomputable def o_259 (P : Params) : Obj := ⟨.type "code", none, .fields #[.str (S "_law_text") 593, .str (S "_law_text") 594, .str (S "/claim/cut.py") 595, .int (445) 0, .int (1) 0, .int (0) 0, .int (0) 0, .int (3) 0, .ref 256, .bool true, .int (181) 0, .ref 257, .none, .none, .none, .ref 258, .int (596) 0, .int (445) 0, .str (S "/claim/cut.py") 597], #[]⟩
noncomputable def o_260 (P : Params) : Obj := ⟨.type "function", none, .func (fnD (stAt T 10) (S "_law_text") (S "_law_text") [] (.none) (.none) (.none) (.str (S "law_mu0006_06") 591) none (.ref 259) (.none) 3 0), #[]⟩
noncomputable def o_261 (P : Params) : Obj := ⟨.type "tuple", none, .seq #[] 0, #[]⟩
noncomputable def o_262 (P : Params) : Obj := ⟨.none, none, .fields #[], #[]⟩
noncomputable def o_263 (P : Params) : Obj := ⟨.type "tuple", none, .seq #[.str (S "matcher") 602, .str (S "text") 603, .str (S "turned") 604, .str (S "one") 605, .str (S "two") 606, .str (S "size") 607] 0, #[]⟩
noncomputable def o_264 (P : Params) : Obj := ⟨.type "tuple", none, .seq #[] 0, #[]⟩
noncomputable def o_265 (P : Params) : Obj := ⟨.none, none, .func (fnD (stAt T 11) (S "_law_later") (S "_law_later") [] (.none) (.none) (.none) (.none) none (.none) (.none) 0 0), #[]⟩
noncomputable def o_266 (P : Params) : Obj := ⟨.type "code", none, .fields #[.str (S "_law_later") 599, .str (S "_law_later") 600, .str (S "/claim/cut.py") 601, .int (450) 0, .int (5) 0, .int (0) 0, .int (0) 0, .int (3) 0, .ref 261, .bool true, .int (181) 0, .ref 262, .none, .ref 263, .ref 264, .ref 265, .int (608) 0, .int (450) 0, .str (S "/claim/cut.py") 609], #[]⟩
noncomputable def o_267 (P : Params) : Obj := ⟨.type "function", none, .func (fnD (stAt T 11) (S "_law_later") (S "_law_later") [] (.none) (.none) (.none) (.str (S "law_mu0006_06") 591) none (.ref 266) (.none) 3 0), #[]⟩
noncomputable def o_268 (P : Params) : Obj := ⟨.type "tuple", none, .seq #[] 0, #[]⟩
noncomputable def o_269 (P : Params) : Obj := ⟨.none, none, .fields #[], #[]⟩
noncomputable def o_270 (P : Params) : Obj := ⟨.type "tuple", none, .seq #[.str (S "matcher") 614, .str (S "text") 615, .str (S "turned") 616, .str (S "places") 617] 0, #[]⟩
noncomputable def o_271 (P : Params) : Obj := ⟨.type "tuple", none, .seq #[.str (S "matcher") 618, .str (S "text") 619, .str (S "turned") 620] 0, #[]⟩
noncomputable def o_272 (P : Params) : Obj := ⟨.none, none, .func (fnD (stAt T 12) (S "_law_cut") (S "_law_cut") [] (.none) (.none) (.none) (.none) none (.none) (.none) 0 0), #[]⟩
noncomputable def o_273 (P : Params) : Obj := ⟨.type "code", none, .fields #[.str (S "_law_cut") 611, .str (S "_law_cut") 612, .str (S "/claim/cut.py") 613, .int (457) 0, .int (3) 0, .int (0) 0, .int (0) 0, .int (3) 0, .ref 268, .bool true, .int (181) 0, .ref 269, .none, .ref 270, .ref 271, .ref 272, .int (621) 0, .int (457) 0, .str (S "/claim/cut.py") 622], #[]⟩
noncomputable def o_274 (P : Params) : Obj := ⟨.type "function", none, .func (fnD (stAt T 12) (S "_law_cut") (S "_law_cut") [] (.none) (.none) (.none) (.str (S "law_mu0006_06") 591) none (.ref 273) (.none) 3 0), #[]⟩
noncomputable def o_275 (P : Params) : Obj := ⟨.type "tuple", none, .seq #[] 0, #[]⟩
noncomputable def o_276 (P : Params) : Obj := ⟨.none, none, .fields #[], #[]⟩
noncomputable def o_277 (P : Params) : Obj := ⟨.none, none, .func (fnD (stAt T 13) (S "_law_about") (S "_law_about") [] (.none) (.none) (.none) (.none) none (.none) (.none) 0 0), #[]⟩
noncomputable def o_278 (P : Params) : Obj := ⟨.type "code", none, .fields #[.str (S "_law_about") 624, .str (S "_law_about") 625, .str (S "/claim/cut.py") 626, .int (460) 0, .int (2) 0, .int (0) 0, .int (0) 0, .int (3) 0, .ref 275, .bool true, .int (181) 0, .ref 276, .none, .none, .none, .ref 277, .int (627) 0, .int (460) 0, .str (S "/claim/cut.py") 628], #[]⟩
noncomputable def o_279 (P : Params) : Obj := ⟨.type "function", none, .func (fnD (stAt T 13) (S "_law_about") (S "_law_about") [] (.none) (.none) (.none) (.str (S "law_mu0006_06") 591) none (.ref 278) (.none) 3 0), #[]⟩
noncomputable def o_280 (P : Params) : Obj := ⟨.type "tuple", none, .seq #[] 0, #[]⟩
noncomputable def o_281 (P : Params) : Obj := ⟨.none, none, .fields #[], #[]⟩
noncomputable def o_282 (P : Params) : Obj := ⟨.none, none, .func (fnD (stAt T 14) (S "law") (S "law") [] (.none) (.none) (.none) (.none) none (.none) (.none) 0 0), #[]⟩
noncomputable def o_283 (P : Params) : Obj := ⟨.type "code", none, .fields #[.str (S "law") 630, .str (S "law") 631, .str (S "/claim/cut.py") 632, .int (465) 0, .int (1) 0, .int (0) 0, .int (0) 0, .int (3) 0, .ref 280, .bool true, .int (181) 0, .ref 281, .none, .none, .none, .ref 282, .int (633) 0, .int (465) 0, .str (S "/claim/cut.py") 634], #[]⟩
noncomputable def o_284 (P : Params) : Obj := ⟨.type "function", none, .func (fnD (stAt T 14) (S "law") (S "law") [] (.none) (.none) (.none) (.str (S "law_mu0006_06") 591) none (.ref 283) (.none) 3 0), #[]⟩
noncomputable def treeZ_0 (P : Params) : BT := (.node (o_15 P) (.node (o_31 P) (.node (o_63 P) (.node (o_127 P) (.node (o_255 P) .nil .nil) .nil) (.node (o_191 P) .nil .nil)) (.node (o_95 P) (.node (o_159 P) .nil .nil) (.node (o_223 P) .nil .nil))) (.node (o_47 P) (.node (o_79 P) (.node (o_143 P) (.node (o_271 P) .nil .nil) .nil) (.node (o_207 P) .nil .nil)) (.node (o_111 P) (.node (o_175 P) .nil .nil) (.node (o_239 P) .nil .nil))))
noncomputable def treeZ_1 (P : Params) : BT := (.node (o_23 P) (.node (o_39 P) (.node (o_71 P) (.node (o_135 P) (.node (o_263 P) .nil .nil) .nil) (.node (o_199 P) .nil .nil)) (.node (o_103 P) (.node (o_167 P) .nil .nil) (.node (o_231 P) .nil .nil))) (.node (o_55 P) (.node (o_87 P) (.node (o_151 P) (.node (o_279 P) .nil .nil) .nil) (.node (o_215 P) .nil .nil)) (.node (o_119 P) (.node (o_183 P) .nil .nil) (.node (o_247 P) .nil .nil))))
noncomputable def treeZ_2 (P : Params) : BT := (.node (o_19 P) (.node (o_35 P) (.node (o_67 P) (.node (o_131 P) (.node (o_259 P) .nil .nil) .nil) (.node (o_195 P) .nil .nil)) (.node (o_99 P) (.node (o_163 P) .nil .nil) (.node (o_227 P) .nil .nil))) (.node (o_51 P) (.node (o_83 P) (.node (o_147 P) (.node (o_275 P) .nil .nil) .nil) (.node (o_211 P) .nil .nil)) (.node (o_115 P) (.node (o_179 P) .nil .nil) (.node (o_243 P) .nil .nil))))
noncomputable def treeZ_3 (P : Params) : BT := (.node (o_27 P) (.node (o_43 P) (.node (o_75 P) (.node (o_139 P) (.node (o_267 P) .nil .nil) .nil) (.node (o_203 P) .nil .nil)) (.node (o_107 P) (.node (o_171 P) .nil .nil) (.node (o_235 P) .nil .nil))) (.node (o_59 P) (.node (o_91 P) (.node (o_155 P) (.node (o_283 P) .nil .nil) .nil) (.node (o_219 P) .nil .nil)) (.node (o_123 P) (.node (o_187 P) .nil .nil) (.node (o_251 P) .nil .nil))))
noncomputable def treeZ_4 (P : Params) : BT := (.node (o_17 P) (.node (o_33 P) (.node (o_65 P) (.node (o_129 P) (.node (o_257 P) .nil .nil) .nil) (.node (o_193 P) .nil .nil)) (.node (o_97 P) (.node (o_161 P) .nil .nil) (.node (o_225 P) .nil .nil))) (.node (o_49 P) (.node (o_81 P) (.node (o_145 P) (.node (o_273 P) .nil .nil) .nil) (.node (o_209 P) .nil .nil)) (.node (o_113 P) (.node (o_177 P) .nil .nil) (.node (o_241 P) .nil .nil))))
noncomputable def treeZ_5 (P : Params) : BT := (.node (o_25 P) (.node (o_41 P) (.node (o_73 P) (.node (o_137 P) (.node (o_265 P) .nil .nil) .nil) (.node (o_201 P) .nil .nil)) (.node (o_105 P) (.node (o_169 P) .nil .nil) (.node (o_233 P) .nil .nil))) (.node (o_57 P) (.node (o_89 P) (.node (o_153 P) (.node (o_281 P) .nil .nil) .nil) (.node (o_217 P) .nil .nil)) (.node (o_121 P) (.node (o_185 P) .nil .nil) (.node (o_249 P) .nil .nil))))
noncomputable def treeZ_6 (P : Params) : BT := (.node (o_21 P) (.node (o_37 P) (.node (o_69 P) (.node (o_133 P) (.node (o_261 P) .nil .nil) .nil) (.node (o_197 P) .nil .nil)) (.node (o_101 P) (.node (o_165 P) .nil .nil) (.node (o_229 P) .nil .nil))) (.node (o_53 P) (.node (o_85 P) (.node (o_149 P) (.node (o_277 P) .nil .nil) .nil) (.node (o_213 P) .nil .nil)) (.node (o_117 P) (.node (o_181 P) .nil .nil) (.node (o_245 P) .nil .nil))))
noncomputable def treeZ_7 (P : Params) : BT := (.node (o_29 P) (.node (o_45 P) (.node (o_77 P) (.node (o_141 P) (.node (o_269 P) .nil .nil) .nil) (.node (o_205 P) .nil .nil)) (.node (o_109 P) (.node (o_173 P) .nil .nil) (.node (o_237 P) .nil .nil))) (.node (o_61 P) (.node (o_93 P) (.node (o_157 P) .nil .nil) (.node (o_221 P) .nil .nil)) (.node (o_125 P) (.node (o_189 P) .nil .nil) (.node (o_253 P) .nil .nil))))
noncomputable def treeZ_8 (P : Params) : BT := (.node (PySem.W.boot_o_1 P) (.node (o_3 P) (.node (PySem.W.boot_o_7 P) (treeZ_0 P) (treeZ_1 P)) (.node (a_11 P) (treeZ_2 P) (treeZ_3 P))) (.node (PySem.W.boot_o_5 P) (.node (PySem.W.boot_o_9 P) (treeZ_4 P) (treeZ_5 P)) (.node (a_13 P) (treeZ_6 P) (treeZ_7 P))))
noncomputable def treeZ_9 (P : Params) : BT := (.node (o_16 P) (.node (o_32 P) (.node (o_64 P) (.node (o_128 P) (.node (o_256 P) .nil .nil) .nil) (.node (o_192 P) .nil .nil)) (.node (o_96 P) (.node (o_160 P) .nil .nil) (.node (o_224 P) .nil .nil))) (.node (o_48 P) (.node (o_80 P) (.node (o_144 P) (.node (o_272 P) .nil .nil) .nil) (.node (o_208 P) .nil .nil)) (.node (o_112 P) (.node (o_176 P) .nil .nil) (.node (o_240 P) .nil .nil))))
noncomputable def treeZ_10 (P : Params) : BT := (.node (o_24 P) (.node (o_40 P) (.node (o_72 P) (.node (o_136 P) (.node (o_264 P) .nil .nil) .nil) (.node (o_200 P) .nil .nil)) (.node (o_104 P) (.node (o_168 P) .nil .nil) (.node (o_232 P) .nil .nil))) (.node (o_56 P) (.node (o_88 P) (.node (o_152 P) (.node (o_280 P) .nil .nil) .nil) (.node (o_216 P) .nil .nil)) (.node (o_120 P) (.node (o_184 P) .nil .nil) (.node (o_248 P) .nil .nil))))
noncomputable def treeZ_11 (P : Params) : BT := (.node (o_20 P) (.node (o_36 P) (.node (o_68 P) (.node (o_132 P) (.node (o_260 P) .nil .nil) .nil) (.node (o_196 P) .nil .nil)) (.node (o_100 P) (.node (o_164 P) .nil .nil) (.node (o_228 P) .nil .nil))) (.node (o_52 P) (.node (o_84 P) (.node (o_148 P) (.node (o_276 P) .nil .nil) .nil) (.node (o_212 P) .nil .nil)) (.node (o_116 P) (.node (o_180 P) .nil .nil) (.node (o_244 P) .nil .nil))))
noncomputable def treeZ_12 (P : Params) : BT := (.node (o_28 P) (.node (o_44 P) (.node (o_76 P) (.node (o_140 P) (.node (o_268 P) .nil .nil) .nil) (.node (o_204 P) .nil .nil)) (.node (o_108 P) (.node (o_172 P) .nil .nil) (.node (o_236 P) .nil .nil))) (.node (o_60 P) (.node (o_92 P) (.node (o_156 P) (.node (o_284 P) .nil .nil) .nil) (.node (o_220 P) .nil .nil)) (.node (o_124 P) (.node (o_188 P) .nil .nil) (.node (o_252 P) .nil .nil))))
noncomputable def treeZ_13 (P : Params) : BT := (.node (o_18 P) (.node (o_34 P) (.node (o_66 P) (.node (o_130 P) (.node (o_258 P) .nil .nil) .nil) (.node (o_194 P) .nil .nil)) (.node (o_98 P) (.node (o_162 P) .nil .nil) (.node (o_226 P) .nil .nil))) (.node (o_50 P) (.node (o_82 P) (.node (o_146 P) (.node (o_274 P) .nil .nil) .nil) (.node (o_210 P) .nil .nil)) (.node (o_114 P) (.node (o_178 P) .nil .nil) (.node (o_242 P) .nil .nil))))
noncomputable def treeZ_14 (P : Params) : BT := (.node (o_26 P) (.node (o_42 P) (.node (o_74 P) (.node (o_138 P) (.node (o_266 P) .nil .nil) .nil) (.node (o_202 P) .nil .nil)) (.node (o_106 P) (.node (o_170 P) .nil .nil) (.node (o_234 P) .nil .nil))) (.node (o_58 P) (.node (o_90 P) (.node (o_154 P) (.node (o_282 P) .nil .nil) .nil) (.node (o_218 P) .nil .nil)) (.node (o_122 P) (.node (o_186 P) .nil .nil) (.node (o_250 P) .nil .nil))))
noncomputable def treeZ_15 (P : Params) : BT := (.node (o_22 P) (.node (o_38 P) (.node (o_70 P) (.node (o_134 P) (.node (o_262 P) .nil .nil) .nil) (.node (o_198 P) .nil .nil)) (.node (o_102 P) (.node (o_166 P) .nil .nil) (.node (o_230 P) .nil .nil))) (.node (o_54 P) (.node (o_86 P) (.node (o_150 P) (.node (o_278 P) .nil .nil) .nil) (.node (o_214 P) .nil .nil)) (.node (o_118 P) (.node (o_182 P) .nil .nil) (.node (o_246 P) .nil .nil))))
noncomputable def treeZ_16 (P : Params) : BT := (.node (o_30 P) (.node (o_46 P) (.node (o_78 P) (.node (o_142 P) (.node (o_270 P) .nil .nil) .nil) (.node (o_206 P) .nil .nil)) (.node (o_110 P) (.node (o_174 P) .nil .nil) (.node (o_238 P) .nil .nil))) (.node (o_62 P) (.node (o_94 P) (.node (o_158 P) .nil .nil) (.node (o_222 P) .nil .nil)) (.node (o_126 P) (.node (o_190 P) .nil .nil) (.node (o_254 P) .nil .nil))))
noncomputable def treeZ_17 (P : Params) : BT := (.node (PySem.W.boot_o_2 P) (.node (PySem.W.boot_o_4 P) (.node (PySem.W.boot_o_8 P) (treeZ_9 P) (treeZ_10 P)) (.node (o_12 P) (treeZ_11 P) (treeZ_12 P))) (.node (PySem.W.boot_o_6 P) (.node (PySem.W.boot_o_10 P) (treeZ_13 P) (treeZ_14 P)) (.node (a_14 P) (treeZ_15 P) (treeZ_16 P))))
noncomputable def treeZ (P : Params) : BT := (.node (PySem.W.boot_o_0 P) (treeZ_8 P) (treeZ_17 P))
noncomputable def heapZ_18 (P : Params) : List Obj := []
noncomputable def heapZ_17 (P : Params) : List Obj := o_272 P :: o_273 P :: o_274 P :: o_275 P :: o_276 P :: o_277 P :: o_278 P :: o_279 P :: o_280 P :: o_281 P :: o_282 P :: o_283 P :: o_284 P :: heapZ_18 P
noncomputable def heapZ_16 (P : Params) : List Obj := o_256 P :: o_257 P :: o_258 P :: o_259 P :: o_260 P :: o_261 P :: o_262 P :: o_263 P :: o_264 P :: o_265 P :: o_266 P :: o_267 P :: o_268 P :: o_269 P :: o_270 P :: o_271 P :: heapZ_17 P
noncomputable def heapZ_15 (P : Params) : List Obj := o_240 P :: o_241 P :: o_242 P :: o_243 P :: o_244 P :: o_245 P :: o_246 P :: o_247 P :: o_248 P :: o_249 P :: o_250 P :: o_251 P :: o_252 P :: o_253 P :: o_254 P :: o_255 P :: heapZ_16 P
noncomputable def heapZ_14 (P : Params) : List Obj := o_224 P :: o_225 P :: o_226 P :: o_227 P :: o_228 P :: o_229 P :: o_230 P :: o_231 P :: o_232 P :: o_233 P :: o_234 P :: o_235 P :: o_236 P :: o_237 P :: o_238 P :: o_239 P :: heapZ_15 P
noncomputable def heapZ_13 (P : Params) : List Obj := o_208 P :: o_209 P :: o_210 P :: o_211 P :: o_212 P :: o_213 P :: o_214 P :: o_215 P :: o_216 P :: o_217 P :: o_218 P :: o_219 P :: o_220 P :: o_221 P :: o_222 P :: o_223 P :: heapZ_14 P
noncomputable def heapZ_12 (P : Params) : List Obj := o_192 P :: o_193 P :: o_194 P :: o_195 P :: o_196 P :: o_197 P :: o_198 P :: o_199 P :: o_200 P :: o_201 P :: o_202 P :: o_203 P :: o_204 P :: o_205 P :: o_206 P :: o_207 P :: heapZ_13 P
noncomputable def heapZ_11 (P : Params) : List Obj := o_176 P :: o_177 P :: o_178 P :: o_179 P :: o_180 P :: o_181 P :: o_182 P :: o_183 P :: o_184 P :: o_185 P :: o_186 P :: o_187 P :: o_188 P :: o_189 P :: o_190 P :: o_191 P :: heapZ_12 P
noncomputable def heapZ_10 (P : Params) : List Obj := o_160 P :: o_161 P :: o_162 P :: o_163 P :: o_164 P :: o_165 P :: o_166 P :: o_167 P :: o_168 P :: o_169 P :: o_170 P :: o_171 P :: o_172 P :: o_173 P :: o_174 P :: o_175 P :: heapZ_11 P
noncomputable def heapZ_9 (P : Params) : List Obj := o_144 P :: o_145 P :: o_146 P :: o_147 P :: o_148 P :: o_149 P :: o_150 P :: o_151 P :: o_152 P :: o_153 P :: o_154 P :: o_155 P :: o_156 P :: o_157 P :: o_158 P :: o_159 P :: heapZ_10 P
noncomputable def heapZ_8 (P : Params) : List Obj := o_128 P :: o_129 P :: o_130 P :: o_131 P :: o_132 P :: o_133 P :: o_134 P :: o_135 P :: o_136 P :: o_137 P :: o_138 P :: o_139 P :: o_140 P :: o_141 P :: o_142 P :: o_143 P :: heapZ_9 P
noncomputable def heapZ_7 (P : Params) : List Obj := o_112 P :: o_113 P :: o_114 P :: o_115 P :: o_116 P :: o_117 P :: o_118 P :: o_119 P :: o_120 P :: o_121 P :: o_122 P :: o_123 P :: o_124 P :: o_125 P :: o_126 P :: o_127 P :: heapZ_8 P
noncomputable def heapZ_6 (P : Params) : List Obj := o_96 P :: o_97 P :: o_98 P :: o_99 P :: o_100 P :: o_101 P :: o_102 P :: o_103 P :: o_104 P :: o_105 P :: o_106 P :: o_107 P :: o_108 P :: o_109 P :: o_110 P :: o_111 P :: heapZ_7 P
noncomputable def heapZ_5 (P : Params) : List Obj := o_80 P :: o_81 P :: o_82 P :: o_83 P :: o_84 P :: o_85 P :: o_86 P :: o_87 P :: o_88 P :: o_89 P :: o_90 P :: o_91 P :: o_92 P :: o_93 P :: o_94 P :: o_95 P :: heapZ_6 P
noncomputable def heapZ_4 (P : Params) : List Obj := o_64 P :: o_65 P :: o_66 P :: o_67 P :: o_68 P :: o_69 P :: o_70 P :: o_71 P :: o_72 P :: o_73 P :: o_74 P :: o_75 P :: o_76 P :: o_77 P :: o_78 P :: o_79 P :: heapZ_5 P
noncomputable def heapZ_3 (P : Params) : List Obj := o_48 P :: o_49 P :: o_50 P :: o_51 P :: o_52 P :: o_53 P :: o_54 P :: o_55 P :: o_56 P :: o_57 P :: o_58 P :: o_59 P :: o_60 P :: o_61 P :: o_62 P :: o_63 P :: heapZ_4 P
noncomputable def heapZ_2 (P : Params) : List Obj := o_32 P :: o_33 P :: o_34 P :: o_35 P :: o_36 P :: o_37 P :: o_38 P :: o_39 P :: o_40 P :: o_41 P :: o_42 P :: o_43 P :: o_44 P :: o_45 P :: o_46 P :: o_47 P :: heapZ_3 P
noncomputable def heapZ_1 (P : Params) : List Obj := o_16 P :: o_17 P :: o_18 P :: o_19 P :: o_20 P :: o_21 P :: o_22 P :: o_23 P :: o_24 P :: o_25 P :: o_26 P :: o_27 P :: o_28 P :: o_29 P :: o_30 P :: o_31 P :: heapZ_2 P
noncomputable def heapZ_0 (P : Params) : List Obj := PySem.W.boot_o_0 P :: PySem.W.boot_o_1 P :: PySem.W.boot_o_2 P :: o_3 P :: PySem.W.boot_o_4 P :: PySem.W.boot_o_5 P :: PySem.W.boot_o_6 P :: PySem.W.boot_o_7 P :: PySem.W.boot_o_8 P :: PySem.W.boot_o_9 P :: PySem.W.boot_o_10 P :: a_11 P :: o_12 P :: a_13 P :: a_14 P :: o_15 P :: heapZ_1 P
noncomputable def heapZ (P : Params) : Heap := ⟨⟨heapZ_0 P⟩, {}⟩
noncomputable def K (P : Params) : Frag := [(nat_lit 0, PySem.W.boot_o_0 P), (nat_lit 1, PySem.W.boot_o_1 P), (nat_lit 2, PySem.W.boot_o_2 P), (nat_lit 3, o_3 P), (nat_lit 4, PySem.W.boot_o_4 P), (nat_lit 5, PySem.W.boot_o_5 P), (nat_lit 6, PySem.W.boot_o_6 P), (nat_lit 7, PySem.W.boot_o_7 P), (nat_lit 9, PySem.W.boot_o_9 P), (nat_lit 10, PySem.W.boot_o_10 P), (nat_lit 11, a_11 P), (nat_lit 13, a_13 P), (nat_lit 14, a_14 P), (nat_lit 15, o_15 P), (nat_lit 17, o_17 P), (nat_lit 18, o_18 P), (nat_lit 19, o_19 P), (nat_lit 20, o_20 P), (nat_lit 21, o_21 P), (nat_lit 22, o_22 P), (nat_lit 23, o_23 P), (nat_lit 24, o_24 P), (nat_lit 25, o_25 P), (nat_lit 27, o_27 P), (nat_lit 28, o_28 P), (nat_lit 29, o_29 P), (nat_lit 31, o_31 P), (nat_lit 32, o_32 P), (nat_lit 33, o_33 P), (nat_lit 34, o_34 P), (nat_lit 35, o_35 P), (nat_lit 36, o_36 P), (nat_lit 37, o_37 P), (nat_lit 39, o_39 P), (nat_lit 40, o_40 P), (nat_lit 41, o_41 P), (nat_lit 42, o_42 P), (nat_lit 43, o_43 P), (nat_lit 44, o_44 P), (nat_lit 46, o_46 P), (nat_lit 47, o_47 P), (nat_lit 48, o_48 P), (nat_lit 49, o_49 P), (nat_lit 50, o_50 P), (nat_lit 51, o_51 P), (nat_lit 53, o_53 P), (nat_lit 54, o_54 P), (nat_lit 55, o_55 P), (nat_lit 56, o_56 P), (nat_lit 57, o_57 P), (nat_lit 58, o_58 P), (nat_lit 59, o_59 P), (nat_lit 60, o_60 P), (nat_lit 61, o_61 P), (nat_lit 62, o_62 P), (nat_lit 63, o_63 P), (nat_lit 64, o_64 P), (nat_lit 65, o_65 P), (nat_lit 66, o_66 P), (nat_lit 67, o_67 P), (nat_lit 68, o_68 P), (nat_lit 69, o_69 P), (nat_lit 71, o_71 P), (nat_lit 72, o_72 P), (nat_lit 73, o_73 P), (nat_lit 74, o_74 P), (nat_lit 75, o_75 P), (nat_lit 76, o_76 P), (nat_lit 78, o_78 P), (nat_lit 79, o_79 P), (nat_lit 80, o_80 P), (nat_lit 81, o_81 P), (nat_lit 82, o_82 P), (nat_lit 83, o_83 P), (nat_lit 85, o_85 P), (nat_lit 86, o_86 P), (nat_lit 87, o_87 P), (nat_lit 88, o_88 P), (nat_lit 89, o_89 P), (nat_lit 90, o_90 P), (nat_lit 91, o_91 P), (nat_lit 92, o_92 P), (nat_lit 93, o_93 P), (nat_lit 94, o_94 P), (nat_lit 96, o_96 P), (nat_lit 97, o_97 P), (nat_lit 98, o_98 P), (nat_lit 99, o_99 P), (nat_lit 100, o_100 P), (nat_lit 101, o_101 P), (nat_lit 103, o_103 P), (nat_lit 104, o_104 P), (nat_lit 105, o_105 P), (nat_lit 106, o_106 P), (nat_lit 107, o_107 P), (nat_lit 108, o_108 P), (nat_lit 110, o_110 P), (nat_lit 111, o_111 P), (nat_lit 112, o_112 P), (nat_lit 113, o_113 P), (nat_lit 114, o_114 P), (nat_lit 115, o_115 P), (nat_lit 117, o_117 P), (nat_lit 118, o_118 P), (nat_lit 119, o_119 P), (nat_lit 120, o_120 P), (nat_lit 121, o_121 P), (nat_lit 122, o_122 P), (nat_lit 123, o_123 P), (nat_lit 124, o_124 P), (nat_lit 125, o_125 P), (nat_lit 126, o_126 P), (nat_lit 127, o_127 P), (nat_lit 128, o_128 P), (nat_lit 129, o_129 P), (nat_lit 130, o_130 P), (nat_lit 131, o_131 P), (nat_lit 132, o_132 P), (nat_lit 133, o_133 P), (nat_lit 134, o_134 P), (nat_lit 135, o_135 P), (nat_lit 136, o_136 P), (nat_lit 137, o_137 P), (nat_lit 138, o_138 P), (nat_lit 139, o_139 P), (nat_lit 141, o_141 P), (nat_lit 142, o_142 P), (nat_lit 143, o_143 P), (nat_lit 144, o_144 P), (nat_lit 145, o_145 P), (nat_lit 146, o_146 P), (nat_lit 147, o_147 P), (nat_lit 148, o_148 P), (nat_lit 149, o_149 P), (nat_lit 151, o_151 P), (nat_lit 152, o_152 P), (nat_lit 153, o_153 P), (nat_lit 154, o_154 P), (nat_lit 156, o_156 P), (nat_lit 157, o_157 P), (nat_lit 158, o_158 P), (nat_lit 159, o_159 P), (nat_lit 160, o_160 P), (nat_lit 161, o_161 P), (nat_lit 163, o_163 P), (nat_lit 164, o_164 P), (nat_lit 165, o_165 P), (nat_lit 166, o_166 P), (nat_lit 167, o_167 P), (nat_lit 168, o_168 P), (nat_lit 170, o_170 P), (nat_lit 171, o_171 P), (nat_lit 172, o_172 P), (nat_lit 173, o_173 P), (nat_lit 174, o_174 P), (nat_lit 175, o_175 P), (nat_lit 177, o_177 P), (nat_lit 178, o_178 P), (nat_lit 179, o_179 P), (nat_lit 180, o_180 P), (nat_lit 181, o_181 P), (nat_lit 182, o_182 P), (nat_lit 184, o_184 P), (nat_lit 185, o_185 P), (nat_lit 186, o_186 P), (nat_lit 187, o_187 P), (nat_lit 188, o_188 P), (nat_lit 189, o_189 P), (nat_lit 190, o_190 P), (nat_lit 192, o_192 P), (nat_lit 193, o_193 P), (nat_lit 194, o_194 P), (nat_lit 195, o_195 P), (nat_lit 196, o_196 P), (nat_lit 197, o_197 P), (nat_lit 199, o_199 P), (nat_lit 200, o_200 P), (nat_lit 201, o_201 P), (nat_lit 202, o_202 P), (nat_lit 203, o_203 P), (nat_lit 204, o_204 P), (nat_lit 206, o_206 P), (nat_lit 207, o_207 P), (nat_lit 208, o_208 P), (nat_lit 209, o_209 P), (nat_lit 210, o_210 P), (nat_lit 211, o_211 P), (nat_lit 212, o_212 P), (nat_lit 214, o_214 P), (nat_lit 215, o_215 P), (nat_lit 216, o_216 P), (nat_lit 217, o_217 P), (nat_lit 218, o_218 P), (nat_lit 219, o_219 P), (nat_lit 221, o_221 P), (nat_lit 222, o_222 P), (nat_lit 223, o_223 P), (nat_lit 224, o_224 P), (nat_lit 225, o_225 P), (nat_lit 226, o_226 P), (nat_lit 228, o_228 P), (nat_lit 229, o_229 P), (nat_lit 230, o_230 P), (nat_lit 231, o_231 P), (nat_lit 232, o_232 P), (nat_lit 233, o_233 P), (nat_lit 235, o_235 P), (nat_lit 236, o_236 P), (nat_lit 237, o_237 P), (nat_lit 238, o_238 P), (nat_lit 239, o_239 P), (nat_lit 240, o_240 P), (nat_lit 241, o_241 P), (nat_lit 242, o_242 P), (nat_lit 243, o_243 P), (nat_lit 244, o_244 P), (nat_lit 245, o_245 P), (nat_lit 246, o_246 P), (nat_lit 247, o_247 P), (nat_lit 248, o_248 P), (nat_lit 249, o_249 P), (nat_lit 251, o_251 P), (nat_lit 252, o_252 P), (nat_lit 253, o_253 P), (nat_lit 254, o_254 P), (nat_lit 255, o_255 P), (nat_lit 256, o_256 P), (nat_lit 258, o_258 P), (nat_lit 259, o_259 P), (nat_lit 260, o_260 P), (nat_lit 261, o_261 P), (nat_lit 263, o_263 P), (nat_lit 264, o_264 P), (nat_lit 265, o_265 P), (nat_lit 266, o_266 P), (nat_lit 267, o_267 P), (nat_lit 268, o_268 P), (nat_lit 270, o_270 P), (nat_lit 271, o_271 P), (nat_lit 272, o_272 P), (nat_lit 273, o_273 P), (nat_lit 274, o_274 P), (nat_lit 275, o_275 P), (nat_lit 277, o_277 P), (nat_lit 278, o_278 P), (nat_lit 279, o_279 P), (nat_lit 280, o_280 P), (nat_lit 282, o_282 P), (nat_lit 283, o_283 P), (nat_lit 284, o_284 P)]
noncomputable def envM : Env := { scope := PySem.Challenge.pw_mu0006_06.main.scope, locals := mainNs, globals := mainNs, cells := [], code := .ref 13, frame := some 14 }
noncomputable def bM : List Stmt := behindTheImports PySem.Challenge.pw_mu0006_06
noncomputable def cM : Code := .body bM envM
noncomputable def fB : List Frame := [topFrame ⟨0, 0, 0, 0⟩]
noncomputable def sA (w : World) (os : OsState) : SharedT := ⟨treeA w.params, 15, {}, ⟨[]⟩, {}, 187, os⟩
noncomputable def hA (w : World) (os : OsState) : Shared := ⟨heapA w.params, ⟨[]⟩, {}, 187, os⟩
noncomputable def sZ (w : World) (os : OsState) : SharedT := ⟨treeZ w.params, 285, {}, ⟨[]⟩, {}, 636, os⟩
noncomputable def hZ (w : World) (os : OsState) : Shared := ⟨heapZ w.params, ⟨[]⟩, {}, 636, os⟩
noncomputable def h0 (w : World) (os : OsState) : Shared := ⟨boot_heap w.params, ⟨[]⟩, boot_drawn, boot_toks, os⟩
noncomputable def preL (w : World) (os : OsState) := topGo tbl PySem.Challenge.pw_mu0006_06 w 11 (some (.ref 6)) 12 (h0 w os) (topStub PySem.Challenge.pw_mu0006_06)
noncomputable def preR (w : World) (os : OsState) : Option (Shared × Thread) := some (hA w os, ⟨denote tbl cM, cM, ⟨0, 0, 0, 0⟩, fB⟩)
noncomputable def blkL (w : World) (os : OsState) := segRun tbl PySem.Challenge.pw_mu0006_06 w 11 (some (.ref 6)) 1 1 (hA w os) (blockOf bM envM cM ⟨0, 0, 0, 0⟩ fB)
noncomputable def blkR (w : World) (os : OsState) : Option (Flow × Shared × Code × Pos) := some (.next, (sA w os).abs, cM, ⟨0, 0, 0, 0⟩)
noncomputable def segL (w : World) (os : OsState) := segRunT tbl PySem.Challenge.pw_mu0006_06 w 11 (some (.ref 6)) 1 2315 (sA w os) (piecesOf bM envM cM ⟨0, 0, 0, 0⟩ fB)
noncomputable def segR (w : World) (os : OsState) : Option (Flow × SharedT × Code × Pos) := some (.next, sZ w os, cM, ⟨465, 0, 484, 59⟩)
noncomputable def finL (w : World) (os : OsState) := topRun tbl PySem.Challenge.pw_mu0006_06 w 11 (some (.ref 6)) 2 (sZ w os).abs (restOf [] envM cM ⟨465, 0, 484, 59⟩ fB)
noncomputable def finR (w : World) (os : OsState) : Option Shared := some (hZ w os)
noncomputable def o_148' (d : PySem.Str) (P : Params) : Obj := ⟨.type "dict", none, .dict #[⟨PyData.keyHash P (S "__module__"), .str (S "__module__") 396, .str (S "cpy313.difflib") 194⟩, ⟨PyData.keyHash P (S "__qualname__"), .str (S "__qualname__") 398, .str (S "SequenceMatcher") 397⟩, ⟨PyData.keyHash P (S "__firstlineno__"), .str (S "__firstlineno__") 400, .int (70) 399⟩, ⟨PyData.keyHash P (S "__doc__"), .str (S "__doc__") 402, .str d 401⟩, ⟨PyData.keyHash P (S "__init__"), .str (S "__init__") 417, .ref 160⟩, ⟨PyData.keyHash P (S "set_seqs"), .str (S "set_seqs") 427, .ref 167⟩, ⟨PyData.keyHash P (S "set_seq1"), .str (S "set_seq1") 436, .ref 174⟩, ⟨PyData.keyHash P (S "set_seq2"), .str (S "set_seq2") 445, .ref 181⟩, ⟨PyData.keyHash P (S "_SequenceMatcher__chain_b"), .str (S "_SequenceMatcher__chain_b") 463, .ref 188⟩, ⟨PyData.keyHash P (S "find_longest_match"), .str (S "find_longest_match") 491, .ref 196⟩, ⟨PyData.keyHash P (S "get_matching_blocks"), .str (S "get_matching_blocks") 518, .ref 203⟩, ⟨PyData.keyHash P (S "get_opcodes"), .str (S "get_opcodes") 525, .ref 210⟩, ⟨PyData.keyHash P (S "get_grouped_opcodes"), .str (S "get_grouped_opcodes") 534, .ref 218⟩, ⟨PyData.keyHash P (S "ratio"), .str (S "ratio") 543, .ref 225⟩, ⟨PyData.keyHash P (S "quick_ratio"), .str (S "quick_ratio") 550, .ref 232⟩, ⟨PyData.keyHash P (S "real_quick_ratio"), .str (S "real_quick_ratio") 557, .ref 239⟩, ⟨PyData.keyHash P (S "__static_attributes__"), .str (S "__static_attributes__") 568, .ref 240⟩] 17, #[]⟩
noncomputable def o_241' (d : PySem.Str) (P : Params) : Obj := ⟨.type "dict", none, .dict #[⟨PyData.keyHash P (S "__module__"), .str (S "__module__") 396, .str (S "cpy313.difflib") 194⟩, ⟨PyData.keyHash P (S "__firstlineno__"), .str (S "__firstlineno__") 400, .int (70) 399⟩, ⟨PyData.keyHash P (S "__doc__"), .str (S "__doc__") 402, .str d 401⟩, ⟨PyData.keyHash P (S "__init__"), .str (S "__init__") 417, .ref 160⟩, ⟨PyData.keyHash P (S "set_seqs"), .str (S "set_seqs") 427, .ref 167⟩, ⟨PyData.keyHash P (S "set_seq1"), .str (S "set_seq1") 436, .ref 174⟩, ⟨PyData.keyHash P (S "set_seq2"), .str (S "set_seq2") 445, .ref 181⟩, ⟨PyData.keyHash P (S "_SequenceMatcher__chain_b"), .str (S "_SequenceMatcher__chain_b") 463, .ref 188⟩, ⟨PyData.keyHash P (S "find_longest_match"), .str (S "find_longest_match") 491, .ref 196⟩, ⟨PyData.keyHash P (S "get_matching_blocks"), .str (S "get_matching_blocks") 518, .ref 203⟩, ⟨PyData.keyHash P (S "get_opcodes"), .str (S "get_opcodes") 525, .ref 210⟩, ⟨PyData.keyHash P (S "get_grouped_opcodes"), .str (S "get_grouped_opcodes") 534, .ref 218⟩, ⟨PyData.keyHash P (S "ratio"), .str (S "ratio") 543, .ref 225⟩, ⟨PyData.keyHash P (S "quick_ratio"), .str (S "quick_ratio") 550, .ref 232⟩, ⟨PyData.keyHash P (S "real_quick_ratio"), .str (S "real_quick_ratio") 557, .ref 239⟩, ⟨PyData.keyHash P (S "__static_attributes__"), .str (S "__static_attributes__") 568, .ref 240⟩, ⟨PyData.keyHash P (S "__dict__"), .str (S "__dict__") 570, .ref 243⟩, ⟨PyData.keyHash P (S "__weakref__"), .str (S "__weakref__") 572, .ref 244⟩] 3, #[]⟩
noncomputable def treeZ_4' (d : PySem.Str) (P : Params) : BT := (.node (o_17 P) (.node (o_33 P) (.node (o_65 P) (.node (o_129 P) (.node (o_257 P) .nil .nil) .nil) (.node (o_193 P) .nil .nil)) (.node (o_97 P) (.node (o_161 P) .nil .nil) (.node (o_225 P) .nil .nil))) (.node (o_49 P) (.node (o_81 P) (.node (o_145 P) (.node (o_273 P) .nil .nil) .nil) (.node (o_209 P) .nil .nil)) (.node (o_113 P) (.node (o_177 P) .nil .nil) (.node (o_241' d P) .nil .nil))))
noncomputable def treeZ_8' (d : PySem.Str) (P : Params) : BT := (.node (PySem.W.boot_o_1 P) (.node (o_3 P) (.node (PySem.W.boot_o_7 P) (treeZ_0 P) (treeZ_1 P)) (.node (a_11 P) (treeZ_2 P) (treeZ_3 P))) (.node (PySem.W.boot_o_5 P) (.node (PySem.W.boot_o_9 P) (treeZ_4' d P) (treeZ_5 P)) (.node (a_13 P) (treeZ_6 P) (treeZ_7 P))))
noncomputable def treeZ_11' (d : PySem.Str) (P : Params) : BT := (.node (o_20 P) (.node (o_36 P) (.node (o_68 P) (.node (o_132 P) (.node (o_260 P) .nil .nil) .nil) (.node (o_196 P) .nil .nil)) (.node (o_100 P) (.node (o_164 P) .nil .nil) (.node (o_228 P) .nil .nil))) (.node (o_52 P) (.node (o_84 P) (.node (o_148' d P) (.node (o_276 P) .nil .nil) .nil) (.node (o_212 P) .nil .nil)) (.node (o_116 P) (.node (o_180 P) .nil .nil) (.node (o_244 P) .nil .nil))))
noncomputable def treeZ_17' (d : PySem.Str) (P : Params) : BT := (.node (PySem.W.boot_o_2 P) (.node (PySem.W.boot_o_4 P) (.node (PySem.W.boot_o_8 P) (treeZ_9 P) (treeZ_10 P)) (.node (o_12 P) (treeZ_11' d P) (treeZ_12 P))) (.node (PySem.W.boot_o_6 P) (.node (PySem.W.boot_o_10 P) (treeZ_13 P) (treeZ_14 P)) (.node (a_14 P) (treeZ_15 P) (treeZ_16 P))))
noncomputable def treeZ' (d : PySem.Str) (P : Params) : BT := (.node (PySem.W.boot_o_0 P) (treeZ_8' d P) (treeZ_17' d P))
noncomputable def sZ' (d : PySem.Str) (w : World) (os : OsState) : SharedT := ⟨treeZ' d w.params, 285, {}, ⟨[]⟩, {}, 636, os⟩
noncomputable def docL : PySem.Str := by
  refine' (?f : ∀ (x : PySem.Str) (a b c : _) (r : List Stmt), (Stmt.Expr (.Constant (.str x) a b) c :: r) = clsBody (stAt T 5) → PySem.Str) _ _ _ _ _ ?h
  case h => exact rfl
  case f => exact fun x _ _ _ _ _ => x
noncomputable def setDoc (d : PySem.Str) : Stmt → Stmt
  | .ClassDef a b c (.Expr (.Constant (.str _) x y) p :: r) e f g h i j k => .ClassDef a b c (.Expr (.Constant (.str d) x y) p :: r) e f g h i j k
  | s => s
noncomputable def patch (d : PySem.Str) (pp : Program) : Program := { pp with main := { pp.main with body := pp.main.body.set 5 (setDoc d (stAt pp.main.body 5)) } }
noncomputable def preF (pp : Program) (h : Shared) (w : World) := topGo tbl pp w 11 (some (.ref 6)) 12 h (topStub pp)
noncomputable def preG (c : Code) (h : Shared) : Option (Shared × Thread) := some (h, ⟨denote tbl c, c, ⟨0, 0, 0, 0⟩, fB⟩)
noncomputable def blkF (pp : Program) (b : List Stmt) (e : Env) (c : Code) (h : Shared) (w : World) := segRun tbl pp w 11 (some (.ref 6)) 1 1 h (blockOf b e c ⟨0, 0, 0, 0⟩ fB)
noncomputable def blkG (c : Code) (s : SharedT) : Option (Flow × Shared × Code × Pos) := some (.next, s.abs, c, ⟨0, 0, 0, 0⟩)
noncomputable def segF (pp : Program) (b : List Stmt) (e : Env) (c : Code) (s : SharedT) (w : World) := segRunT tbl pp w 11 (some (.ref 6)) 1 2315 s (piecesOf b e c ⟨0, 0, 0, 0⟩ fB)
noncomputable def segG (c : Code) (s : SharedT) : Option (Flow × SharedT × Code × Pos) := some (.next, s, c, ⟨465, 0, 484, 59⟩)
noncomputable def finF (pp : Program) (e : Env) (c : Code) (s : SharedT) (w : World) := topRun tbl pp w 11 (some (.ref 6)) 2 s.abs (restOf [] e c ⟨465, 0, 484, 59⟩ fB)
end
theorem preF_self : Mine.preF = Mine.preF := rfl
name_quick preFQ for Mine.preF by Mine.preF_self
theorem preG_self : Mine.preG = Mine.preG := rfl
name_quick preGQ for Mine.preG by Mine.preG_self
theorem blkF_self : Mine.blkF = Mine.blkF := rfl
name_quick blkFQ for Mine.blkF by Mine.blkF_self
theorem segF_self : Mine.segF = Mine.segF := rfl
name_quick segFQ for Mine.segF by Mine.segF_self
theorem finF_self : Mine.finF = Mine.finF := rfl
name_quick finFQ for Mine.finF by Mine.finF_self
theorem docL_self : Mine.docL = Mine.docL := rfl
name_quick docLQ for Mine.docL by Mine.docL_self
end Mine
end
section
open PySem PySem.W PyProof.Rows
set_option Elab.async false
set_option maxRecDepth 100000
set_option maxHeartbeats 0
namespace Mine
theorem pre_q (w : World) (os : OsState) : PySem.W.Fast.preFQ PySem.Challenge.pw_mu0006_06 (h0 w os) w = PySem.W.Fast.preGQ cM (hA w os) := by kernel_rfl
theorem blk_q (w : World) (os : OsState) : PySem.W.Fast.blkFQ PySem.Challenge.pw_mu0006_06 bM envM cM (hA w os) w = blkG cM (sA w os) := by kernel_rfl
theorem fin_q (w : World) (os : OsState) : PySem.W.Fast.finFQ PySem.Challenge.pw_mu0006_06 envM cM (sZ w os) w = finR w os := by kernel_rfl
noncomputable def bN (d : PySem.Str) : List Stmt := behindTheImports (patch d PySem.Challenge.pw_mu0006_06)
noncomputable def cN (d : PySem.Str) : Code := .body (bN d) envM
theorem seg_q (w : World) (os : OsState) : PySem.W.Fast.segFQ (patch PySem.W.Fast.docLQ PySem.Challenge.pw_mu0006_06) (bN PySem.W.Fast.docLQ) envM (cN PySem.W.Fast.docLQ) (sA w os) w = segG (cN PySem.W.Fast.docLQ) (sZ' (docAt [.Expr (.Constant (.str PySem.W.Fast.docLQ) 0 ⟨0, 0, 0, 0⟩) ⟨0, 0, 0, 0⟩]) w os) := by kernel_rfl
end Mine
end
section
open PySem PySem.W PyProof.Rows
set_option Elab.async false
set_option maxRecDepth 100000
set_option maxHeartbeats 0
set_option linter.unusedVariables false
namespace Mine
noncomputable section
noncomputable abbrev pw_ : Program := PySem.Challenge.pw_mu0006_06
noncomputable def q : Program := view pw_ [0, 2, 3, 4, 5, 7, 10, 11, 12, 13, 14]
noncomputable def loose : List PySem.Str := [S "_tuplegetter", S "Match", S "SequenceMatcher", S "_initial_missing", S "reduce"]
noncomputable def Xt (s : Shared) : Bool := xlAt q [] s && recOk [] s
noncomputable def stF (pp qq : Program) (ll : List PySem.Str) (hh : Heap) (zz : Shared) (w : World) := staticsOk (importedModules pp.main.body) (boot_heap w.params) hh
theorem stF_self : Mine.stF = Mine.stF := rfl
name_quick stFQ for Mine.stF by Mine.stF_self
theorem st_q (w : World) (os : OsState) : PySem.W.Fast.stFQ pw_ q loose (heapZ w.params) (hZ w os) w = true := by kernel_rfl
theorem st_ (w : World) (os : OsState) : staticsOk (importedModules pw_.main.body) (boot_heap w.params) (heapZ w.params) = true := by
  show stF pw_ q loose (heapZ w.params) (hZ w os) w = true
  rw [PySem.W.Fast.stFQ_eq]; exact st_q w os
noncomputable def nbF (pp qq : Program) (ll : List PySem.Str) (hh : Heap) (zz : Shared) (w : World) := namesBound pp hh
theorem nb_q (w : World) (os : OsState) : nbF pw_ q loose (heapZ w.params) (hZ w os) w = true := by kernel_rfl
theorem nb_ (w : World) (os : OsState) : namesBound pw_ (heapZ w.params) = true := by
  show nbF pw_ q loose (heapZ w.params) (hZ w os) w = true
  exact nb_q w os
noncomputable def gdF (pp qq : Program) (ll : List PySem.Str) (hh : Heap) (zz : Shared) (w : World) := gensDone zz
theorem gd_q (w : World) (os : OsState) : gdF pw_ q loose (heapZ w.params) (hZ w os) w = true := by kernel_rfl
theorem gd_ (w : World) (os : OsState) : gensDone (hZ w os) = true := by
  show gdF pw_ q loose (heapZ w.params) (hZ w os) w = true
  exact gd_q w os
noncomputable def lkF (pp qq : Program) (ll : List PySem.Str) (hh : Heap) (zz : Shared) (w : World) := laidKept (boot_heap w.params) hh
theorem lk_q (w : World) (os : OsState) : lkF pw_ q loose (heapZ w.params) (hZ w os) w = true := by kernel_rfl
theorem lk_ (w : World) (os : OsState) : laidKept (boot_heap w.params) (heapZ w.params) = true := by
  show lkF pw_ q loose (heapZ w.params) (hZ w os) w = true
  exact lk_q w os
noncomputable def seF (pp qq : Program) (ll : List PySem.Str) (hh : Heap) (zz : Shared) (w : World) := seen ((recsOf qq).map (·.name)) (ownsOf qq) [] { zz with gens := #[] }
theorem seF_self : Mine.seF = Mine.seF := rfl
name_quick seFQ for Mine.seF by Mine.seF_self
noncomputable def seG (pp qq : Program) (ll : List PySem.Str) := expectedOf qq
theorem se_q (w : World) (os : OsState) : PySem.W.Fast.seFQ pw_ q loose (heapZ w.params) (hZ w os) w = seG pw_ q loose := by kernel_rfl
theorem se_ (w : World) (os : OsState) : seen ((recsOf q).map (·.name)) (ownsOf q) [] { hZ w os with gens := #[] } = expectedOf q := by
  show seF pw_ q loose (heapZ w.params) (hZ w os) w = seG pw_ q loose
  rw [PySem.W.Fast.seFQ_eq]; exact se_q w os
noncomputable def bvF (pp qq : Program) (ll : List PySem.Str) (hh : Heap) (zz : Shared) (w : World) := zz.heap.bltView
theorem bv_q (w : World) (os : OsState) : bvF pw_ q loose (heapZ w.params) (hZ w os) w = bltViewBooted := by kernel_rfl
theorem bv_ (w : World) (os : OsState) : (hZ w os).heap.bltView = bltViewBooted := by
  show bvF pw_ q loose (heapZ w.params) (hZ w os) w = bltViewBooted
  exact bv_q w os
noncomputable def koF (pp qq : Program) (ll : List PySem.Str) (hh : Heap) (zz : Shared) (w : World) := zz.heap.keysOk (looseW qq ll) ((recsOf qq).map (·.name)) ((litsOf qq).map (·.1)) ((clssOf qq (looseW qq ll)).map (·.name))
theorem koF_self : Mine.koF = Mine.koF := rfl
name_quick koFQ for Mine.koF by Mine.koF_self
theorem ko_q (w : World) (os : OsState) : PySem.W.Fast.koFQ pw_ q loose (heapZ w.params) (hZ w os) w = true := by kernel_rfl
theorem ko_ (w : World) (os : OsState) : (hZ w os).heap.keysOk (looseW q loose) ((recsOf q).map (·.name)) ((litsOf q).map (·.1)) ((clssOf q (looseW q loose)).map (·.name)) = true := by
  show koF pw_ q loose (heapZ w.params) (hZ w os) w = true
  rw [PySem.W.Fast.koFQ_eq]; exact ko_q w os
noncomputable def acF (pp qq : Program) (ll : List PySem.Str) (hh : Heap) (zz : Shared) (w : World) := zz.heap.accountedOkI (importedModules pp.main.body)
theorem acF_self : Mine.acF = Mine.acF := rfl
name_quick acFQ for Mine.acF by Mine.acF_self
theorem ac_q (w : World) (os : OsState) : PySem.W.Fast.acFQ pw_ q loose (heapZ w.params) (hZ w os) w = true := by kernel_rfl
theorem ac_ (w : World) (os : OsState) : (hZ w os).heap.accountedOkI (importedModules pw_.main.body) = true := by
  show acF pw_ q loose (heapZ w.params) (hZ w os) w = true
  rw [PySem.W.Fast.acFQ_eq]; exact ac_q w os
noncomputable def imF (pp qq : Program) (ll : List PySem.Str) (hh : Heap) (zz : Shared) (w : World) := (zz.heap.isNs mainGlobals && zz.heap.isNs builtinsNs)
theorem im_q (w : World) (os : OsState) : imF pw_ q loose (heapZ w.params) (hZ w os) w = true := by kernel_rfl
theorem im_ (w : World) (os : OsState) : ((hZ w os).heap.isNs mainGlobals && (hZ w os).heap.isNs builtinsNs) = true := by
  show imF pw_ q loose (heapZ w.params) (hZ w os) w = true
  exact im_q w os
noncomputable def toF (pp qq : Program) (ll : List PySem.Str) (hh : Heap) (zz : Shared) (w : World) := tablesOk qq zz.heap
theorem toF_self : Mine.toF = Mine.toF := rfl
name_quick toFQ for Mine.toF by Mine.toF_self
theorem to_q (w : World) (os : OsState) : PySem.W.Fast.toFQ pw_ q loose (heapZ w.params) (hZ w os) w = true := by kernel_rfl
theorem to_ (w : World) (os : OsState) : tablesOk q (hZ w os).heap = true := by
  show toF pw_ q loose (heapZ w.params) (hZ w os) w = true
  rw [PySem.W.Fast.toFQ_eq]; exact to_q w os
noncomputable def xtF (pp qq : Program) (ll : List PySem.Str) (hh : Heap) (zz : Shared) (w : World) := (xlAt qq [] zz && recOk [] zz)
theorem xt_q (w : World) (os : OsState) : xtF pw_ q loose (heapZ w.params) (hZ w os) w = true := by kernel_rfl
theorem xt_ (w : World) (os : OsState) : Xt (hZ w os) = true := by
  show xtF pw_ q loose (heapZ w.params) (hZ w os) w = true
  exact xt_q w os
noncomputable def tbF (pp qq : Program) (ll : List PySem.Str) (hh : Heap) (zz : Shared) (w : World) := tabsOk qq zz
theorem tbF_self : Mine.tbF = Mine.tbF := rfl
name_quick tbFQ for Mine.tbF by Mine.tbF_self
theorem tb_q (w : World) (os : OsState) : PySem.W.Fast.tbFQ pw_ q loose (heapZ w.params) (hZ w os) w = true := by kernel_rfl
theorem tb_ (w : World) (os : OsState) : tabsOk q (hZ w os) = true := by
  show tbF pw_ q loose (heapZ w.params) (hZ w os) w = true
  rw [PySem.W.Fast.tbFQ_eq]; exact tb_q w os
noncomputable def pdF (pp qq : Program) (ll : List PySem.Str) (hh : Heap) (zz : Shared) (w : World) := pinSeenD qq (drecsOf qq) zz
theorem pdF_self : Mine.pdF = Mine.pdF := rfl
name_quick pdFQ for Mine.pdF by Mine.pdF_self
noncomputable def pdG (pp qq : Program) (ll : List PySem.Str) := pinGoodD (drecsOf qq)
theorem pdG_self : Mine.pdG = Mine.pdG := rfl
name_quick pdGQ for Mine.pdG by Mine.pdG_self
theorem pd_q (w : World) (os : OsState) : PySem.W.Fast.pdFQ pw_ q loose (heapZ w.params) (hZ w os) w = PySem.W.Fast.pdGQ pw_ q loose := by kernel_rfl
theorem pd_ (w : World) (os : OsState) : pinSeenD q (drecsOf q) (hZ w os) = pinGoodD (drecsOf q) := by
  show pdF pw_ q loose (heapZ w.params) (hZ w os) w = pdG pw_ q loose
  rw [PySem.W.Fast.pdFQ_eq, PySem.W.Fast.pdGQ_eq]; exact pd_q w os
noncomputable def peF (pp qq : Program) (ll : List PySem.Str) (hh : Heap) (zz : Shared) (w : World) := plainSeenE qq (looseW qq ll) zz
theorem peF_self : Mine.peF = Mine.peF := rfl
name_quick peFQ for Mine.peF by Mine.peF_self
noncomputable def peG (pp qq : Program) (ll : List PySem.Str) := plainGoodE qq (looseW qq ll)
theorem peG_self : Mine.peG = Mine.peG := rfl
name_quick peGQ for Mine.peG by Mine.peG_self
theorem pe_q (w : World) (os : OsState) : PySem.W.Fast.peFQ pw_ q loose (heapZ w.params) (hZ w os) w = PySem.W.Fast.peGQ pw_ q loose := by kernel_rfl
theorem pe_ (w : World) (os : OsState) : plainSeenE q (looseW q loose) (hZ w os) = plainGoodE q (looseW q loose) := by
  show peF pw_ q loose (heapZ w.params) (hZ w os) w = peG pw_ q loose
  rw [PySem.W.Fast.peFQ_eq, PySem.W.Fast.peGQ_eq]; exact pe_q w os
noncomputable def plF (pp qq : Program) (ll : List PySem.Str) (hh : Heap) (zz : Shared) (w : World) := plainSeenD qq ll zz
theorem plF_self : Mine.plF = Mine.plF := rfl
name_quick plFQ for Mine.plF by Mine.plF_self
noncomputable def plG (pp qq : Program) (ll : List PySem.Str) := plainGoodD qq ll
theorem pl_q (w : World) (os : OsState) : PySem.W.Fast.plFQ pw_ q loose (heapZ w.params) (hZ w os) w = plG pw_ q loose := by kernel_rfl
theorem pl_ (w : World) (os : OsState) : plainSeenD q loose (hZ w os) = plainGoodD q loose := by
  show plF pw_ q loose (heapZ w.params) (hZ w os) w = plG pw_ q loose
  rw [PySem.W.Fast.plFQ_eq]; exact pl_q w os
noncomputable def wsF (pp qq : Program) (ll : List PySem.Str) (hh : Heap) (zz : Shared) (w : World) := wideSeen qq zz
theorem wsF_self : Mine.wsF = Mine.wsF := rfl
name_quick wsFQ for Mine.wsF by Mine.wsF_self
noncomputable def wsG (pp qq : Program) (ll : List PySem.Str) := wideGood qq
theorem ws_q (w : World) (os : OsState) : PySem.W.Fast.wsFQ pw_ q loose (heapZ w.params) (hZ w os) w = wsG pw_ q loose := by kernel_rfl
theorem ws_ (w : World) (os : OsState) : wideSeen q (hZ w os) = wideGood q := by
  show wsF pw_ q loose (heapZ w.params) (hZ w os) w = wsG pw_ q loose
  rw [PySem.W.Fast.wsFQ_eq]; exact ws_q w os
noncomputable def csF (pp qq : Program) (ll : List PySem.Str) (hh : Heap) (zz : Shared) (w : World) := clsSeenW qq ll zz
theorem csF_self : Mine.csF = Mine.csF := rfl
name_quick csFQ for Mine.csF by Mine.csF_self
noncomputable def csG (pp qq : Program) (ll : List PySem.Str) := clsGoodW qq ll
theorem cs_q (w : World) (os : OsState) : PySem.W.Fast.csFQ pw_ q loose (heapZ w.params) (hZ w os) w = csG pw_ q loose := by kernel_rfl
theorem cs_ (w : World) (os : OsState) : clsSeenW q loose (hZ w os) = clsGoodW q loose := by
  show csF pw_ q loose (heapZ w.params) (hZ w os) w = csG pw_ q loose
  rw [PySem.W.Fast.csFQ_eq]; exact cs_q w os
theorem pre_ (w : World) (os : OsState) : preL w os = preR w os := by
  show preF PySem.Challenge.pw_mu0006_06 (h0 w os) w = preG cM (hA w os)
  rw [PySem.W.Fast.preFQ_eq, PySem.W.Fast.preGQ_eq]; exact pre_q w os
theorem blk_ (w : World) (os : OsState) : blkL w os = blkR w os := by
  show blkF PySem.Challenge.pw_mu0006_06 bM envM cM (hA w os) w = blkG cM (sA w os)
  rw [PySem.W.Fast.blkFQ_eq]; exact blk_q w os
theorem fin_ (w : World) (os : OsState) : finL w os = finR w os := by
  show finF PySem.Challenge.pw_mu0006_06 envM cM (sZ w os) w = finR w os
  rw [PySem.W.Fast.finFQ_eq]; exact fin_q w os
theorem patch_eq : patch docL PySem.Challenge.pw_mu0006_06 = PySem.Challenge.pw_mu0006_06 := by kernel_rfl
theorem doc_eq : docAt [.Expr (.Constant (.str docL) 0 ⟨0, 0, 0, 0⟩) ⟨0, 0, 0, 0⟩] = docAt (clsBody (stAt T 5)) := by kernel_rfl
theorem seg_ (w : World) (os : OsState) : segL w os = segR w os := by
  show segF PySem.Challenge.pw_mu0006_06 bM envM cM (sA w os) w = segG cM (sZ w os)
  have e := seg_q w os
  rw [← PySem.W.Fast.segFQ_eq, ← PySem.W.Fast.docLQ_eq, doc_eq] at e
  unfold cN bN at e
  rw [patch_eq] at e
  exact e
theorem run_ (w : World) (os : OsState) : topRun treeTable pw_ w 11 (some (.ref 6)) (12 + (1 + (2315 + 2))) (h0 w os) (topStub pw_) = some (hZ w os) := by
  rw [tbl_eq]
  refine go_top (pre_ w os) (piece_block (blk_ w os) ?_)
  have e : bM = bM ++ [] := (List.append_nil _).symm
  rw [e]
  exact piece_app (segRun_of (seg_ w os)) (fin_ w os)
theorem size_ (w : World) : ((boot_heap w.params).isNs mainGlobals && (⟨[]⟩ : Array GenState).size == 0, (boot_heap w.params).objs.size, (boot_heap w.params).nsMap mainGlobals "__annotations__") = (true, 11, some (.ref 6)) := by kernel_rfl
theorem open_ : ∀ w : World, (fencedOpening treeTable pw_ w 4754).map (fun s => (s.heap, s.gens, s.drawn, s.toks)) = some (boot_heap w.params, Array.mk [], boot_drawn, boot_toks) :=
  boot_open (by kernel_rfl) (by decide +kernel) (fun s => by kernel_rfl)
theorem heapZ_tree (P : Params) : heapZ P = absHeap (treeZ P) 285 {} := by kernel_rfl
theorem K_lt (P : Params) : ((K P).all fun p => Nat.blt p.1 285) = true := by kernel_rfl
theorem K_get (P : Params) : ((K P).map fun p => (treeZ P).get p.1) = (K P).map fun p => some p.2 := by kernel_rfl
theorem K_alive (P : Params) : ((K P).map fun p => alive p.2) = (K P).map fun p => some p.2 := by kernel_rfl
theorem map_mem {α β : Type} {f g : α → β} : ∀ {l : List α}, l.map f = l.map g → ∀ p ∈ l, f p = g p
  | _ :: _, e, _, .head _ => (List.cons.inj e).1
  | _ :: _, e, _, .tail _ h => map_mem (List.cons.inj e).2 _ h
theorem mem_of_lookup {K : Frag} {a : Addr} {o : Obj} : K.lookup a = some o → (a, o) ∈ K := by
  induction K with
  | nil => intro e; cases e
  | cons p r ih =>
    intro e
    rw [List.lookup_cons] at e
    cases h : (a == p.1) with
    | true =>
      rw [h] at e
      have h1 : a = p.1 := by simpa using h
      have h2 : p.2 = o := by simpa using e
      rw [h1, ← h2]; exact .head _
    | false => rw [h] at e; exact .tail _ (ih e)
theorem K_in (P : Params) : (K P).In (heapZ P) := fun a o e => by
  have m := mem_of_lookup e
  have h1 : a < 285 := Nat.le_of_ble_eq_true (List.all_eq_true.mp (K_lt P) _ m)
  have h2 := map_mem (K_get P) _ m
  have h3 := map_mem (K_alive P) _ m
  rw [heapZ_tree]
  exact (abs_get h1 h2).trans h3
noncomputable def hook : Hook := ⟨Heap, fun s => s.heap, fun w => heapZ w.params, fun w h => (K w.params).In h, fun w s e => by have e' : s.heap = heapZ w.params := e; rw [e']; exact K_in _, fun w h h' x k => Frag.In.keeps x k⟩
theorem look_ (w : World) (os : OsState) : ((staticsOk (importedModules pw_.main.body) (boot_heap w.params) (heapZ w.params) && namesBound pw_ (heapZ w.params) && gensDone (hZ w os) && laidKept (boot_heap w.params) (heapZ w.params)),
        openSeen q loose (importedModules pw_.main.body) Xt true (hZ w os), (hZ w os).heap) = (true, openGood q loose, heapZ w.params) := by
  have e1 : staticsOk (importedModules pw_.main.body) (boot_heap w.params) (heapZ w.params) = true := st_ w os
  have e2 : namesBound pw_ (heapZ w.params) = true := nb_ w os
  have e3 : gensDone (hZ w os) = true := gd_ w os
  have e4 : laidKept (boot_heap w.params) (heapZ w.params) = true := lk_ w os
  have e5 : (hZ w os).heap.keysOk (looseW q loose) ((recsOf q).map (·.name)) ((litsOf q).map (·.1)) ((clssOf q (looseW q loose)).map (·.name)) = true := ko_ w os
  have e6 : (hZ w os).heap.accountedOkI (importedModules pw_.main.body) = true := ac_ w os
  have e7 : ((hZ w os).heap.isNs mainGlobals && (hZ w os).heap.isNs builtinsNs) = true := im_ w os
  have e8 : tablesOk q (hZ w os).heap = true := to_ w os
  have e9 : Xt (hZ w os) = true := xt_ w os
  have e10 : ((hZ w os).heap.keysOk (looseW q loose) ((recsOf q).map (·.name)) ((litsOf q).map (·.1)) ((clssOf q (looseW q loose)).map (·.name)) && (hZ w os).heap.accountedOkI (importedModules pw_.main.body) && (hZ w os).heap.isNs mainGlobals && (hZ w os).heap.isNs builtinsNs && tablesOk q (hZ w os).heap && Xt (hZ w os) && (if true = true then (hZ w os).gens.size == 0 else !leftWithCleanup (hZ w os).gens)) = true := by
    rw [e5, e6, Bool.true_and, Bool.true_and, e7, e8, e9]; rfl
  rw [e1, e2, e3, e4]
  refine looks_pair rfl (looks_pair ?_ rfl)
  exact looks_pair (se_ w os) (looks_pair (bv_ w os) (looks_pair e10 (looks_pair (tb_ w os) (looks_pair (pd_ w os) (looks_pair (pe_ w os) (looks_pair (pl_ w os) (looks_pair (ws_ w os) (cs_ w os))))))))
theorem hl : LeftO pw_ q loose Xt hook.obs hook.val 4754 :=
  LeftO.of_pieces open_ size_ (fun w os => run_ w os) (by decide +kernel) (fun w => funext fun os => look_ w os)
end
end Mine
end
section
open PySem PySem.W PyProof.Rows
set_option Elab.async false
set_option maxRecDepth 100000
set_option maxHeartbeats 0
set_option linter.unusedVariables false
namespace Mine
noncomputable def fPos : Stmt → Pos
  | .FunctionDef _ _ _ _ _ _ _ _ _ p => p
  | _ => ⟨0, 0, 0, 0⟩
noncomputable def dLaw : DefRec := ⟨S "law", fParams (stAt T 14), fBody (stAt T 14), fScope (stAt T 14), fPos (stAt T 14)⟩
noncomputable abbrev lawR : RowW := (OpenLaw.row PySem.Challenge.rw_mu0006_06).toRowW
end Mine
end
section
open PySem PySem.W PyProof.Rows PySem.Calls PySem.W.X
set_option Elab.async false
set_option linter.unusedVariables false
set_option maxRecDepth 100000
set_option maxHeartbeats 0
namespace Mine
noncomputable def A0 : Around := { handled := none, depth := 400, frames := none, guards := none, units := 1000 }
theorem up {α : Type} {M : Model} {A : Around} {t : Sem α} {Q : α → Shared → Prop} {E : Value → Shared → Prop} {s : Shared} (h : wpAny M A0 t Q E s) (hh : A.handled = none) (hd : A.depth ≤ 400) (hu : A.units ≤ 1000) : wpAny M A t Q E s :=
  fun Γ p hΓ => h Γ p ⟨hΓ.1.trans hh, Nat.le_trans hΓ.2.1 hd, fun _ e => (nomatch e), fun _ e => (nomatch e), Nat.le_trans hΓ.2.2.2.2 hu⟩
theorem mem_ext {h₀ h : Heap} {news : List (Addr × Obj)} (D : Mem h₀ h [] news) : Ext h₀ h := fun b o e => D.keep b o e (by cases hasCls o <;> rfl)
noncomputable abbrev matchObj (dx : Addr) (i j k : Value) : Obj := ⟨.ref 135, some dx, .seq #[i, j, k] 0, #[]⟩
theorem mem_get {h₀ h : Heap} {chg news : List (Addr × Obj)} {a : Addr} {o : Obj} (D : Mem h₀ h chg news) (i : Nat) (hi : news[i]? = some (a, o)) : h₀.get? a = none ∧ h.get? a = some o := let x := D.nw _ (List.mem_of_getElem? hi); ⟨x.2, x.1⟩
end Mine
end
local macro_rules | `(tactic| x_close) => `(tactic| first | exact ⟨⟨_, _, rfl, Mine.mem_ext (by assumption)⟩, _, rfl, Mine.mem_get (by assumption) 0 (by with_unfolding_all rfl)⟩ | exact ⟨⟨_, _, rfl, Mine.mem_ext (by assumption)⟩, _, _, rfl, Mine.mem_get (by assumption) 0 (by with_unfolding_all rfl)⟩ | exact ⟨⟨_, _, rfl, Mine.mem_ext (by assumption)⟩, rfl⟩ | exact ⟨⟨_, _, rfl, fun _ _ e => e⟩, rfl⟩)
section
open PySem PySem.W PyProof.Rows PySem.Calls PySem.W.X
set_option Elab.async false
set_option linter.unusedVariables false
set_option maxRecDepth 100000
set_option maxHeartbeats 0
namespace Mine
theorem tl_dict_ga : typeLookup (.type "dict") "__getattribute__" = pure (some (.builtin "dict.__getattribute__")) := by rw [typeLookup_type, builtinLookup_eq_fast]; kernel_rfl
theorem tl_set_ga : typeLookup (.type "set") "__getattribute__" = pure (some (.builtin "set.__getattribute__")) := by rw [typeLookup_type, builtinLookup_eq_fast]; kernel_rfl
theorem dict_get_ga2 {w : World} {s : Shared} {d : Addr} {es : Array DictEntry} {n : Nat} {tk : Tok} (X : (K w.params).In s.heap) (hd : s.heap.get? d = some ⟨.type "dict", none, .dict es n, #[]⟩) :
    wpAny (model pw_ w) A0 (call (.builtin "dict.__getattribute__") [.ref d, .str (S "get") tk]) (fun r s' => Keeps s s' ∧ ∃ m, r = .ref m ∧ s.heap.get? m = none ∧ s'.heap.get? m = some (boundObj "dict.get" (.ref d))) Ff s := by
  x_run
theorem set_in_ga {w : World} {s : Shared} {d : Addr} {es : Array (Int × Value)} {n : Nat} {t : SetTable} {tk : Tok} (X : (K w.params).In s.heap) (hd : s.heap.get? d = some ⟨.type "set", none, .set es n t, #[]⟩) :
    wpAny (model pw_ w) A0 (call (.builtin "set.__getattribute__") [.ref d, .str (S "__contains__") tk]) (fun r s' => Keeps s s' ∧ ∃ m, r = .ref m ∧ s.heap.get? m = none ∧ s'.heap.get? m = some (boundObj "set.__contains__" (.ref d))) Ff s := by
  x_run
end Mine
end
section
open PySem PySem.W PyProof.Rows PySem.Calls PySem.W.X
set_option Elab.async false
set_option linter.unusedVariables false
set_option maxRecDepth 100000
set_option maxHeartbeats 0
namespace Mine
theorem bind_dict_ga (self : Value) : bindSpecial (.builtin "dict.__getattribute__") self = pure (.builtin "dict.__getattribute__", [self]) := by kernel_rfl
theorem bind_set_ga (self : Value) : bindSpecial (.builtin "set.__getattribute__") self = pure (.builtin "set.__getattribute__", [self]) := by kernel_rfl
theorem getAttr_via {M : Model} {A : Around} {E : Value → Shared → Prop} {s : Shared} {T gid : String} {v : Value} {name : PySem.Str} {b : Bool} {Q : Value → Shared → Prop} (hT : s.TypeIs v T) (tl : typeLookup (.type T) "__getattribute__" = pure (some (.builtin gid)))
    (hb : bindSpecial (.builtin gid) v = pure (.builtin gid, [v]))
    (h : ∀ tk, wpAny M A (call (.builtin gid) [v, .str name tk]) (fun r s' => ∃ m, r = .ref m ∧ Q r s') Ff { s with toks := s.toks + 1 }) : wpAny M A (getAttr v name b) Q E s := by
  unfold getAttr
  refine wpAny_bind (wpAny_mkText ?_)
  unfold getAttrBy
  refine wpAny_holding (wpAny_bind (wpAny_typeOf (s := { s with toks := s.toks + 1 }) (by cases v <;> exact hT) ?_))
  refine wpAny_bind (wpAny_of_eq tl ?_)
  dsimp only
  rw [if_neg (by simp [onTheHeap])]
  unfold getAttrByItsOwn
  refine wpAny_bind (wpAny_of_eq (show hookBefore (.type T) = pure none from rfl) ?_)
  refine wpAny_bind (wpAny_attempt (wpAny_holding ?_))
  have e : callGetattribute v (.str name s.toks) (.builtin gid) b = boundAndCalled (.builtin gid) v (.str name s.toks) := by
    unfold callGetattribute
    rw [if_neg (by cases b <;> simp [onTheHeap])]
  rw [e]
  unfold boundAndCalled
  refine wpAny_bind (wpAny_of_eq hb ?_)
  refine ff (wpAny_mono (h s.toks) (fun r s' hq => ?_) fun _ _ x => x)
  obtain ⟨m, rfl, hq⟩ := hq
  exact wpAny_pure hq
section
variable {w : World} {A : Around} {E : Value → Shared → Prop} {h₀ : Heap} {L : Addr} {vars : Vars} {own : Own} {s₀ : Shared} {κ : Type} [DecidableEq κ] {knd : PySem.KeyKind pw_ w κ} {kvs : List (κ × Value)}
structure Rm (A : Around) : Prop where
  handled : A.handled = none
  depth : A.depth ≤ 400
  units : A.units ≤ 1000
end
end Mine
end
section
open PySem PySem.W PyProof.Rows PySem.Calls PySem.W.X
set_option Elab.async false
set_option linter.unusedVariables false
set_option maxRecDepth 100000
set_option maxHeartbeats 0
namespace Mine
noncomputable abbrev emptySet (w : World) : Obj := ⟨.type "set", none, .set #[] 0 (SetTable.fresh 0 0 !w.params.followText "set-order"), #[]⟩
theorem set_new {w : World} {s : Shared} (X : (K w.params).In s.heap) :
    wpAny (model pw_ w) A0 (call (.type "set") []) (fun r s' => Keeps s s' ∧ ∃ m, r = .ref m ∧ s.heap.get? m = none ∧ s'.heap.get? m = some (emptySet w)) Ff s := by
  x_run
end Mine
end
section
open PySem PySem.W PyProof.Rows PySem.Calls PySem.W.X
set_option Elab.async false
set_option linter.unusedVariables false
namespace Mine
section
variable {prog : Program} {w : World} {A : Around} {E : Value → Shared → Prop} {h₀ : Heap} {L : Addr} {vars vars' : Vars} {own own' : Own} {s₀ : Shared} {K : Frag} {env : Env}
end
section
variable {w : World} {A : Around} {E : Value → Shared → Prop} {h₀ : Heap} {L : Addr} {vars : Vars} {own : Own} {s₀ : Shared}
end
end Mine
end
section
open PySem PySem.W PyProof.Rows PySem.Calls PySem.W.X
set_option Elab.async false
set_option linter.unusedVariables false
namespace Mine
inductive Rem (p : Addr × (Obj → Prop)) : Own → Own → Prop
  | here {r} : Rem p (p :: r) r
  | there {q r r'} : Rem p r r' → Rem p (q :: r) (q :: r')
inductive Pick : Own → Own → Prop
  | nil {l} : Pick l []
  | cons {p l l' r} : Rem p l l' → Pick l' r → Pick l (p :: r)
section
variable {prog : Program} {w : World} {A : Around} {E : Value → Shared → Prop} {h₀ : Heap} {L : Addr} {vars vars' : Vars} {own own' : Own} {s₀ : Shared} {K : Frag} {env : Env}
end
end Mine
end
section
set_option linter.unusedVariables false
namespace Mine
structure St where
  row : Int → Nat
  bi : Int
  bj : Int
  bs : Nat
noncomputable def inSt (old : Int → Nat) (i blo bhi : Int) (st : St) (j : Int) : St :=
  if blo ≤ j ∧ j < bhi then
    { row := fun x => if x = j then old (j - 1) + 1 else st.row x
      bi := if st.bs < old (j - 1) + 1 then i - ((old (j - 1) + 1 : Nat) : Int) + 1 else st.bi
      bj := if st.bs < old (j - 1) + 1 then j - ((old (j - 1) + 1 : Nat) : Int) + 1 else st.bj
      bs := if st.bs < old (j - 1) + 1 then old (j - 1) + 1 else st.bs }
  else st
noncomputable abbrev clr (st : St) : St := { st with row := fun _ => 0 }
noncomputable def rowSt (blo bhi : Int) (js : Int → List Int) (st : St) (i : Int) : St := (js i).foldl (inSt st.row i blo bhi) (clr st)
noncomputable def allSt (alo blo bhi : Int) (js : Int → List Int) : Nat → St
  | 0 => ⟨fun _ => 0, alo, blo, 0⟩
  | n + 1 => rowSt blo bhi js (allSt alo blo bhi js n) (alo + n)
theorem inSt_skip {old : Int → Nat} {i blo bhi : Int} {st : St} {j : Int} (h : ¬ (blo ≤ j ∧ j < bhi)) : inSt old i blo bhi st j = st := by unfold inSt; rw [if_neg h]
theorem fold_skip {old : Int → Nat} {i blo bhi : Int} : ∀ (l : List Int) (st : St), (∀ j ∈ l, bhi ≤ j) → l.foldl (inSt old i blo bhi) st = st
  | [], _, _ => rfl
  | j :: l, st, h => by
    rw [List.foldl_cons, inSt_skip (by have := h j (.head _); (first | lia | omega))]
    exact fold_skip l st fun x hx => h x (.tail _ hx)
theorem fold_take {α β : Type} (f : β → α → β) (b : β) (l : List α) (n : Nat) (x : α) (h : l[n]? = some x) : (l.take (n + 1)).foldl f b = f ((l.take n).foldl f b) x := by
  rw [List.take_add_one, h, List.foldl_append]; rfl
theorem fold_cut {old : Int → Nat} {i blo bhi : Int} {l : List Int} {st : St} {n : Nat} (h : ∀ j ∈ l.drop n, bhi ≤ j) : l.foldl (inSt old i blo bhi) st = (l.take n).foldl (inSt old i blo bhi) st := by
  conv => lhs; rw [← List.take_append_drop n l, List.foldl_append]
  exact fold_skip _ _ h
theorem asc_drop : ∀ {l : List Int} {p : Nat} {n : Int}, l.Pairwise (· < ·) → l[p]? = some n → ∀ j ∈ l.drop p, n ≤ j
  | [], p, n, _, h => by simp at h
  | x :: l, 0, n, hp, h => by
    simp at h; subst h
    intro j hj
    rcases List.mem_cons.mp hj with rfl | hj
    · exact Int.le_refl _
    · exact Int.le_of_lt ((List.pairwise_cons.mp hp).1 j hj)
  | x :: l, p + 1, n, hp, h => by
    simp at h
    exact @asc_drop l p n (List.pairwise_cons.mp hp).2 h
end Mine
end
section
open PySem PySem.W PyProof.Rows PySem.Calls PySem.W.X
set_option Elab.async false
set_option linter.unusedVariables false
namespace Mine
section
variable {prog : Program} {w : World} {A : Around} {E : Value → Shared → Prop} {h₀ : Heap} {L : Addr} {vars vars' : Vars} {own own' : Own} {s₀ : Shared} {K : Frag} {env : Env}
end
end Mine
end
section
open PySem PySem.W PyProof.Rows PySem.Calls PySem.W.X
set_option Elab.async false
set_option linter.unusedVariables false
namespace Mine
section
variable {prog : Program} {w : World} {A : Around} {E : Value → Shared → Prop} {h₀ : Heap} {L : Addr} {vars vars' : Vars} {own own' : Own} {s₀ : Shared} {K : Frag} {env : Env}
end
noncomputable abbrev Cont (prog : Program) (w : World) (A : Around) (env : Env) (E : Value → Shared → Prop) (b : List Stmt) (Q : Flow → Shared → Prop) : Flow → Shared → Prop := fun f s' => match f with
  | .next => wpAny (model prog w) A (execs b env) Q E s'
  | f => Q f s'
section
variable {prog : Program} {w : World} {A : Around} {E : Value → Shared → Prop} {h₀ : Heap} {L : Addr} {vars vars' : Vars} {own own' : Own} {s₀ : Shared} {K : Frag} {env : Env}
end
section
variable {w : World} {A : Around} {E : Value → Shared → Prop} {h₀ : Heap} {L : Addr} {vars : Vars} {own : Own} {s₀ : Shared}
end
end Mine
end
section
open PySem PySem.W PyProof.Rows PySem.Calls
set_option Elab.async false
set_option linter.unusedVariables false
namespace Mine
noncomputable def Gives (d : D) (g : Heap) (s : Shared) : Value → Shared → Prop := fun v s' => ∃ g', Gr g s g' s' ∧ Rep g' v d
noncomputable def Ev (C : Cc) (vars : DVars) (own : DOwn) (e : Expr) (d : D) : Prop := ∀ g s, At2 C vars own g s → wpAny (model C.prog C.w) C.A (eval e C.env) (Gives d g s) Ff s
noncomputable def NowL (g : Heap) (s : Shared) (v : Value) (ds : List D) : Prop := ∃ a vs, v = .ref a ∧ PlainLst s.heap a vs ∧ Reps g vs ds
noncomputable def EvL (C : Cc) (vars : DVars) (own : DOwn) (e : Expr) (ds : List D) : Prop := ∀ g s, At2 C vars own g s → wpAny (model C.prog C.w) C.A (eval e C.env) (fun v s' => ∃ g', Gr g s g' s' ∧ NowL g' s' v ds) Ff s
noncomputable def Tr (C : Cc) (vars : DVars) (own : DOwn) (e : Expr) (b : Bool) : Prop := ∀ g s, At2 C vars own g s → wpAny (model C.prog C.w) C.A (PySem.isTrue e C.env (eval e C.env)) (fun r s' => ∃ g', Gr g s g' s' ∧ r = b) Ff s
noncomputable def Ex (C : Cc) (vars : DVars) (own : DOwn) (b : List Stmt) (Q : Flow → Shared → Prop) : Prop := ∀ g s, At2 C vars own g s → wpAny (model C.prog C.w) C.A (execs b C.env) Q Ff s
noncomputable abbrev ContC (C : Cc) (rest : List Stmt) (Q : Flow → Shared → Prop) : Flow → Shared → Prop := Cont C.prog C.w C.A C.env Ff rest Q
noncomputable def Ex2 (C : Cc) (vars : DVars) (own : DOwn) (st : Stmt) (rest : List Stmt) (Q : Flow → Shared → Prop) : Prop := ∀ g s, At2 C vars own g s → wpAny (model C.prog C.w) C.A (exec st C.env) (ContC C rest Q) Ff s
noncomputable def At2K (C : Cc) (vars : DVars) (own : DOwn) (P : Shared → Prop) : Prop := ∀ g s, At2 C vars own g s → P s
noncomputable def Ret (C : Cc) (Q : Flow → Shared → Prop) (d : D) : Prop := ∀ g s v, Gr C.gb C.s₀ g s → Rep g v d → Q (.ret v) s
noncomputable def Fin (C : Cc) (d : D) : Flow → Shared → Prop := fun fl s' => ∃ g', Gr C.gb C.s₀ g' s' ∧ Rep g' (retOf fl) d
theorem wmono {α : Type} {M : Model} {A : Around} {s : Shared} {t : Sem α} {Q Q' : α → Shared → Prop} {E : Value → Shared → Prop} (h : wpAny M A t Q Ff s) (k : ∀ a s', Q a s' → Q' a s') : wpAny M A t Q' E s := wpAny_mono h k fun _ _ x => x.elim
theorem Rep.lstNow {g : Heap} {s : Shared} {v : Value} {ds : List D} (r : Rep g v (.lst ds)) (h : Ext g s.heap) : NowL g s v ds := by
  cases r using Rep.eLst with
  | lst p r => exact ⟨_, _, rfl, p.ext h, r⟩
theorem NowL.ext {g g' : Heap} {s s' : Shared} {v : Value} {ds : List D} (n : NowL g s v ds) (x : Gr g s g' s') : NowL g' s' v ds := by
  obtain ⟨a, vs, rfl, p, r⟩ := n
  exact ⟨a, vs, rfl, p.ext (keepsExt x.keeps), r.ext x.ext⟩
section
variable {C : Cc} {vars vars' : DVars} {own own' : DOwn} {Q : Flow → Shared → Prop} {d d₁ d₂ : D} {rest : List Stmt} {e l r : Expr} {pos : Pos}
theorem Ev.run (h : Ev C vars own e d) {g : Heap} {s : Shared} (hs : At2 C vars own g s) {Q : Value → Shared → Prop} {E : Value → Shared → Prop} (k : ∀ v g' s', Gr g s g' s' → At2 C vars own g' s' → Rep g' v d → Q v s') : wpAny (model C.prog C.w) C.A (eval e C.env) Q E s :=
  wmono (h g s hs) fun v s' ⟨g', x, r⟩ => k v g' s' x (hs.grow x) r
theorem EvL.run {ds : List D} (h : EvL C vars own e ds) {g : Heap} {s : Shared} (hs : At2 C vars own g s) {Q : Value → Shared → Prop} {E : Value → Shared → Prop} (k : ∀ v g' s', Gr g s g' s' → At2 C vars own g' s' → NowL g' s' v ds → Q v s') : wpAny (model C.prog C.w) C.A (eval e C.env) Q E s :=
  wmono (h g s hs) fun v s' ⟨g', x, r⟩ => k v g' s' x (hs.grow x) r
theorem Tr.run {b : Bool} (h : Tr C vars own e b) {g : Heap} {s : Shared} (hs : At2 C vars own g s) {Q : Bool → Shared → Prop} {E : Value → Shared → Prop} (k : ∀ g' s', Gr g s g' s' → At2 C vars own g' s' → Q b s') : wpAny (model C.prog C.w) C.A (PySem.isTrue e C.env (eval e C.env)) Q E s :=
  wmono (h g s hs) fun v s' ⟨g', x, r⟩ => by subst r; exact k g' s' x (hs.grow x)
theorem EvL.of {ds : List D} (h : Ev C vars own e (.lst ds)) : EvL C vars own e ds := fun g s hs => h.run hs fun v g' s' x a r => ⟨g', x, r.lstNow a.sub⟩
theorem Ev.eq (h : Ev C vars own e d₁) (q : d₁ = d) : Ev C vars own e d := q ▸ h
theorem Tr.eq {b b' : Bool} (h : Tr C vars own e b) (q : b = b') : Tr C vars own e b' := q ▸ h
theorem Ev.local_ {x : PySem.Str} (hm : (x, d) ∈ vars) (hk : (C.env.scope.kind == .function) = true) (hl : C.env.kindOf x = some .local) (hd : (x == ("__debug__" : PySem.Str)) = false) : Ev C vars own (.Name x pos) d := fun g s hs => by
  obtain ⟨m, F, hv⟩ := hs.fr
  obtain ⟨v, e, r⟩ := hv _ hm
  exact wpAny_Name (wpAny_loadName_local (by simpa using hk) hl F e ⟨g, Gr.refl hs.sub, r⟩) hd
noncomputable def CelD (d : D) : Heap → Obj → Prop := fun g o => ∃ v, o.data = .cell (some v) ∧ Rep g v d
noncomputable def Cel0 : Heap → Obj → Prop := fun g o => o.data = .cell none
theorem CelD.mono : ∀ g g' o, Ext g g' → CelD d g o → CelD d g' o := by
  rintro _ _ _ k ⟨v, e, r⟩
  exact ⟨v, e, r.ext k⟩
theorem Ev.cell {x : PySem.Str} {c : Addr} (hc : C.env.cells.lookup x = some c) (hm : (c, CelD d) ∈ own ∨ (c, CelD d) ∈ C.ro) (hk : (C.env.scope.kind == .function) = true) (hl : C.env.kindOf x = some .cell) (hd : (x == ("__debug__" : PySem.Str)) = false) : Ev C vars own (.Name x pos) d := fun g s hs => by
  obtain ⟨o, e, v, q, r⟩ := hs.known hm
  exact wpAny_Name (wpAny_loadName_cell (by simpa using hk) hl hc ⟨o, e, q⟩ ⟨g, Gr.refl hs.sub, r⟩) hd
theorem Ev.free {x : PySem.Str} {c : Addr} (hc : C.env.cells.lookup x = some c) (hm : (c, CelD d) ∈ own ∨ (c, CelD d) ∈ C.ro) (hk : (C.env.scope.kind == .function) = true) (hl : C.env.kindOf x = some .free) (hd : (x == ("__debug__" : PySem.Str)) = false) (hn : (x == ("__classdict__" : PySem.Str)) = false) : Ev C vars own (.Name x pos) d := fun g s hs => by
  obtain ⟨o, e, v, q, r⟩ := hs.known hm
  exact wpAny_Name (wpAny_loadName_free (by simpa using hk) hl hc ⟨o, e, q⟩ ⟨g, Gr.refl hs.sub, r⟩ hn) hd
theorem Ev.int {i : Int} {kk : Nat} : Ev C vars own (.Constant (.int i) kk pos) (.int i) := fun g s hs => wpAny_Constant_int ⟨g, Gr.tok hs.sub _, .int _ _⟩
theorem Ev.str {x : PySem.Str} {kk : Nat} : Ev C vars own (.Constant (.str x) kk pos) (.str x) := fun g s hs => wpAny_Constant_str ⟨g, Gr.tok hs.sub _, .str _ _⟩
theorem Ev.none {kk : Nat} : Ev C vars own (.Constant .none kk pos) .none := fun g s hs => wpAny_Constant_none ⟨g, Gr.refl hs.sub, .none⟩
theorem Ev.bool {b : Bool} {kk : Nat} : Ev C vars own (.Constant (.bool b) kk pos) (.bool b) := fun g s hs => wpAny_Constant_bool ⟨g, Gr.refl hs.sub, .bool _⟩
structure Fz (K : Frag) (g : Heap) (s : Shared) : Prop where
  sub : Ext g s.heap
  cx : Cx K g
theorem At2.fz {g : Heap} {s : Shared} (a : At2 C vars own g s) : Fz C.K g s := ⟨a.sub, a.cxg⟩
noncomputable def Bin (C : Cc) (op : Operator) (d₁ d₂ d : D) : Prop := ∀ g s v₁ v₂, Fz C.K g s → Rep g v₁ d₁ → Rep g v₂ d₂ → wpAny (model C.prog C.w) C.A (binaryOp op v₁ v₂) (Gives d g s) Ff s
noncomputable def Cmp (C : Cc) (op : CmpOp) (d₁ d₂ : D) (d : D) : Prop := ∀ g s v₁ v₂, Fz C.K g s → Rep g v₁ d₁ → Rep g v₂ d₂ → wpAny (model C.prog C.w) C.A (compareOp op v₁ v₂) (Gives d g s) Ff s
theorem Gives.after {g g' : Heap} {s s' s'' : Shared} {v : Value} (x : Gr g s g' s') (h : Gives d g' s' v s'') : Gives d g s v s'' := let ⟨g'', y, r⟩ := h; ⟨g'', x.trans y, r⟩
theorem Ev.bin {op : Operator} (h₁ : Ev C vars own l d₁) (h₂ : Ev C vars own r d₂) (o : Bin C op d₁ d₂ d) : Ev C vars own (.BinOp l op r pos) d := fun g s hs =>
  wpAny_BinOp (h₁.run hs fun v₁ g₁ s₁ x₁ a₁ r₁ => h₂.run a₁ fun v₂ g₂ s₂ x₂ a₂ r₂ => wmono (o g₂ s₂ v₁ v₂ a₂.fz (r₁.ext x₂.ext) r₂) fun v s' h => h.after (x₁.trans x₂))
theorem Ev.cmp {op : CmpOp} (h₁ : Ev C vars own l d₁) (h₂ : Ev C vars own r d₂) (o : Cmp C op d₁ d₂ d) (hb : behindInMarks op r = false) : Ev C vars own (.Compare l [op] [r] pos) d := fun g s hs =>
  wpAny_Compare1 (h₁.run hs fun v₁ g₁ s₁ x₁ a₁ r₁ => h₂.run a₁ fun v₂ g₂ s₂ x₂ a₂ r₂ => wmono (o g₂ s₂ v₁ v₂ a₂.fz (r₁.ext x₂.ext) r₂) fun v s' h => h.after (x₁.trans x₂)) hb
theorem Tr.cmp {op : CmpOp} {b : Bool} (h₁ : Ev C vars own l d₁) (h₂ : Ev C vars own r d₂) (o : Cmp C op d₁ d₂ (.bool b)) (hb : behindInMarks op r = false) : Tr C vars own (.Compare l [op] [r] pos) b := fun g s hs =>
  wpAny_isTrue_Compare1 (h₁.run hs fun v₁ g₁ s₁ x₁ a₁ r₁ => h₂.run a₁ fun v₂ g₂ s₂ x₂ a₂ r₂ => wmono (o g₂ s₂ v₁ v₂ a₂.fz (r₁.ext x₂.ext) r₂) fun v s' ⟨g', x, q⟩ => by
    cases q; exact wpAny_truthy_bool ⟨g', (x₁.trans x₂).trans x, rfl⟩) hb
section
variable {a b : Int} {x y : PySem.Str}
theorem Bin.add : Bin C .Add (.int a) (.int b) (.int (a + b)) := fun g s v₁ v₂ f r₁ r₂ => by cases r₁; cases r₂; exact add_int ⟨g, Gr.tok f.sub _, .int _ _⟩
theorem Bin.sub : Bin C .Sub (.int a) (.int b) (.int (a - b)) := fun g s v₁ v₂ f r₁ r₂ => by cases r₁; cases r₂; exact sub_int ⟨g, Gr.tok f.sub _, .int _ _⟩
theorem Bin.mod (hb : b ≠ 0) : Bin C .Mod (.int a) (.int b) (.int (a.fmod b)) := fun g s v₁ v₂ f r₁ r₂ => by cases r₁; cases r₂; exact mod_int' hb ⟨g, Gr.tok f.sub _, .int _ _⟩
theorem Cmp.eq : Cmp C .Eq (.int a) (.int b) (.bool (decide (a = b))) := fun g s v₁ v₂ f r₁ r₂ => by
  cases r₁; cases r₂; exact eq_int (by rw [show (a == b) = decide (a = b) from by by_cases h : a = b <;> simp [h]]; exact ⟨g, Gr.refl f.sub, .bool _⟩)
theorem Cmp.lt : Cmp C .Lt (.int a) (.int b) (.bool (decide (a < b))) := fun g s v₁ v₂ f r₁ r₂ => by cases r₁; cases r₂; exact lt_int ⟨g, Gr.refl f.sub, .bool _⟩
theorem Cmp.gt : Cmp C .Gt (.int a) (.int b) (.bool (decide (b < a))) := fun g s v₁ v₂ f r₁ r₂ => by cases r₁; cases r₂; exact gt_int ⟨g, Gr.refl f.sub, .bool _⟩
theorem Cmp.ge : Cmp C .GtE (.int a) (.int b) (.bool (decide (b ≤ a))) := fun g s v₁ v₂ f r₁ r₂ => by cases r₁; cases r₂; exact ge_int ⟨g, Gr.refl f.sub, .bool _⟩
theorem Cmp.eqStr : Cmp C .Eq (.str x) (.str y) (.bool (decide (x = y))) := fun g s v₁ v₂ f r₁ r₂ => by
  cases r₁; cases r₂; exact eq_str (by rw [show (x == y) = decide (x = y) from by by_cases h : x = y <;> simp [h]]; exact ⟨g, Gr.refl f.sub, .bool _⟩)
theorem Cmp.neStr : Cmp C .NotEq (.str x) (.str y) (.bool (decide (x ≠ y))) := fun g s v₁ v₂ f r₁ r₂ => by
  cases r₁; cases r₂; exact ne_str (by rw [show (x != y) = decide (x ≠ y) from by by_cases h : x = y <;> simp [h]]; exact ⟨g, Gr.refl f.sub, .bool _⟩)
end
theorem Tr.and {x : Expr} {xs : List Expr} {b c : Bool} (h₁ : Tr C vars own x b) (h₂ : b = true → Tr C vars own (.BoolOp .And xs pos) c) : Tr C vars own (.BoolOp .And (x :: xs) pos) (b && c) := fun g s hs => by
  refine isTrue_and (h₁.run hs fun g₁ s₁ x₁ a₁ => ?_)
  cases b with
  | true =>
    rw [if_pos rfl]
    refine wmono (h₂ rfl g₁ s₁ a₁) fun r s' ⟨g', x, q⟩ => ⟨g', x₁.trans x, by rw [q]; rfl⟩
  | false => rw [if_neg (by simp)]; exact ⟨g₁, x₁, rfl⟩
theorem Tr.and0 : Tr C vars own (.BoolOp .And [] pos) true := fun g s hs => isTrue_and_nil ⟨g, Gr.refl hs.sub, rfl⟩
theorem Tr.not {x : Expr} {b : Bool} (h₁ : Tr C vars own x b) : Tr C vars own (.UnaryOp .Not x pos) (!b) := fun g s hs =>
  isTrue_not (h₁.run hs fun g₁ s₁ x₁ a₁ => ⟨g₁, x₁, rfl⟩)
end
end Mine
end
section
open PySem PySem.W PyProof.Rows PySem.Calls
set_option Elab.async false
set_option linter.unusedVariables false
namespace Mine
noncomputable def hide (as : List Addr) (h : Heap) : Heap := ⟨h.objs.mapIdx fun i o => if as.contains i then { o with data := .freed } else o, h.life⟩
theorem get?_hide {as : List Addr} {h : Heap} {a : Addr} : (hide as h).get? a = if as.contains a then none else h.get? a := by
  by_cases c : as.contains a = true
  · rw [if_pos c]
    refine get?_freed fun o e => ?_
    simp only [hide, Array.getElem?_mapIdx, Option.map_eq_some_iff] at e
    obtain ⟨o', _, e⟩ := e
    rw [if_pos c] at e
    rw [← e]
  · rw [if_neg c]
    unfold Heap.get?
    simp only [hide, Array.getElem?_mapIdx]
    cases e : h.objs[a]? with
    | none => rfl
    | some o => simp only [Option.map_some, if_neg c]
theorem hide_ext {as : List Addr} {h : Heap} : Ext (hide as h) h := fun a o e => by
  rw [get?_hide] at e
  split at e
  · cases e
  · exact e
structure Sub (C C' : Cc) : Prop where
  at2 : ∀ {vars own g s}, At2 C' vars own g s → At2 C vars own g s
  gr : ∀ {g s}, Gr C'.gb C'.s₀ g s → Gr C.gb C.s₀ g s
theorem Sub.ret {C C' : Cc} (x : Sub C C') {Q : Flow → Shared → Prop} {d : D} (r : Ret C Q d) : Ret C' Q d := fun g s v h q => r g s v (x.gr h) q
section
variable {C : Cc} {vars vars' : DVars} {own own' : DOwn} {g g' : Heap} {s s' : Shared}
noncomputable abbrev reb (C : Cc) (own : DOwn) (g : Heap) (s : Shared) : Shared := { s with heap := hide (C.env.locals :: own.map (·.1)) s.heap }
theorem At2.mem_as (x : At2 C vars own g s) {a : Addr} (h : (C.env.locals :: own.map (·.1)).contains a = true) : C.s₀.heap.get? a = none ∧ g.get? a = none := by
  have h' : a ∈ C.env.locals :: own.map (·.1) := by simpa using h
  rcases List.mem_cons.mp h' with rfl | h'
  · exact x.frn
  · obtain ⟨p, hp, rfl⟩ := List.mem_map.mp h'
    obtain ⟨_, _, h1, h2⟩ := x.news p hp
    exact ⟨h1, h2⟩
theorem At2.reb (x : At2 C vars own g s) : At2 { C with s₀ := Mine.reb C own g s, gb := g } vars own g s := by
  refine ⟨⟨⟨s.heap, s.toks, rfl, hide_ext⟩, fun _ _ e => e, x.sub, fun _ _ e => .inl e⟩, x.cxg, x.fr, ⟨?_, x.frn.2⟩, fun p hp => ?_, x.mono, x.nodup, fun p hp => ?_⟩
  · show (hide _ s.heap).get? _ = none
    rw [get?_hide, if_pos (by simp)]
  · obtain ⟨h1, h2, h3, h4⟩ := x.news p hp
    refine ⟨h1, h2, ?_, h4⟩
    show (hide _ s.heap).get? _ = none
    rw [get?_hide, if_pos]
    simp only [List.contains_eq_mem, decide_eq_true_eq]
    exact .tail _ (List.mem_map_of_mem hp)
  · obtain ⟨⟨o, e, q⟩, m⟩ := x.ro p hp
    refine ⟨⟨o, ?_, m _ _ _ x.gr.ext q⟩, m⟩
    show (hide _ s.heap).get? _ = some o
    rw [get?_hide, if_neg]
    · exact keepsExt x.gr.keeps _ _ e
    · intro h
      exact live_ne (x.mem_as h).1 e
theorem At2.subC (x : At2 C vars own g s) : Sub C { C with s₀ := Mine.reb C own g s, gb := g } := by
  have old : ∀ a o, C.s₀.heap.get? a = some o → (hide (C.env.locals :: own.map (·.1)) s.heap).get? a = some o := fun a o e => by
    rw [get?_hide, if_neg]
    · exact keepsExt x.gr.keeps _ _ e
    · intro h
      exact live_ne (x.mem_as h).1 e
  have non : ∀ a, (hide (C.env.locals :: own.map (·.1)) s.heap).get? a = none → C.s₀.heap.get? a = none := fun a h => by
    cases q : C.s₀.heap.get? a with
    | none => rfl
    | some o => rw [old a o q] at h; cases h
  have gr : ∀ {g' s'}, Gr g (Mine.reb C own g s) g' s' → Gr C.gb C.s₀ g' s' := fun {g' s'} y => by
    refine ⟨keepsOf (fun a o e => keepsExt y.keeps a o (old a o e)) (Rest.trans (keepsRest x.gr.keeps) (keepsRest (a := Mine.reb C own g s) y.keeps)), Ext.trans x.gr.ext y.ext, y.sub, fun a o e => ?_⟩
    rcases y.new a o e with h | h
    · exact x.gr.new a o h
    · exact .inr (non a h)
  refine ⟨fun {vars' own' g' s'} y => ⟨gr y.gr, x.cx, y.fr, ⟨x.frn.1, y.frn.2⟩, fun p hp => ?_, y.mono, y.nodup, x.ro⟩, gr⟩
  obtain ⟨h1, h2, h3, h4⟩ := y.news p hp
  exact ⟨h1, h2, non _ h3, h4⟩
end
noncomputable def Asg (C : Cc) (vars : DVars) (own : DOwn) (t : Expr) (d : D) (vars' : DVars) (own' : DOwn) : Prop := ∀ g s v, At2 C vars own g s → Rep g v d → wpAny (model C.prog C.w) C.A (assign t C.env v) (fun _ s' => ∃ g', Ext g g' ∧ At2 C vars' own' g' s') Ff s
noncomputable def AsgAll (C : Cc) (vars : DVars) (own : DOwn) (ts : List (Value → Sem Unit)) (ds : List D) (vars' : DVars) (own' : DOwn) : Prop := ∀ g s vs, At2 C vars own g s → Reps g vs ds → wpAny (model C.prog C.w) C.A (assignInOrder ts vs) (fun _ s' => ∃ g', Ext g g' ∧ At2 C vars' own' g' s') Ff s
section
variable {C : Cc} {vars vars' vars'' : DVars} {own own' own'' : DOwn} {Q : Flow → Shared → Prop} {d d₁ d₂ : D} {rest : List Stmt} {e l r : Expr} {pos : Pos} {x : PySem.Str}
noncomputable def Sto (C : Cc) (vars : DVars) (own : DOwn) (x : PySem.Str) (d : D) (vars' : DVars) (own' : DOwn) : Prop := ∀ g s v, At2 C vars own g s → Rep g v d → wpAny (model C.prog C.w) C.A (storeName C.env x v) (fun _ s' => ∃ g', Ext g g' ∧ At2 C vars' own' g' s') Ff s
theorem Sto.local_ (hd : DDrop x vars vars') (hk : (C.env.scope.kind == .function) = true) (hl : C.env.kindOf x = some .local) : Sto C vars own x d ((x, d) :: vars') own := fun g s v hs hr => by
  obtain ⟨m, F, hm⟩ := hs.fr
  have hk' : C.env.scope.kind = .function := by simpa using hk
  exact wpAny_storeName_local hl F (fun h' hn sb => ⟨g, fun _ _ e => e, hs.store hd hm hn sb hr⟩) (by rw [hk']; rfl)
noncomputable def CelAny : Heap → Obj → Prop := fun g o => ∃ v, o.data = .cell v
theorem Sto.cell {c : Addr} {P : Heap → Obj → Prop} (hc : C.env.cells.lookup x = some c) (hm : (c, P) ∈ own) (hP : ∀ g o, P g o → ∃ v, o.data = .cell v) (u : DPut c (CelD d) own own') (hk : (C.env.scope.kind == .function) = true) (hl : C.env.kindOf x = some .cell) : Sto C vars own x d vars own' := fun g s v hs hr => by
  obtain ⟨⟨o, e, q⟩, _⟩ := hs.news _ hm
  obtain ⟨v0, q⟩ := hP _ _ q
  refine wpAny_storeName_cell (by simpa using hk) hl hc ⟨o, e, q⟩ fun h' hv sb => ⟨g, fun _ _ e => e, ?_⟩
  obtain ⟨o', e', q'⟩ := hv
  exact hs.put u (fun b o hb e => (sb.2 b hb).trans e) ⟨o', e', v, q', hr⟩ CelD.mono
theorem Cel0.any : ∀ g o, Cel0 g o → ∃ v, o.data = .cell v := fun _ _ e => ⟨_, e⟩
theorem Asg.name (h : Sto C vars own x d vars' own') : Asg C vars own (.Name x pos) d vars' own' := fun g s v hs hr => wpAny_assign_Name (h g s v hs hr)
theorem AsgAll.nil : AsgAll C vars own [] [] vars own := fun g s vs hs hr => by cases hr; exact assignInOrder_nil ⟨g, fun _ _ e => e, hs⟩
theorem AsgAll.cons {t : Value → Sem Unit} {ts : List (Value → Sem Unit)} {ds : List D} (h : ∀ g s v, At2 C vars own g s → Rep g v d → wpAny (model C.prog C.w) C.A (t v) (fun _ s' => ∃ g', Ext g g' ∧ At2 C vars' own' g' s') Ff s) (k : AsgAll C vars' own' ts ds vars'' own'') : AsgAll C vars own (t :: ts) (d :: ds) vars'' own'' := fun g s vs hs hr => by
  cases hr using Reps.eCons with
  | cons r rs =>
    exact wpAny_assignInOrder_more (wmono (h g s _ hs r) fun _ s' ⟨g', x, a⟩ => wmono (k g' s' _ a (rs.ext x)) fun _ s'' ⟨g'', x', a'⟩ => ⟨g'', Ext.trans x x', a'⟩)
theorem AsgAll.name {p : Pos} {ts : List (Value → Sem Unit)} {ds : List D} (h : Sto C vars own x d vars' own') (k : AsgAll C vars' own' ts ds vars'' own'') : AsgAll C vars own (assign (.Name x p) C.env :: ts) (d :: ds) vars'' own'' := AsgAll.cons (Asg.name h) k
theorem AsgAll.bind {ts : List (Value → Sem Unit)} {ds : List D} (h : Sto C vars own x d vars' own') (k : AsgAll C vars' own' ts ds vars'' own'') : AsgAll C vars own (bindName C.env x :: ts) (d :: ds) vars'' own'' := AsgAll.cons (fun g s v hs hr => wpAny_bindName (h g s v hs hr)) k
theorem extNew {h h' : Heap} (k : Heap.ExtBut h.objs.size h h') : Ext h h' := fun b o e => k b o (Nat.ne_of_lt (Heap.lt_size e)) e
theorem Asg.tup {elts : List Expr} {kk : Nat} {ds : List D} {ts : List (Value → Sem Unit)} (hh : C.A.handled = none) (h1 : (assignEach elts C.env).map (·.2) = ts) (h2 : (assignEach elts C.env).findIdx? (·.1) = none) (h3 : (assignEach elts C.env).length = ds.length) (k : AsgAll C vars own ts ds vars' own') : Asg C vars own (.Tuple elts kk pos) (.tup ds) vars' own' := fun g s v hs hr => by
  cases hr using Rep.eTup with
  | @tup a vs p r =>
    have ht := (p.ext hs.sub).isTup
    refine assign_Tuple_tuple hh ht (by rw [h3, ← r.length]; simp) h2 fun h' hx => ?_
    rw [h1]
    have y : Gr g s g { s with heap := h' } := Gr.same hs.sub ⟨h', s.toks, rfl, extNew hx⟩
    exact k g _ _ (hs.grow y) (by simpa using r)
theorem Ex.cons {st : Stmt} (k : Ex2 C vars own st rest Q) : Ex C vars own (st :: rest) Q := fun g s hs => wpAny_execs_cons (wmono (k g s hs) fun f s' h => by cases f <;> exact h)
theorem Ex.nil (k : At2K C vars own (Q .next)) : Ex C vars own [] Q := fun g s hs => wpAny_execs_nil (k g s hs)
theorem Ex.step {b : List Stmt} {n : Nat} {st : Stmt} (e : b.drop n = stAt b n :: b.drop (n + 1)) (e2 : stAt b n = st) (k : Ex2 C vars own st (b.drop (n + 1)) Q) : Ex C vars own (b.drop n) Q := by
  subst e2
  show ∀ g s, _ → wpAny _ _ (execs (b.drop n) _) _ _ _
  rw [e]
  exact Ex.cons k
theorem Ex.body {b : List Stmt} (k : Ex C vars own (b.drop 0) Q) : Ex C vars own b Q := k
theorem Ex.end_ {b : List Stmt} {n : Nat} (e : b.drop n = []) (k : At2K C vars own (Q .next)) : Ex C vars own (b.drop n) Q := by
  rw [show Ex C vars own (b.drop n) Q = Ex C vars own [] Q by rw [e]]
  exact Ex.nil k
theorem K.cont (k : Ex C vars own rest Q) : At2K C vars own (ContC C rest Q .next) := k
theorem Ex.weak (hv : ∀ p ∈ vars', p ∈ vars) (k : Ex C vars' own rest Q) : Ex C vars own rest Q := fun g s hs => k g s (hs.forget hv)
theorem Ret.cont (k : Ret C Q d) : Ret C (ContC C rest Q) d := k
theorem Ret.fin : Ret C (Fin C d) d := fun g s v x r => ⟨g, x, r⟩
theorem x_asgN {p' : Pos} {value : Expr} (hv : Ev C vars own value d) (hsto : Sto C vars own x d vars' own') (k : Ex C vars' own' rest Q) (hsw : swapsWith value (some (.Name x p')) pos.line C.env = pure false) :
    Ex2 C vars own (.Assign [.Name x p'] value pos) rest Q := fun g s hs =>
  wpAny_Assign_Name (hv.run hs fun v g₁ s₁ x₁ a₁ r₁ => wmono (hsto g₁ s₁ v a₁ r₁) fun _ s₂ ⟨g₂, x₂, a₂⟩ => k g₂ s₂ a₂) hsw
theorem x_asgT {elts : List Expr} {kk : Nat} {tpos : Pos} {value : Expr} (hv : Ev C vars own value d) (ha : Asg C vars own (.Tuple elts kk tpos) d vars' own') (k : Ex C vars' own' rest Q) (h1 : swapsWithSole [.Tuple elts kk tpos] value pos.line C.env = pure false) (h2 : swappedStores [.Tuple elts kk tpos] value C.env = pure none) :
    Ex2 C vars own (.Assign [.Tuple elts kk tpos] value pos) rest Q := fun g s hs =>
  Assign_Tuple (hv.run hs fun v g₁ s₁ x₁ a₁ r₁ => wmono (ha g₁ s₁ v a₁ r₁) fun _ s₂ ⟨g₂, x₂, a₂⟩ => k g₂ s₂ a₂) h1 h2
theorem x_asgW {elts : List Expr} {kk : Nat} {tpos : Pos} {value : Expr} {names : List PySem.Str} {ds : List D} (hh : C.A.handled = none) (h1 : swapsWithSole [.Tuple elts kk tpos] value pos.line C.env = pure false) (h2 : swappedStores [.Tuple elts kk tpos] value C.env = pure (some names)) (hn : names.length = ds.length)
    (hv : Ev C vars own value (.tup ds)) (ha : AsgAll C vars own (names.reverse.map fun n => bindName C.env n) ds.reverse vars' own') (k : Ex C vars' own' rest Q) :
    Ex2 C vars own (.Assign [.Tuple elts kk tpos] value pos) rest Q := fun g s hs =>
  Assign_Tuple_swapped (hv.run hs fun v g₁ s₁ x₁ a₁ r₁ => by
    cases r₁ using Rep.eTup with
    | @tup a vs p r =>
      have ht := (p.ext a₁.sub).isTup
      have := unpackItems_tuple (prog := C.prog) (w := C.w) (A := C.A) (E := Ff) (Q := fun items s₂ => wpAny (model C.prog C.w) C.A (assignInOrder (names.reverse.map fun n => bindName C.env n) items.reverse) (fun _ => ContC C rest Q .next) Ff s₂) hh ht
      simp only [List.size_toArray] at this
      rw [hn, ← r.length]
      refine this fun h' hx => ?_
      have y : Gr g₁ s₁ g₁ { s₁ with heap := h' } := Gr.same a₁.sub ⟨h', s₁.toks, rfl, extNew hx⟩
      exact wmono (ha g₁ _ _ (a₁.grow y) (by simpa using r.reverse)) fun _ s₂ ⟨g₂, x₂, a₂⟩ => k g₂ s₂ a₂) h1 h2
noncomputable def Inp (C : Cc) (op : Operator) (d₁ d₂ d : D) : Prop := ∀ g s v₁ v₂, Fz C.K g s → Rep g v₁ d₁ → Rep g v₂ d₂ → wpAny (model C.prog C.w) C.A (inplaceOp op v₁ v₂) (Gives d g s) Ff s
theorem Inp.add {a b : Int} : Inp C .Add (.int a) (.int b) (.int (a + b)) := fun g s v₁ v₂ f r₁ r₂ => by cases r₁; cases r₂; exact iadd_int ⟨g, Gr.tok f.sub _, .int _ _⟩
theorem x_aug {p' : Pos} {op : Operator} {value : Expr} (hm : (x, d₁) ∈ vars) (hk : (C.env.scope.kind == .function) = true) (hl : C.env.kindOf x = some .local) (hv : Ev C vars own value d₂) (o : Inp C op d₁ d₂ d) (hsto : Sto C vars own x d vars' own') (k : Ex C vars' own' rest Q) :
    Ex2 C vars own (.AugAssign (.Name x p') op value pos) rest Q := fun g s hs => by
  obtain ⟨m, F, hv'⟩ := hs.fr
  obtain ⟨v, e, r⟩ := hv' _ hm
  exact wpAny_AugAssign_Name (wpAny_loadName_local (by simpa using hk) hl F e (hv.run hs fun v₂ g₁ s₁ x₁ a₁ r₁ => wmono (o g₁ s₁ _ _ a₁.fz (r.ext x₁.ext) r₁) fun v₃ s₃ ⟨g₃, x₃, r₃⟩ =>
    wmono (hsto g₃ s₃ v₃ (a₁.grow x₃) r₃) fun _ s₂ ⟨g₂, x₂, a₂⟩ => k g₂ s₂ a₂))
theorem x_if {test : Expr} {body orelse : List Stmt} {b : Bool} (ht : Tr C vars own test b) (k1 : b = true → Ex C vars own body (ContC C rest Q)) (k2 : b = false → Ex C vars own orelse (ContC C rest Q)) :
    Ex2 C vars own (.If test body orelse pos) rest Q := fun g s hs => wpAny_If (ht.run hs fun g₁ s₁ x₁ a₁ => by
  cases b with
  | true => rw [if_pos rfl]; exact k1 rfl g₁ s₁ a₁
  | false => rw [if_neg (by simp)]; exact k2 rfl g₁ s₁ a₁)
theorem x_ret {e : Expr} (hv : Ev C vars own e d) (k : Ret C Q d) : Ex2 C vars own (.Return (some e) pos) rest Q := fun g s hs => wpAny_Return_some (hv.run hs fun v g₁ s₁ x₁ a₁ r₁ => k g₁ s₁ v a₁.gr r₁)
theorem x_cont (k : At2K C vars own (Q .cont)) : Ex2 C vars own (.Continue pos) rest Q := fun g s hs => wpAny_Continue (k g s hs)
theorem x_brk (k : At2K C vars own (Q .brk)) : Ex2 C vars own (.Break pos) rest Q := fun g s hs => wpAny_Break (k g s hs)
theorem x_doc {y : PySem.Str} {kk : Nat} {p : Pos} (hi : interactive C.env = false) (hw : swapsWith (.Constant (.str y) kk p) none pos.line C.env = pure false) (k : Ex C vars own rest Q) : Ex2 C vars own (.Expr (.Constant (.str y) kk p) pos) rest Q := fun g s hs =>
  wpAny_Expr (wpAny_Constant_str (k g _ (hs.grow (Gr.tok hs.sub _)))) hi hw
noncomputable def ToSt (C : Cc) (vars : DVars) (own : DOwn) : Flow → Shared → Prop := fun f s => f = .next ∧ ∃ g, At2 C vars own g s
end
end Mine
end
section
open PySem PySem.W PyProof.Rows PySem.Calls
set_option Elab.async false
set_option linter.unusedVariables false
namespace Mine
structure ItOk (C : Cc) (ds : List D) (g : Heap) (s : Shared) (g₂ : Heap) (s₂ : Shared) (I : Addr) (fp wr : List Addr) (P : Nat → Value → Prop) (St : Nat → Heap → Prop) : Prop where
  W : Walks C.prog C.w C.A I fp wr ds.length P St
  gr : Gr g s g₂ s₂
  item : ∀ i v d, ds[i]? = some d → P i v → Rep g₂ v d
  st : St 0 s₂.heap
  fpn : ∀ b ∈ fp, (∃ o, g₂.get? b = some o) ∨ s.heap.get? b = none
  fpl : ∀ b ∈ fp, ∃ o, s₂.heap.get? b = some o
  wrn : ∀ b ∈ wr, g₂.get? b = none ∧ s.heap.get? b = none
  live : ∀ i h, St i h → ∀ b ∈ wr, ∃ o, h.get? b = some o
  go : ∀ target i s' v (Q' : Unit → Shared → Prop), St i s'.heap → Q' () s' → wpAny (model C.prog C.w) C.A (letOwnedTupleGo target (.ref I) v) Q' Ff s'
noncomputable def EvIt (C : Cc) (vars : DVars) (own : DOwn) (e : Expr) (ds : List D) : Prop := ∀ g s, At2 C vars own g s → wpAny (model C.prog C.w) C.A (eval e C.env) (fun v s₁ => wpAny (model C.prog C.w) C.A (pyIter v) (fun it s₂ => ∃ g₂ I fp wr P St, it = .ref I ∧ ItOk C ds g s g₂ s₂ I fp wr P St) Ff s₁) Ff s
noncomputable def TurnD {σ : Type} (C : Cc) (vars : σ → DVars) (own : σ → DOwn) (F : σ → Prop) (Q : Flow → Shared → Prop) : Flow → Shared → Prop := fun f s => match f with
  | .next | .cont => ∃ z g, F z ∧ At2 C (vars z) (own z) g s
  | .brk => Q .next s
  | .ret v => Q (.ret v) s
inductive DW : DOwn → DOwn → Prop
  | nil {l} : DW l []
  | same {p l l'} : DW l l' → DW (p :: l) (p :: l')
  | cell {c d l l'} : DW l l' → DW ((c, CelD d) :: l) ((c, CelAny) :: l')
  | cell0 {c l l'} : DW l l' → DW ((c, Cel0) :: l) ((c, CelAny) :: l')
  | drop {p l l'} : DW l l' → DW (p :: l) l'
theorem DW.names {l l' : DOwn} (h : DW l l') : (l'.map (·.1)).Sublist (l.map (·.1)) := by
  induction h with
  | nil => exact List.nil_sublist _
  | same _ ih => exact ih.cons_cons _
  | cell _ ih => exact ih.cons_cons _
  | cell0 _ ih => exact ih.cons_cons _
  | drop _ ih => exact List.Sublist.cons _ ih
theorem DW.ok {l l' : DOwn} (h : DW l l') : (∀ p ∈ l, ∀ g g' o, Ext g g' → p.2 g o → p.2 g' o) → ∀ p ∈ l', (∃ P, (p.1, P) ∈ l ∧ ∀ g o, P g o → p.2 g o) ∧ ∀ g g' o, Ext g g' → p.2 g o → p.2 g' o := by
  induction h with
  | nil => intro _ p hp; cases hp
  | same _ ih =>
    intro hm p hp
    rcases List.mem_cons.mp hp with rfl | hp
    · exact ⟨⟨_, .head _, fun _ _ h => h⟩, hm _ (.head _)⟩
    · obtain ⟨⟨P, h1, h2⟩, h3⟩ := ih (fun q hq => hm q (.tail _ hq)) p hp
      exact ⟨⟨P, .tail _ h1, h2⟩, h3⟩
  | cell _ ih =>
    intro hm p hp
    rcases List.mem_cons.mp hp with rfl | hp
    · exact ⟨⟨_, .head _, fun _ _ ⟨v, e, _⟩ => ⟨_, e⟩⟩, fun _ _ _ _ e => e⟩
    · obtain ⟨⟨P, h1, h2⟩, h3⟩ := ih (fun q hq => hm q (.tail _ hq)) p hp
      exact ⟨⟨P, .tail _ h1, h2⟩, h3⟩
  | cell0 _ ih =>
    intro hm p hp
    rcases List.mem_cons.mp hp with rfl | hp
    · exact ⟨⟨_, .head _, fun _ _ e => ⟨_, e⟩⟩, fun _ _ _ _ e => e⟩
    · obtain ⟨⟨P, h1, h2⟩, h3⟩ := ih (fun q hq => hm q (.tail _ hq)) p hp
      exact ⟨⟨P, .tail _ h1, h2⟩, h3⟩
  | drop _ ih =>
    intro hm p hp
    obtain ⟨⟨P, h1, h2⟩, h3⟩ := ih (fun q hq => hm q (.tail _ hq)) p hp
    exact ⟨⟨P, .tail _ h1, h2⟩, h3⟩
theorem At2.weak {C : Cc} {vars : DVars} {own own' : DOwn} {g : Heap} {s : Shared} (x : At2 C vars own g s) (h : DW own own') : At2 C vars own' g s := by
  refine ⟨x.gr, x.cx, x.fr, x.frn, fun p hp => ?_, fun p hp => (h.ok x.mono p hp).2, h.names.nodup x.nodup, x.ro⟩
  obtain ⟨⟨P, h1, h2⟩, _⟩ := h.ok x.mono p hp
  obtain ⟨⟨o, e, q⟩, r⟩ := x.news _ h1
  exact ⟨⟨o, e, h2 _ _ q⟩, r⟩
noncomputable def Turn1 (C : Cc) (vars : DVars) (own : DOwn) (t : Expr) (d : D) (body : List Stmt) (Q : Flow → Shared → Prop) : Prop := ∃ tv to, Asg C vars own t d tv to ∧ Ex C tv to body Q
section
variable {C : Cc} {vars vars' vars'' : DVars} {own own' own'' : DOwn} {Q : Flow → Shared → Prop} {d d₁ d₂ : D} {rest : List Stmt} {e l r : Expr} {pos : Pos} {x : PySem.Str}
theorem Turn1.mk {t : Expr} {body : List Stmt} (h : Asg C vars own t d vars' own') (k : Ex C vars' own' body Q) : Turn1 C vars own t d body Q := ⟨vars', own', h, k⟩
theorem At2.hid {g : Heap} {s : Shared} {h' : Heap} {t : Nat} {wr : List Addr} (x : At2 C vars own g s) (k : ∀ b o, b ∉ wr → s.heap.get? b = some o → h'.get? b = some o) (h0 : ∀ b ∈ wr, C.s₀.heap.get? b = none ∧ g.get? b = none ∧ b ≠ C.env.locals ∧ b ∉ own.map (·.1)) :
    At2 C vars own g { s with heap := h', toks := t } := by
  refine ⟨⟨keepsOf (fun b o e => k b o (fun q => live_ne (h0 b q).1 e) (keepsExt x.gr.keeps b o e)) (Rest.trans (keepsRest x.gr.keeps) ⟨rfl, rfl, rfl⟩), x.gr.ext, fun b o e => k b o (fun q => live_ne (h0 b q).2.1 e) (x.sub b o e), x.gr.new⟩, x.cx, ?_, x.frn, fun p hp => ?_, x.mono, x.nodup, x.ro⟩
  · obtain ⟨m, F, hm⟩ := x.fr
    exact ⟨m, F.at' fun o e => k _ _ (fun q => (h0 _ q).2.2.1 rfl) e, hm⟩
  · obtain ⟨⟨o, e, q⟩, r⟩ := x.news p hp
    exact ⟨⟨o, k _ _ (fun q => (h0 _ q).2.2.2 (List.mem_map_of_mem hp)) e, q⟩, r⟩
theorem x_forG {σ : Type} {target iter : Expr} {body : List Stmt} {ds : List D} (hit : EvIt C vars own iter ds) (vs : Nat → σ → DVars) (os : Nat → σ → DOwn) (F : Nat → σ → Prop) (z₀ : σ)
    (h0 : F 0 z₀) (hv : ∀ p ∈ vs 0 z₀, p ∈ vars) (ho : DW own (os 0 z₀))
    (turn : ∀ s₀ gb, Sub C { C with s₀ := s₀, gb := gb } → ∀ i z d, ds[i]? = some d → F i z → Turn1 { C with s₀ := s₀, gb := gb } (vs i z) (os i z) target d body (TurnD { C with s₀ := s₀, gb := gb } (vs (i + 1)) (os (i + 1)) (F (i + 1)) (ContC C rest Q)))
    (k : ∀ z, F ds.length z → Ex C (vs ds.length z) (os ds.length z) rest Q) (hf : ∀ x, foldedSetIterable iter C.env x = pure x) :
    Ex2 C vars own (.For target iter body [] pos) rest Q := fun g s hs => by
  refine wpAny_For (wmono (hit g s hs) fun v s₁ h₁ => wmono h₁ fun it s₂ h₂ => ?_) hf
  obtain ⟨g₂, I, fp, wr, P, St, rfl, X⟩ := h₂
  have hs₁ := hs.weak ho
  have hs₂ : At2 C (vs 0 z₀) (os 0 z₀) g₂ s₂ := (hs₁.grow X.gr).forget hv
  have wr0 : ∀ b ∈ wr, C.s₀.heap.get? b = none := fun b hb => by
    cases q : C.s₀.heap.get? b with
    | none => rfl
    | some o => exact (live_ne (X.wrn b hb).2 (keepsExt hs.gr.keeps _ _ q)).elim
  have fp0 : ∀ b ∈ fp, b ≠ C.env.locals ∧ b ∉ (os 0 z₀).map (·.1) := fun b hb => by
    constructor
    · intro q
      rcases X.fpn b hb with ⟨o, e⟩ | h
      · rw [q] at e; exact live_ne hs₂.frn.2 e
      · obtain ⟨o, e⟩ := hs.L_live
        rw [q] at h; exact live_ne h e
    · intro q
      obtain ⟨p, hp, rfl⟩ := List.mem_map.mp q
      rcases X.fpn p.1 hb with ⟨o, e⟩ | h
      · exact live_ne (hs₂.news p hp).2.2.2 e
      · obtain ⟨⟨o, e, _⟩, _⟩ := hs₁.news p hp
        exact live_ne h e
  refine codeAny_forLoop_any (fun k s' => ∃ i z g', k = ds.length - i ∧ i ≤ ds.length ∧ F i z ∧ At2 C (vs i z) (os i z) g' s' ∧ Ext g₂ g' ∧ St i s'.heap ∧ (∀ b ∈ fp, b ≠ C.env.locals ∧ b ∉ (os i z).map (·.1) ∧ ∃ o, s'.heap.get? b = some o) ∧ ∀ b ∈ wr, g'.get? b = none) ?_ ds.length
    ⟨0, z₀, g₂, rfl, Nat.zero_le _, h0, hs₂, fun _ _ e => e, X.st, fun b hb => ⟨(fp0 b hb).1, (fp0 b hb).2, X.fpl b hb⟩, fun b hb => (X.wrn b hb).1⟩
  rintro k s' ⟨i, z, g', rfl, hi, hF, hs', he, hst, hfp, hwr⟩
  have hwr' : ∀ b ∈ wr, C.s₀.heap.get? b = none ∧ g'.get? b = none ∧ b ≠ C.env.locals ∧ b ∉ (os i z).map (·.1) := fun b hb => ⟨wr0 b hb, hwr b hb, (hfp b (X.W.sub b hb)).1, (hfp b (X.W.sub b hb)).2.1⟩
  by_cases hlt : i < ds.length
  · refine ff (X.W.item i s' _ Ff hlt hst fun v h' tk hv hst' hk' => ?_)
    refine ff (X.go _ _ _ _ _ hst' ?_)
    have a₁ : At2 C (vs i z) (os i z) g' { s' with heap := h', toks := tk } := hs'.hid hk' hwr'
    have hd : ds[i]? = some ds[i] := List.getElem?_eq_getElem hlt
    have hr : Rep g' v ds[i] := (X.item i v _ hd hv).ext he
    have hlive : ∀ b ∈ fp, ∃ o, h'.get? b = some o := fun b hb => by
      by_cases q : b ∈ wr
      · exact X.live _ _ hst' b q
      · obtain ⟨_, _, o, e⟩ := hfp b hb
        exact ⟨o, hk' b o q e⟩
    obtain ⟨tv, to, ha, hx⟩ := turn _ _ a₁.subC i z _ hd hF
    refine wmono (ha g' _ v a₁.reb hr) fun _ s₃ ⟨g₃, x₃, a₃⟩ => ?_
    refine wmono (hx g₃ s₃ a₃) fun f s₄ h₄ => ?_
    have fin : ∀ z' g₄, F (i + 1) z' → At2 { C with s₀ := Mine.reb C (os i z) g' { s' with heap := h', toks := tk }, gb := g' } (vs (i + 1) z') (os (i + 1) z') g₄ s₄ → ∃ m, m < ds.length - i ∧ ∃ i z g', m = ds.length - i ∧ i ≤ ds.length ∧ F i z ∧ At2 C (vs i z) (os i z) g' s₄ ∧ Ext g₂ g' ∧ St i s₄.heap ∧ (∀ b ∈ fp, b ≠ C.env.locals ∧ b ∉ (os i z).map (·.1) ∧ ∃ o, s₄.heap.get? b = some o) ∧ ∀ b ∈ wr, g'.get? b = none := fun z' g₄ hF' a₄ => by
      have lv : ∀ b ∈ fp, ∀ o, h'.get? b = some o → (Mine.reb C (os i z) g' { s' with heap := h', toks := tk }).heap.get? b = some o := fun b hb o e => by
        show (hide _ h').get? b = some o
        rw [get?_hide, if_neg]
        · exact e
        · intro q
          have q' : b ∈ C.env.locals :: (os i z).map (·.1) := by simpa using q
          rcases List.mem_cons.mp q' with q' | q'
          · exact (hfp b hb).1 q'
          · exact (hfp b hb).2.1 q'
      refine ⟨ds.length - (i + 1), by (first | lia | omega), i + 1, z', g₄, rfl, hlt, hF', a₁.subC.at2 a₄, Ext.trans he a₄.gr.ext, ?_, fun b hb => ?_, fun b hb => ?_⟩
      · exact X.W.frame _ _ _ hst' fun b hb o e => keepsExt a₄.gr.keeps _ _ (lv b hb o e)
      · obtain ⟨o, e⟩ := hlive b hb
        refine ⟨(hfp b hb).1, fun q => ?_, o, keepsExt a₄.gr.keeps _ _ (lv b hb o e)⟩
        obtain ⟨p, hp, rfl⟩ := List.mem_map.mp q
        exact live_ne (a₄.news p hp).2.2.1 (lv _ hb o e)
      · cases q : g₄.get? b with
        | none => rfl
        | some o =>
          rcases a₄.gr.new b o q with h | h
          · exact (live_ne (hwr b hb) h).elim
          · obtain ⟨o', e'⟩ := hlive b (X.W.sub b hb)
            exact (live_ne h (lv b (X.W.sub b hb) o' e')).elim
    cases f with
    | next => obtain ⟨z', g₄, hF', a₄⟩ := h₄; exact fin z' g₄ hF' a₄
    | cont => obtain ⟨z', g₄, hF', a₄⟩ := h₄; exact fin z' g₄ hF' a₄
    | brk => exact h₄
    | ret v => exact h₄
  · obtain rfl : i = ds.length := by (first | lia | omega)
    refine ff (X.W.done s' _ Ff hst fun h' tk hk' => ?_)
    refine wpAny_execs_nil ?_
    exact k z hF g' _ (hs'.hid hk' hwr')
theorem x_for {target iter : Expr} {body : List Stmt} {ds : List D} (hit : EvIt C vars own iter ds) (vs : Nat → DVars) (os : Nat → DOwn)
    (hv : ∀ p ∈ vs 0, p ∈ vars) (ho : DW own (os 0))
    (turn : ∀ s₀ gb, Sub C { C with s₀ := s₀, gb := gb } → ∀ i d, ds[i]? = some d → Turn1 { C with s₀ := s₀, gb := gb } (vs i) (os i) target d body (TurnD { C with s₀ := s₀, gb := gb } (fun _ : Unit => vs (i + 1)) (fun _ => os (i + 1)) (fun _ => True) (ContC C rest Q)))
    (k : Ex C (vs ds.length) (os ds.length) rest Q) (hf : ∀ x, foldedSetIterable iter C.env x = pure x) :
    Ex2 C vars own (.For target iter body [] pos) rest Q :=
  x_forG hit (fun i _ => vs i) (fun i _ => os i) (fun _ (_ : Unit) => True) () trivial hv ho (fun s₀ gb h i _ d hd _ => turn s₀ gb h i d hd) (fun _ _ => k) hf
theorem K.turn {σ : Type} {vs : σ → DVars} {os : σ → DOwn} {F : σ → Prop} (z : σ) (hF : F z) (hv : ∀ p ∈ vs z, p ∈ vars) (ho : DW own (os z)) : At2K C vars own (TurnD C vs os F Q .next) := fun g s hs => ⟨z, g, hF, (hs.forget hv).weak ho⟩
theorem K.turnC {σ : Type} {vs : σ → DVars} {os : σ → DOwn} {F : σ → Prop} (z : σ) (hF : F z) (hv : ∀ p ∈ vs z, p ∈ vars) (ho : DW own (os z)) : At2K C vars own (TurnD C vs os F Q .cont) := fun g s hs => ⟨z, g, hF, (hs.forget hv).weak ho⟩
theorem Ret.turn {σ : Type} {C' : Cc} {vs : σ → DVars} {os : σ → DOwn} {F : σ → Prop} (h : Sub C C') (k : Ret C Q d) : Ret C' (TurnD C' vs os F Q) d := h.ret k
theorem CelAny.any : ∀ g o, CelAny g o → ∃ v, o.data = .cell v := fun _ _ e => e
theorem Ex.weakO (ho : DW own own') (k : Ex C vars own' rest Q) : Ex C vars own rest Q := fun g s hs => k g s (hs.weak ho)
theorem K.brk {σ : Type} {C' : Cc} {vs : σ → DVars} {os : σ → DOwn} {F : σ → Prop} (h : Sub C C') (k : Ex C vars own rest Q) : At2K C' vars own (TurnD C' vs os F (ContC C rest Q) .brk) := fun g s hs => k g s (h.at2 hs)
end
end Mine
end
section
open PySem PySem.W PyProof.Rows PySem.Calls
set_option Elab.async false
set_option linter.unusedVariables false
namespace Mine
noncomputable def TrAll (C : Cc) (vars : DVars) (own : DOwn) (ifs : List Expr) (b : Bool) : Prop := ∀ g s, At2 C vars own g s → wpAny (model C.prog C.w) C.A (forIn ifs true fun c r => if r = true then do let ok ← PySem.isTrue c C.env (eval c C.env); pure (ForInStep.yield ok) else pure (ForInStep.yield r)) (fun r s' => ∃ g', Gr g s g' s' ∧ r = b) Ff s
section
variable {C : Cc} {vars vars' vars'' : DVars} {own own' own'' : DOwn} {Q : Flow → Shared → Prop} {d d₁ d₂ : D} {rest : List Stmt} {e l r : Expr} {pos : Pos} {x : PySem.Str}
theorem TrAll.nil : TrAll C vars own [] true := fun g s hs => wpAny_pure ⟨g, Gr.refl hs.sub, rfl⟩
theorem TrAll.one {c : Expr} {b : Bool} (h : Tr C vars own c b) : TrAll C vars own [c] b := fun g s hs => by
  rw [List.forIn_cons, if_pos rfl]
  refine wpAny_bind (wpAny_bind (h.run hs fun g₁ s₁ x₁ a₁ => ?_))
  refine wpAny_pure ?_
  exact wpAny_pure ⟨g₁, x₁, rfl⟩
noncomputable abbrev compEnvD (scope : Scope) (cl : List (PySem.Str × Addr)) (F : Addr) (env : Env) : Env := { scope := relabel scope env, locals := F, globals := env.globals, cells := cl, qual := env.qual, func := none, code := env.code, frame := env.frame, builtins := env.builtins }
noncomputable abbrev compC (C : Cc) (own : DOwn) (scope : Scope) (cl : List (PySem.Str × Addr)) (F : Addr) (s₀ : Shared) (gb : Heap) : Cc := { C with s₀ := s₀, gb := gb, env := compEnvD scope cl F C.env, ro := own ++ C.ro }
structure CompOk (C : Cc) (own : DOwn) {α : Type} (xs : List α) (ι : α → D) (x : PySem.Str) (ifs : List Expr) (elt : Expr) (scope : Scope) (cl : List (PySem.Str × Addr)) (p : α → Bool) (f : α → D) : Prop where
  tests : ∀ F s₀ gb a, a ∈ xs → TrAll (compC C own scope cl F s₀ gb) [(x, ι a)] [] ifs (p a)
  elt : ∀ F s₀ gb a, a ∈ xs → p a = true → Ev (compC C own scope cl F s₀ gb) [(x, ι a)] [] elt (f a)
theorem At2.inner {g g' : Heap} {s s' : Shared} {scope : Scope} {cl : List (PySem.Str × Addr)} {F : Addr} {m : PySem.Str → Option Value} (hs : At2 C vars own g s) (y : Gr g s g' s') (hF : s.heap.get? F = none) (hF' : g'.get? F = none) (hn : s'.heap.Ns F m) :
    At2 (compC C own scope cl F { s' with heap := hide [F] s'.heap } g') [] [] g' s' := by
  refine ⟨⟨⟨s'.heap, s'.toks, rfl, hide_ext⟩, fun _ _ e => e, y.sub, fun _ _ e => .inl e⟩, hs.cx.ext (Ext.trans hs.gr.ext y.ext), ⟨m, hn, fun p hp => (nomatch hp)⟩, ⟨?_, hF'⟩, fun p hp => (nomatch hp), fun p hp => (nomatch hp), List.nodup_nil, fun p hp => ?_⟩
  · show (hide [F] s'.heap).get? F = none
    rw [get?_hide, if_pos (by simp)]
  · have live : ∀ a o, s.heap.get? a = some o → (hide [F] s'.heap).get? a = some o := fun a o e => by
      rw [get?_hide, if_neg]
      · exact keepsExt y.keeps _ _ e
      · intro q
        have : a = F := by simpa using q
        rw [this] at e
        exact live_ne hF e
    have mono : ∀ g g' o, Ext g g' → p.2 g o → p.2 g' o := by
      rcases List.mem_append.mp hp with hp | hp
      · exact hs.mono p hp
      · exact (hs.ro p hp).2
    obtain ⟨o, e, q⟩ := hs.known (List.mem_append.mp hp)
    exact ⟨⟨o, live _ _ e, mono _ _ _ y.ext q⟩, mono⟩
theorem Gr.stay {g g' : Heap} {s s' : Shared} (y : Gr g s g' s') {a : Addr} {o : Obj} (hg : g.get? a = none) (hl : s.heap.get? a = some o) : g'.get? a = none := by
  cases q : g'.get? a with
  | none => rfl
  | some o' =>
    rcases y.new a o' q with h | h
    · exact (live_ne hg h).elim
    · exact (live_ne h hl).elim
theorem codeAny_compLoop_T {prog : Program} {w : World} {A : Around} {R : Result → Shared → Prop} {s : Shared} {elt target iter : Expr} {ifs : List Expr} {scope : Scope} {pos : Pos} {it acc : Value} {env : Env} (I : Nat → Shared → Prop)
    (turn : ∀ n s, I n s → wpAny (model prog w) A (pyNext it) (fun r s₁ => match r with
      | none => R (.ok .next) s₁
      | some v => wpAny (model prog w) A (letOwnedTupleGo target it v) (fun _ s₁ => wpAny (model prog w) A (assign target env v) (fun _ s₂ =>
          wpAny (model prog w) A (forIn ifs true fun c r => if r = true then do let ok ← PySem.isTrue c env (eval c env); pure (ForInStep.yield ok) else pure (ForInStep.yield r)) (fun ok s₃ =>
            if ok = true then wpAny (model prog w) A (eval elt env) (fun x s₄ =>
              wpAny (model prog w) A (call (.builtin "list.append") [acc, x]) (fun _ s₅ => ∃ m, m < n ∧ I m s₅) Ff s₄) Ff s₃
            else ∃ m, m < n ∧ I m s₃) Ff s₂) Ff s₁) Ff s₁) Ff s)
    (n : Nat) (h : I n s) : codeAny (model prog w) A (.compLoop (.ListComp elt [⟨target, iter, ifs, 0⟩] scope pos) 0 it acc env) R s := by
  refine codeAny_loop rfl I (fun n s hI => ?_) n h
  show wpAny _ A ((compTurn (.ListComp elt [⟨target, iter, ifs, 0⟩] scope pos) 0 it acc env).onRaise (fun x => do noteFrame x env; theTreesLotGoes x)) _ _ s
  refine wpAny_noted ?_
  rw [compTurn_list]
  refine wpAny_bind (wpAny_standAt (wpAny_bind (wmono (turn n s hI) fun r s₁ h₁ => ?_)))
  cases r with
  | none => exact wpAny_pure h₁
  | some v =>
    refine wpAny_bind (wmono h₁ fun _ s₁' h₁' => wpAny_bind (wmono h₁' fun _ s₂ h₂ => wpAny_bind (wmono h₂ fun ok s₃ h₃ => ?_)))
    cases ok with
    | false => exact wpAny_pure ⟨rfl, h₃⟩
    | true => exact wpAny_bind (wpAny_bind (wmono h₃ fun x s₄ h₄ => wpAny_bind (wmono h₄ fun _ s₅ h₅ => wpAny_pure (wpAny_pure ⟨rfl, h₅⟩))))
structure CompOkT (C : Cc) (own : DOwn) {α : Type} (xs : List α) (ι : α → D) (t : Expr) (tv : α → DVars) (ifs : List Expr) (elt : Expr) (scope : Scope) (cl : List (PySem.Str × Addr)) (p : α → Bool) (f : α → D) : Prop where
  tgt : ∀ F s₀ gb a, a ∈ xs → Asg (compC C own scope cl F s₀ gb) [] [] t (ι a) (tv a) []
  tests : ∀ F s₀ gb a, a ∈ xs → TrAll (compC C own scope cl F s₀ gb) (tv a) [] ifs (p a)
  elt : ∀ F s₀ gb a, a ∈ xs → p a = true → Ev (compC C own scope cl F s₀ gb) (tv a) [] elt (f a)
theorem CompOk.T {α : Type} {xs : List α} {ι : α → D} {ifs : List Expr} {elt : Expr} {scope : Scope} {cl : List (PySem.Str × Addr)} {p : α → Bool} {f : α → D} {px : Pos} (ok : CompOk C own xs ι x ifs elt scope cl p f) (hkind : scope.kind = .function) (hx : scope.names.lookup x = some .local) :
    CompOkT C own xs ι (.Name x px) (fun a => [(x, ι a)]) ifs elt scope cl p f where
  tgt := fun F s₀ gb a _ => Asg.name (Sto.local_ .nil (by simp [relabel, hkind]) (lookup_relabel_local hx))
  tests := ok.tests
  elt := ok.elt
theorem comp_loop {α : Type} {xs : List α} {ι : α → D} {t : Expr} {tv : α → DVars} {ifs : List Expr} {elt iter : Expr} {scope : Scope} {cl : List (PySem.Str × Addr)} {p : α → Bool} {f : α → D} {cpos : Pos} {g g₂ : Heap} {s s₂ s₃ : Shared} {I F Dd : Addr} {fp wr : List Addr} {P : Nat → Value → Prop} {St : Nat → Heap → Prop}
    {R : Result → Shared → Prop} {m : PySem.Str → Option Value} (hs : At2 C vars own g s) (X : ItOk C (xs.map ι) g s g₂ s₂ I fp wr P St) (ok : CompOkT C own xs ι t tv ifs elt scope cl p f) (hsz : xs.length ≤ 1000000)
    (k₃ : Keeps s₂ s₃) (hD : s₂.heap.get? Dd = none) (hF : s₂.heap.get? F = none) (hDF : Dd ≠ F) (hacc : PlainLst s₃.heap Dd []) (hn : s₃.heap.Ns F m)
    (hR : ∀ g' s' ys m', Gr g s g' s' → s'.heap.Ns F m' → PlainLst s'.heap Dd ys → Reps g' ys ((xs.filter p).map f) → g'.get? F = none → s.heap.get? F = none → s.heap.get? Dd = none → R (.ok .next) s') :
    codeAny (model C.prog C.w) C.A (.compLoop (.ListComp elt [⟨t, iter, ifs, 0⟩] scope cpos) 0 (.ref I) (.ref Dd) (compEnvC scope cl F C.env)) R s₃ := by
  have old : ∀ a, s₂.heap.get? a = none → s.heap.get? a = none := fun a h => by
    cases q : s.heap.get? a with
    | none => rfl
    | some o => exact (live_ne h (keepsExt X.gr.keeps _ _ q)).elim
  have hDfp : Dd ∉ fp := fun h => by obtain ⟨o, e⟩ := X.fpl _ h; exact live_ne hD e
  have hFfp : F ∉ fp := fun h => by obtain ⟨o, e⟩ := X.fpl _ h; exact live_ne hF e
  have hDwr : Dd ∉ wr := fun h => hDfp (X.W.sub _ h)
  have hFwr : F ∉ wr := fun h => hFfp (X.W.sub _ h)
  have none₂ : ∀ a, s₂.heap.get? a = none → g₂.get? a = none := fun a h => by
    cases q : g₂.get? a with
    | none => rfl
    | some o => exact (live_ne h (X.gr.sub _ _ q)).elim
  have y₃ : Gr g s g₂ s₃ := X.gr.trans (Gr.same X.gr.sub k₃)
  refine codeAny_compLoop_T (fun k s' => ∃ i g' ys m', k = xs.length - i ∧ i ≤ xs.length ∧ Gr g s g' s' ∧ Ext g₂ g' ∧ St i s'.heap ∧ s'.heap.Ns F m' ∧ PlainLst s'.heap Dd ys ∧ Reps g' ys (((xs.take i).filter p).map f) ∧ g'.get? Dd = none ∧ g'.get? F = none ∧ ∀ b ∈ wr, g'.get? b = none) ?_ xs.length
    ⟨0, g₂, [], m, rfl, Nat.zero_le _, y₃, fun _ _ e => e, X.W.frame _ _ _ X.st fun b hb o e => keepsExt k₃ _ _ e, hn, hacc, .nil, none₂ _ hD, none₂ _ hF, fun b hb => (X.wrn b hb).1⟩
  rintro k s' ⟨i, g', ys, m', rfl, hi, y, he, hst, hn', hacc', hys, hgD, hgF, hgw⟩
  have hl : (xs.map ι).length = xs.length := List.length_map _
  have upW : ∀ {h₁ : Heap} {tk₁ : Nat}, (∀ b o, b ∉ wr → s'.heap.get? b = some o → h₁.get? b = some o) → Gr g s g' { s' with heap := h₁, toks := tk₁ } := fun {h₁ tk₁} hk₁ =>
    ⟨keepsOf (fun b o e => hk₁ b o (fun q => live_ne (X.wrn b q).2 e) (keepsExt y.keeps b o e)) (Rest.trans (keepsRest y.keeps) ⟨rfl, rfl, rfl⟩), y.ext, fun b o e => hk₁ b o (fun q => live_ne (hgw b q) e) (y.sub b o e), y.new⟩
  by_cases hlt : i < xs.length
  · refine ff (X.W.item i s' _ Ff (by (first | lia | omega)) hst fun v h₁ tk₁ hv hst₁ hk₁ => ?_)
    refine X.go _ _ _ _ _ hst₁ ?_
    have hd : (xs.map ι)[i]? = some (ι xs[i]) := by simp [hlt]
    have hr : Rep g₂ v (ι xs[i]) := X.item i v _ hd hv
    have ha : xs[i] ∈ xs := List.getElem_mem hlt
    have y₁ : Gr g s g' { s' with heap := h₁, toks := tk₁ } := upW hk₁
    have hn₁ := hn'.at' (fun o e => hk₁ _ o hFwr e)
    have in₁ := hs.inner (scope := scope) (cl := cl) y₁ (old _ hF) hgF hn₁
    refine wmono (ok.tgt F _ _ _ ha g' _ v in₁ (hr.ext he)) fun _ s₂' h₂ => ?_
    obtain ⟨g₂', e₂, a₂⟩ := h₂
    have up : ∀ b o, b ≠ F → h₁.get? b = some o → s₂'.heap.get? b = some o := fun b o hb e => keepsExt a₂.gr.keeps b o (by
      show (hide [F] h₁).get? b = some o
      rw [get?_hide, if_neg (by simpa using hb)]; exact e)
    have y₂ : Gr g s g₂' s₂' := by
      refine ⟨keepsOf (fun b o e => up b o (fun q => ?_) (keepsExt y₁.keeps b o e)) (Rest.trans (keepsRest y₁.keeps) (let r := keepsRest a₂.gr.keeps; ⟨r.1, rfl, r.2.2⟩)), Ext.trans y.ext e₂, a₂.gr.sub, fun b o e => ?_⟩
      · rw [q] at e; exact live_ne (old _ hF) e
      · rcases a₂.gr.new b o e with h | h
        · exact y.new b o h
        · refine .inr ?_
          have h' : (hide [F] h₁).get? b = none := h
          rw [get?_hide] at h'
          split at h'
          · rename_i q
            have q' : b = F := by simpa using q
            rw [q'] at e; exact (live_ne a₂.frn.2 e).elim
          · cases q : s.heap.get? b with
            | none => rfl
            | some o' => exact (live_ne h' (keepsExt y₁.keeps b o' q)).elim
    have live₁ : ∀ b, b ≠ F → g'.get? b = none → (∃ o, h₁.get? b = some o) → g₂'.get? b = none := fun b hb hg ⟨o, e⟩ => by
      cases q : g₂'.get? b with
      | none => rfl
      | some o' =>
        rcases a₂.gr.new b o' q with h | h
        · exact (live_ne hg h).elim
        · have h' : (hide [F] h₁).get? b = none := h
          rw [get?_hide, if_neg (by simpa using hb)] at h'
          exact (live_ne h' e).elim
    have acc₁ : PlainLst h₁ Dd ys := by obtain ⟨n, e⟩ := hacc'; exact ⟨n, hk₁ _ _ hDwr e⟩
    have acc₂ : PlainLst s₂'.heap Dd ys := by obtain ⟨n, e⟩ := acc₁; exact ⟨n, up _ _ hDF e⟩
    have gD₂ : g₂'.get? Dd = none := live₁ _ hDF hgD (by obtain ⟨n, e⟩ := acc₁; exact ⟨_, e⟩)
    have gw₂ : ∀ b ∈ wr, g₂'.get? b = none := fun b hb => live₁ b (fun q => hFwr (q ▸ hb)) (hgw b hb) (X.live _ _ hst₁ b hb)
    have st₂ : St (i + 1) s₂'.heap := X.W.frame _ _ _ hst₁ fun b hb o e => up b o (fun q => hFfp (q ▸ hb)) e
    refine wmono (ok.tests F _ _ _ ha g₂' _ a₂) fun b s₄ h₄ => ?_
    obtain ⟨g₄, x₄, rfl⟩ := h₄
    have a₄ := a₂.grow x₄
    have y₄ := y₂.trans x₄
    have acc₄ : PlainLst s₄.heap Dd ys := by obtain ⟨n, e⟩ := acc₂; exact ⟨n, keepsExt x₄.keeps _ _ e⟩
    have gD₄ : g₄.get? Dd = none := by obtain ⟨n, e⟩ := acc₂; exact x₄.stay gD₂ e
    have gw₄ : ∀ b ∈ wr, g₄.get? b = none := fun b hb => by obtain ⟨o, e⟩ := X.live _ _ st₂ b hb; exact x₄.stay (gw₂ b hb) e
    have st₄ : St (i + 1) s₄.heap := X.W.frame _ _ _ st₂ fun b _ o e => keepsExt x₄.keeps _ _ e
    have htk : xs.take (i + 1) = xs.take i ++ [xs[i]] := by rw [List.take_add_one, List.getElem?_eq_getElem hlt]; rfl
    have hys₂ := hys.ext e₂
    cases hp : p xs[i] with
    | false =>
      rw [if_neg (by simp)]
      obtain ⟨m₄, hn₄, _⟩ := a₄.fr
      refine ⟨xs.length - (i + 1), by (first | lia | omega), i + 1, g₄, ys, m₄, rfl, hlt, y₄, Ext.trans (Ext.trans he e₂) x₄.ext, st₄, hn₄, acc₄, ?_, gD₄, a₄.frn.2, gw₄⟩
      rw [htk, List.filter_append, List.filter_cons_of_neg (by simp [hp]), List.filter_nil, List.append_nil]
      exact hys₂.ext x₄.ext
    | true =>
      rw [if_pos rfl]
      refine wmono (ok.elt F _ _ _ ha hp g₄ _ a₄) fun b s₅ h₅ => ?_
      obtain ⟨g₅, x₅, r₅⟩ := h₅
      have a₅ := a₄.grow x₅
      have y₅ := y₄.trans x₅
      have acc₅ : PlainLst s₅.heap Dd ys := by obtain ⟨n, e⟩ := acc₄; exact ⟨n, keepsExt x₅.keeps _ _ e⟩
      have gD₅ : g₅.get? Dd = none := by obtain ⟨n, e⟩ := acc₄; exact x₅.stay gD₄ e
      have gw₅ : ∀ b ∈ wr, g₅.get? b = none := fun b hb => by obtain ⟨o, e⟩ := X.live _ _ st₄ b hb; exact x₅.stay (gw₄ b hb) e
      have st₅ : St (i + 1) s₅.heap := X.W.frame _ _ _ st₄ fun b _ o e => keepsExt x₅.keeps _ _ e
      obtain ⟨m₅, hn₅, _⟩ := a₅.fr
      have hlen : ys.length ≤ 1000000 := by
        have e1 := hys.length
        have e2 := List.length_filter_le p (xs.take i)
        rw [List.length_map] at e1
        have e3 : (xs.take i).length ≤ xs.length := by rw [List.length_take]; (first | lia | omega)
        (first | lia | omega)
      refine wpAny_list_append_plain (hsz := by simpa using Nat.le_trans hlen (by decide)) acc₅.plain fun h₆ hl₆ sb₆ => ?_
      refine ⟨xs.length - (i + 1), by (first | lia | omega), i + 1, g₅, ys ++ [b], _, rfl, hlt, ⟨keepsOf (fun c o e => (sb₆.2 c (fun q => ?_)).trans (keepsExt y₅.keeps c o e)) (Rest.trans (keepsRest y₅.keeps) ⟨rfl, rfl, rfl⟩), y₅.ext, fun c o e => (sb₆.2 c (fun q => ?_)).trans (y₅.sub c o e), y₅.new⟩, Ext.trans (Ext.trans he e₂) (Ext.trans x₄.ext x₅.ext), X.W.frame _ _ _ st₅ fun c hc o e => (sb₆.2 c (fun q => hDfp (q ▸ hc))).trans e, hn₅.sameBut sb₆ (Ne.symm hDF), by simpa [PlainLst, Heap.PlainList] using hl₆, ?_, gD₅, a₅.frn.2, gw₅⟩
      · rw [q] at e; exact live_ne (old _ hD) e
      · rw [q] at e; exact live_ne gD₅ e
      · rw [htk, List.filter_append, List.filter_cons_of_pos (by simp [hp]), List.filter_nil, List.map_append]
        exact ((hys₂.ext x₄.ext).ext x₅.ext).append (.cons r₅ .nil)
  · obtain rfl : i = xs.length := by (first | lia | omega)
    rw [← hl] at hst
    refine ff (X.W.done s' _ Ff hst fun h₁ tk₁ hk₁ => ?_)
    rw [List.take_length] at hys
    refine hR g' _ ys m' (upW hk₁) (hn'.at' fun o e => hk₁ _ o hFwr e) ?_ hys hgF (old _ hF) (old _ hD)
    obtain ⟨n, e⟩ := hacc'
    exact ⟨n, hk₁ _ _ hDwr e⟩
theorem comp_block {α : Type} {xs : List α} {ι : α → D} {ifs : List Expr} {elt iter : Expr} {scope : Scope} {cl : List (PySem.Str × Addr)} {t : Expr} {tv : α → DVars} {p : α → Bool} {f : α → D} {cpos : Pos} {g g₂ : Heap} {s s₂ : Shared} {I : Addr} {fp wr : List Addr} {P : Nat → Value → Prop} {St : Nat → Heap → Prop}
    {RR : Value → Addr → Result → Shared → Prop} (hs : At2 C vars own g s) (X : ItOk C (xs.map ι) g s g₂ s₂ I fp wr P St) (ok : CompOkT C own xs ι t tv ifs elt scope cl p f) (hsz : xs.length ≤ 1000000)
    (hcell : ∀ y ∈ scope.names, y.2 ≠ .cell) (hkind : scope.kind = .function)
    (hR : ∀ F Dd g' s' ys m', Dd ≠ F → Gr g s g' s' → s'.heap.Ns F m' → PlainLst s'.heap Dd ys → Reps g' ys ((xs.filter p).map f) → g'.get? F = none → s.heap.get? F = none → s.heap.get? Dd = none → RR (.ref Dd) F (.ok .next) s') :
    wpAny (model C.prog C.w) C.A (newList []) (fun acc s₃ => wpAny (model C.prog C.w) C.A (newFunctionEnv scope C.env.globals cl [] C.env.qual none .none (some C.env)) (fun cenv s₄ =>
      codeAny (model C.prog C.w) C.A (.compStart (.ListComp elt [⟨t, iter, ifs, 0⟩] scope cpos) 0 (.ref I) acc { cenv with scope := relabel scope C.env }) (RR acc cenv.locals) s₄) Ff s₃) Ff s₂ := by
  refine wpAny_newObj_type (wpAny_newFunctionEnv hcell (by intro y hy; simp at hy) (fun h₁ hns₁ hsb₁ => ?_) hkind)
  dsimp only at hns₁ hsb₁ ⊢
  generalize hH2 : s₂.heap.push { cls := .type "list", dict := none, data := .seq ([] : List Value).toArray } = H2 at hns₁ hsb₁ ⊢
  have hC : H2.objs.size = s₂.heap.objs.size + 1 := by rw [← hH2, Heap.size_push]
  have hDC : s₂.heap.objs.size ≠ H2.objs.size := by rw [hC]; exact Nat.ne_of_lt (Nat.lt_succ_self _)
  have below : ∀ b, b < s₂.heap.objs.size → b ≠ H2.objs.size ∧ b ≠ s₂.heap.objs.size := fun b hb => ⟨by rw [hC]; exact Nat.ne_of_lt (Nat.lt_succ_of_lt hb), Nat.ne_of_lt hb⟩
  have old : ∀ b o, s₂.heap.get? b = some o → h₁.get? b = some o := fun b o e => hsb₁.extBut b o (below b (Heap.lt_size e)).1 (Heap.get?_push_of_some _ (hH2 ▸ Heap.get?_push_of_some _ e))
  have hacc : PlainLst h₁ s₂.heap.objs.size [] := ⟨_, hsb₁.extBut _ _ hDC (Heap.get?_push_of_some _ (hH2 ▸ Heap.get?_push_size _ rfl))⟩
  have fresh : ∀ a, s₂.heap.objs.size ≤ a → s₂.heap.get? a = none := fun a ha => by
    cases e : s₂.heap.get? a with
    | none => rfl
    | some o' => exact absurd (Heap.lt_size e) (Nat.not_lt.mpr ha)
  have loop : ∀ s₃ : Shared, s₃ = { s₂ with heap := h₁, toks := s₂.toks + ([] : List (PySem.Str × Value)).length } →
      codeAny (model C.prog C.w) C.A (.compLoop (.ListComp elt [⟨t, iter, ifs, 0⟩] scope cpos) 0 (.ref I) (.ref s₂.heap.objs.size) (compEnvC scope cl H2.objs.size C.env)) (RR (.ref s₂.heap.objs.size) H2.objs.size) s₃ := by
    rintro s₃ rfl
    exact comp_loop hs X ok hsz ⟨h₁, _, rfl, old⟩ (fresh _ (Nat.le_refl _)) (fresh _ (by rw [hC]; exact Nat.le_succ _)) hDC hacc hns₁ fun g' s' ys m' a b c d e f h => hR _ _ g' s' ys m' hDC a b c d e f h
  have hst₁ : St 0 h₁ := X.W.frame _ _ _ X.st fun b _ o e => old b o e
  exact codeAny_compStart_list (loop _ rfl) (X.W.self 0 _ _ _ hst₁ (loop _ rfl))
theorem Ev.compT {α : Type} {xs : List α} {ι : α → D} {ifs : List Expr} {elt iter : Expr} {scope : Scope} {cl : List (PySem.Str × Addr)} {p : α → Bool} {f : α → D} {t : Expr} {tv : α → DVars} (hit : EvIt C vars own iter (xs.map ι)) (ok : CompOkT C own xs ι t tv ifs elt scope cl p f) (hsz : xs.length ≤ 1000000)
    (hclos : closureFor scope C.env = pure cl) (hcell : ∀ y ∈ scope.names, y.2 ≠ .cell) (hkind : scope.kind = .function) (hnames : ∀ y ∈ scope.names, y.2 = .local → scope.names.lookup y.1 = some .local)
    (hf : ∀ x, foldedSetIterable iter C.env x = pure x) : Ev C vars own (.ListComp elt [⟨t, iter, ifs, 0⟩] scope pos) (.lst ((xs.filter p).map f)) := fun g s hs => by
  rw [eval_ListComp]
  refine wpAny_comprehension_free (use := Option.none) rfl hf hclos hkind hnames (wmono (hit g s hs) fun v s₁ h₁ => wmono h₁ fun it s₂ h₂ => ?_)
  obtain ⟨g₂, I, fp, wr, P, St, rfl, X⟩ := h₂
  refine comp_block (RR := fun acc F => compPost (model C.prog C.w) C.A Ff Option.none (Gives (.lst ((xs.filter p).map f)) g s) acc F) hs X ok hsz hcell hkind ?_
  intro F Dd g' s' ys m' hDF y hn hacc hys hgF hF hD
  refine ⟨m', hn, fun h' sb => ?_⟩
  have k' : Keeps s { s' with heap := h' } := keepsOf (fun b o e => (sb.2 b (fun q => by rw [q] at e; exact live_ne hF e)).trans (keepsExt y.keeps b o e)) (Rest.trans (keepsRest y.keeps) ⟨rfl, rfl, rfl⟩)
  have y' : Gr g s g' { s' with heap := h' } := ⟨k', y.ext, fun b o e => (sb.2 b (fun q => by rw [q] at e; exact live_ne hgF e)).trans (y.sub b o e), y.new⟩
  refine ⟨grow g s { s' with heap := h' }, Gr.max hs.sub k', .lst ?_ (hys.ext y'.into)⟩
  obtain ⟨n, e⟩ := hacc
  exact ⟨n, grow_new hD ((sb.2 _ hDF).trans e)⟩
theorem Ev.comp {α : Type} {xs : List α} {ι : α → D} {ifs : List Expr} {elt iter : Expr} {scope : Scope} {cl : List (PySem.Str × Addr)} {p : α → Bool} {f : α → D} {px : Pos} (hit : EvIt C vars own iter (xs.map ι)) (ok : CompOk C own xs ι x ifs elt scope cl p f) (hsz : xs.length ≤ 1000000)
    (hclos : closureFor scope C.env = pure cl) (hcell : ∀ y ∈ scope.names, y.2 ≠ .cell) (hkind : scope.kind = .function) (hnames : ∀ y ∈ scope.names, y.2 = .local → scope.names.lookup y.1 = some .local) (hx : scope.names.lookup x = some .local)
    (hf : ∀ x, foldedSetIterable iter C.env x = pure x) : Ev C vars own (.ListComp elt [⟨.Name x px, iter, ifs, 0⟩] scope pos) (.lst ((xs.filter p).map f)) :=
  Ev.compT hit (ok.T hkind hx) hsz hclos hcell hkind hnames hf
theorem x_asgCompT {α : Type} {xs : List α} {ι : α → D} {ifs : List Expr} {elt iter : Expr} {scope : Scope} {cl : List (PySem.Str × Addr)} {p : α → Bool} {f : α → D} {t : Expr} {tv : α → DVars} {py spos : Pos} {y : PySem.Str} (hit : EvIt C vars own iter (xs.map ι)) (ok : CompOkT C own xs ι t tv ifs elt scope cl p f) (hsz : xs.length ≤ 1000000)
    (hsto : ∀ s₀ gb, Sto { C with s₀ := s₀, gb := gb } vars own y (.lst ((xs.filter p).map f)) vars' own') (k : Ex C vars' own' rest Q)
    (hsw : swapsWith (.ListComp elt [⟨t, iter, ifs, 0⟩] scope pos) (some (.Name y py)) spos.line C.env = pure true)
    (hclos : closureFor scope C.env = pure cl) (hcell : ∀ y ∈ scope.names, y.2 ≠ .cell) (hkind : scope.kind = .function) (hnames : ∀ y ∈ scope.names, y.2 = .local → scope.names.lookup y.1 = some .local)
    (hf : ∀ x, foldedSetIterable iter C.env x = pure x) : Ex2 C vars own (.Assign [.Name y py] (.ListComp elt [⟨t, iter, ifs, 0⟩] scope pos) spos) rest Q := fun g s hs => by
  rw [exec_Assign_Name_used _ _ _ _ hsw]
  refine wpAny_bind (wpAny_standAt (wpAny_bind ?_))
  show wpAny _ C.A (do let _ ← comprehension (.ListComp elt [⟨t, iter, ifs, 0⟩] scope pos) scope C.env _ (newList []) false (eval iter C.env) (some (assign (.Name y py) C.env))) _ _ s
  refine wpAny_bind (wpAny_mono (wpAny_comprehension_free (use := some (assign (.Name y py) C.env)) (Q := fun _ s' => ContC C rest Q .next s') (E := Ff) rfl hf hclos hkind hnames (wmono (hit g s hs) fun v s₁ h₁ => wmono h₁ fun it s₂ h₂ => ?_)) (fun _ s' hq => wpAny_pure (wpAny_pure hq)) fun _ _ e => e)
  obtain ⟨g₂, I, fp, wr, P, St, rfl, X⟩ := h₂
  refine comp_block (RR := fun acc F => compPost (model C.prog C.w) C.A Ff (some (assign (.Name y py) C.env)) (fun _ s' => ContC C rest Q .next s') acc F) hs X ok hsz hcell hkind ?_
  intro F Dd g' s' ys m' hDF yy hn hacc hys hgF hF hD
  show wpAny _ C.A (assign (.Name y py) C.env (.ref Dd)) _ _ _
  have mx := Gr.max hs.sub yy.keeps
  have a₁ := hs.grow (⟨mx.keeps, mx.ext, mx.sub, mx.new⟩ : Gr g s (grow g s s') s')
  obtain ⟨n, e⟩ := hacc
  have gF : ∃ gg, Gr g s gg s' ∧ Rep gg (.ref Dd) (.lst ((xs.filter p).map f)) ∧ gg.get? F = none := by
    refine ⟨hide [F] (grow g s s'), ⟨yy.keeps, fun a o q => ?_, fun a o q => mx.sub _ _ (hide_ext _ _ q), fun a o q => mx.new _ _ (hide_ext _ _ q)⟩, .lst ⟨n, ?_⟩ (hys.ext fun a o q => ?_), by rw [get?_hide, if_pos (by simp)]⟩
    · rw [get?_hide, if_neg]
      · exact mx.ext _ _ q
      · intro z
        have z' : a = F := by simpa using z
        have := hs.sub _ _ q
        rw [z'] at this; exact live_ne hF this
    · rw [get?_hide, if_neg]
      · exact grow_new hD e
      · intro z
        exact hDF (by simpa using z)
    · rw [get?_hide, if_neg]
      · exact yy.into _ _ q
      · intro z
        have z' : a = F := by simpa using z
        rw [z'] at q; exact live_ne hgF q
  obtain ⟨gg, ygg, rgg, ggF⟩ := gF
  have a₂ := hs.grow ygg
  obtain ⟨oF, _, _, eF, _⟩ := id hn
  have hFL : F ≠ C.env.locals := fun q => by obtain ⟨o, e'⟩ := hs.L_live; rw [q] at hF; exact live_ne hF e'
  have hFo : F ∉ own.map (·.1) := fun q => by
    obtain ⟨p', hp, q⟩ := List.mem_map.mp q
    obtain ⟨⟨o, e', _⟩, _⟩ := hs.news p' hp
    have q' : p'.1 = F := q
    rw [q'] at e'; exact live_ne hF e'
  refine wpAny_assign_Name (wmono (hsto (Mine.reb C own gg s') gg gg s' (.ref Dd) a₂.reb rgg) fun _ s₅ ⟨g₅, x₅, a₅⟩ => ?_)
  have keepF : s₅.heap.Ns F m' := by
    refine hn.at' fun o e' => keepsExt a₅.gr.keeps _ _ ?_
    show (hide _ s'.heap).get? F = some o
    rw [get?_hide, if_neg]
    · exact e'
    · intro q
      have q' : F ∈ C.env.locals :: own.map (·.1) := by simpa using q
      rcases List.mem_cons.mp q' with q' | q'
      · exact hFL q'
      · exact hFo q'
  refine ⟨m', keepF, fun h' sb => ?_⟩
  have a₆ := a₂.subC.at2 a₅
  have lvF : (Mine.reb C own gg s').heap.get? F = some oF := by
    show (hide _ s'.heap).get? F = some oF
    rw [get?_hide, if_neg]
    · exact eF
    · intro q
      have q' : F ∈ C.env.locals :: own.map (·.1) := by simpa using q
      rcases List.mem_cons.mp q' with q' | q'
      · exact hFL q'
      · exact hFo q'
  refine k g₅ _ (a₆.hid (wr := [F]) (t := s₅.toks) (fun b o hb e' => (sb.2 b (fun q => hb (by simp [q]))).trans e') fun b hb => ?_)
  obtain rfl : b = F := by simpa using hb
  refine ⟨?_, ?_, hFL, fun q => ?_⟩
  · cases q : C.s₀.heap.get? b with
    | none => rfl
    | some o => exact (live_ne hF (keepsExt hs.gr.keeps _ _ q)).elim
  · cases q : g₅.get? b with
    | none => rfl
    | some o =>
      rcases a₅.gr.new _ _ q with h | h
      · exact (live_ne ggF h).elim
      · exact (live_ne h lvF).elim
  · obtain ⟨p', hp, q⟩ := List.mem_map.mp q
    have q' : p'.1 = b := q
    have := (a₅.news p' hp).2.2.1
    rw [q'] at this
    exact live_ne this lvF
theorem x_asgComp {α : Type} {xs : List α} {ι : α → D} {ifs : List Expr} {elt iter : Expr} {scope : Scope} {cl : List (PySem.Str × Addr)} {p : α → Bool} {f : α → D} {px py spos : Pos} {y : PySem.Str} (hit : EvIt C vars own iter (xs.map ι)) (ok : CompOk C own xs ι x ifs elt scope cl p f) (hsz : xs.length ≤ 1000000)
    (hsto : ∀ s₀ gb, Sto { C with s₀ := s₀, gb := gb } vars own y (.lst ((xs.filter p).map f)) vars' own') (k : Ex C vars' own' rest Q)
    (hsw : swapsWith (.ListComp elt [⟨.Name x px, iter, ifs, 0⟩] scope pos) (some (.Name y py)) spos.line C.env = pure true)
    (hclos : closureFor scope C.env = pure cl) (hcell : ∀ y ∈ scope.names, y.2 ≠ .cell) (hkind : scope.kind = .function) (hnames : ∀ y ∈ scope.names, y.2 = .local → scope.names.lookup y.1 = some .local) (hx : scope.names.lookup x = some .local)
    (hf : ∀ x, foldedSetIterable iter C.env x = pure x) : Ex2 C vars own (.Assign [.Name y py] (.ListComp elt [⟨.Name x px, iter, ifs, 0⟩] scope pos) spos) rest Q :=
  x_asgCompT hit (ok.T hkind hx) hsz hsto k hsw hclos hcell hkind hnames hf
end
end Mine
end
section
open PySem PySem.W PyProof.Rows PySem.Calls
set_option Elab.async false
set_option linter.unusedVariables false
namespace Mine
noncomputable def EvArgs (C : Cc) (vars : DVars) (own : DOwn) (pos : Pos) (args : List Expr) (ds : List D) : Prop := ∀ g s, At2 C vars own g s → wpAny (model C.prog C.w) C.A (spliced (backTo pos (starEach args C.env))) (fun vs s' => ∃ g', Gr g s g' s' ∧ Reps g' vs ds) Ff s
noncomputable def FnC (C : Cc) (fv : Value) (ds : List D) (d : D) : Prop := ∀ g s vs, Fz C.K g s → Reps g vs ds → wpAny (model C.prog C.w) C.A (call fv vs) (Gives d g s) Ff s
noncomputable def FnL (C : Cc) (fv : Value) (ds : List D) (d : D) : Prop := ∀ g s v, Fz C.K g s → NowL g s v ds → wpAny (model C.prog C.w) C.A (call fv [v]) (Gives d g s) Ff s
structure Callee (C : Cc) (vars : DVars) (own : DOwn) (f : Expr) (fv : Value) : Prop where
  load : ∀ g s, At2 C vars own g s → wpAny (model C.prog C.w) C.A (eval f C.env) (fun v s' => v = fv ∧ s' = s) Ff s
  kp : ∀ g s, At2 C vars own g s → Kp (model C.prog C.w) s.heap fv
section
variable {C : Cc} {vars vars' vars'' : DVars} {own own' own'' : DOwn} {Q : Flow → Shared → Prop} {d d₁ d₂ : D} {ds : List D} {rest : List Stmt} {e l r : Expr} {args : List Expr} {pos p' : Pos} {x : PySem.Str} {fv : Value}
theorem EvArgs.nil : EvArgs C vars own pos [] [] := fun g s hs => wpAny_items_nil ⟨g, Gr.refl hs.sub, .nil⟩
theorem EvArgs.cons (h : Ev C vars own e d) (k : EvArgs C vars own pos args ds) (he : starEach (e :: args) C.env = (false, eval e C.env) :: starEach args C.env) : EvArgs C vars own pos (e :: args) (d :: ds) := fun g s hs =>
  wpAny_items_cons (h.run hs fun v g₁ s₁ x₁ a₁ r₁ => wmono (k g₁ s₁ a₁) fun vs s₂ ⟨g₂, x₂, r₂⟩ => ⟨g₂, x₁.trans x₂, .cons (r₁.ext x₂.ext) r₂⟩) he
theorem Callee.glob (e : nsIn C.K mainGlobals x = some (some fv)) (hkp : keepIn C.K fv = true) (hk : (C.env.scope.kind == .function) = true) (hl : C.env.kindOf x = some .globalImplicit) (hd : (x == ("__debug__" : PySem.Str)) = false) (hg : C.env.globals = mainGlobals) : Callee C vars own (.Name x pos) fv where
  load := fun g s hs => by
    have X := hs.cxg
    obtain ⟨p, l, mg, mb, T⟩ := X.T
    exact Name_function_global (by simpa using hk) hl (loadGlobal_global (by rw [hg]; exact T.g.keeps hs.sub) (mg_of X.X T.g e) ⟨rfl, rfl⟩) hd
  kp := fun g s hs => Kp.K (hs.cxg.X.keeps hs.sub) hkp
theorem Callee.blt (e : nsIn C.K mainGlobals x = some none) (hv : bootBuiltins x = some fv) (hb : (match fv with | .builtin _ => true | .type _ => true | _ => false) = true) (hk : (C.env.scope.kind == .function) = true) (hl : C.env.kindOf x = some .globalImplicit) (hd : (x == ("__debug__" : PySem.Str)) = false) (hn : (x == ("__name__" : PySem.Str)) = false)
    (hg : C.env.globals = mainGlobals) (hbn : C.env.builtins = builtinsNs) : Callee C vars own (.Name x pos) fv where
  load := fun g s hs => by
    have X := hs.cxg
    obtain ⟨p, l, mg, mb, T⟩ := X.T
    exact Name_function_global (by simpa using hk) hl (loadGlobal_builtin (by rw [hg]; exact T.g.keeps hs.sub) (mg_none_of X.X T.g e) (by rw [hbn]; exact T.b.keeps hs.sub) ((T.builtins x (by simpa using hn)).trans hv) ⟨rfl, rfl⟩) hd
  kp := fun g s hs => by
    cases fv with
    | builtin id => exact Kp.builtin
    | type id => exact Kp.type
    | _ => cases hb
theorem Ev.call {id : PySem.Str} {a : Expr} (hf : Callee C vars own (.Name id p') fv) (ha : EvArgs C vars own pos (a :: args) ds) (o : FnC C fv ds d) (he : starEach (a :: args) C.env = (false, eval a C.env) :: starEach args C.env) (hp : (backTo pos (starEach args C.env)).any (·.1) = false) :
    Ev C vars own (.Call (.Name id p') (a :: args) [] pos) d := fun g s hs => by
  refine wpAny_Call_Name_kw (wmono (hf.load g s hs) fun v s₁ h₁ => ?_)
  obtain ⟨rfl, rfl⟩ := h₁
  have h := ha g s₁ hs
  show wpAny _ _ (callWith pos v [] (backTo pos (starEach (a :: args) C.env)) []) _ _ _
  rw [he] at h ⊢
  refine callWith_of (P := fun h => Kp (model C.prog C.w) h v) (by show ((false || (backTo pos (starEach args C.env)).any (·.1)) || false) = false; rw [hp]; rfl) (fun _ x => x) (evalArgs_plain (wmono h fun vs s₂ ⟨g₂, x₂, r₂⟩ => ⟨hf.kp _ _ (hs.grow x₂), ?_⟩))
  exact wmono (o g₂ s₂ vs (hs.grow x₂).fz r₂) fun v s' h => h.after x₂
theorem Ev.callL {id : PySem.Str} {a : Expr} (hf : Callee C vars own (.Name id p') fv) (ha : EvL C vars own a ds) (o : FnL C fv ds d) (he : starEach [a] C.env = [(false, eval a C.env)]) :
    Ev C vars own (.Call (.Name id p') [a] [] pos) d := fun g s hs => by
  refine wpAny_Call_Name_kw (wmono (hf.load g s hs) fun v s₁ h₁ => ?_)
  obtain ⟨rfl, rfl⟩ := h₁
  show wpAny _ _ (callWith pos v [] (backTo pos (starEach [a] C.env)) []) _ _ _
  have h : wpAny (model C.prog C.w) C.A (spliced (backTo pos (starEach [a] C.env))) (fun vs s' => ∃ g' v, vs = [v] ∧ Gr g s₁ g' s' ∧ NowL g' s' v ds) Ff s₁ :=
    wpAny_items_cons (ha.run hs fun v g₁ s₁ x₁ a₁ r₁ => wpAny_items_nil ⟨g₁, v, rfl, x₁, r₁⟩) he
  rw [he] at h ⊢
  refine callWith_of (P := fun h => Kp (model C.prog C.w) h v) rfl (fun _ x => x) (evalArgs_plain (wmono h fun vs s₂ ⟨g₂, u, q, x₂, r₂⟩ => ⟨hf.kp _ _ (hs.grow x₂), ?_⟩))
  subst q
  exact wmono (o g₂ s₂ u (hs.grow x₂).fz r₂) fun v s' h => h.after x₂
noncomputable def OLst (ds : List D) : Heap → Obj → Prop := fun g o => ∃ n vs, o = { cls := .type "list", data := .seq vs.toArray n } ∧ Reps g vs ds
theorem OLst.mono : ∀ g g' o, Ext g g' → OLst ds g o → OLst ds g' o := by
  rintro _ _ _ k ⟨n, vs, e, r⟩
  exact ⟨n, vs, e, r.ext k⟩
noncomputable abbrev dInts (ns : List Int) : List D := ns.map D.int
theorem Reps.ints {g : Heap} {vs : List Value} {ns : List Int} (r : Reps g vs (Mine.dInts ns)) : ∃ xs : Array (Int × Tok), vs.toArray = intItems xs ∧ xs.toList.map (·.1) = ns := by
  induction ns generalizing vs with
  | nil => cases r; exact ⟨#[], by simp [intItems], rfl⟩
  | cons n ns ih =>
    cases r using Reps.eCons with
    | cons r rs =>
      cases r with
      | int i t =>
        obtain ⟨xs, e1, e2⟩ := ih rs
        refine ⟨#[(n, t)] ++ xs, ?_, ?_⟩
        · rw [show ∀ (v : Value) (vs : List Value), (v :: vs).toArray = #[v] ++ vs.toArray from fun v vs => by simp, e1]
          simp [intItems]
        · simp [e2]
theorem FnC.lenStr {y : PySem.Str} (hl : y.length ≤ 1000000) : FnC C (.builtin "len") [.str y] (.int y.length) := fun g s vs f r => by
  cases r using Reps.eCons with
  | cons r rs =>
    cases rs; cases r
    exact len_str (by (first | lia | omega)) ⟨g, Gr.tok f.sub _, .int _ _⟩
theorem FnL.len (hl : ds.length ≤ 1000000) : FnL C (.builtin "len") ds (.int ds.length) := fun g s v f n => by
  obtain ⟨a, vs, rfl, p, r⟩ := n
  have e := r.length
  refine call_len_list p.isList (by rw [List.size_toArray, e]; (first | lia | omega)) ?_
  rw [List.size_toArray, e]
  exact ⟨g, Gr.tok f.sub _, .int _ _⟩
theorem FnL.sum {ns : List Int} (hh : C.A.handled = none) : FnL C (.builtin "sum") (dInts ns) (.int ns.sum) := fun g s v f n => by
  obtain ⟨a, vs, rfl, p, r⟩ := n
  obtain ⟨xs, e1, e2⟩ := r.ints
  have hl := p.isList
  rw [e1] at hl
  refine sum_intListG hh hl fun h' tk t' hk => ?_
  rw [preSum_eq, List.take_of_length_le (by simp), e2]
  exact ⟨g, Gr.same f.sub ⟨h', tk, rfl, hk⟩, .int _ _⟩
theorem FnC.min2 {a b : Int} (hh : C.A.handled = none) : FnC C (.builtin "min") [.int a, .int b] (.int (min a b)) := fun g s vs f r => by
  cases r using Reps.eCons with
  | cons r rs =>
    first | cases r using Reps.eNil | cases r using Rep.eInt | cases r using Rep.eRaw | cases r using Rep.eNone | cases r using Rep.eStr | cases r using Rep.eBool | cases r
    cases rs using Reps.eCons with
    | cons r rs =>
      cases r; cases rs
      refine min_two_ints hh fun h' tk hk => ⟨g, Gr.same f.sub ⟨h', tk, rfl, hk⟩, ?_⟩
      split
      · rw [Int.min_def, if_neg (by (first | lia | omega))]; exact .int _ _
      · rw [Int.min_def, if_pos (by (first | lia | omega))]; exact .int _ _
theorem FnC.max2 {a b : Int} (hh : C.A.handled = none) : FnC C (.builtin "max") [.int a, .int b] (.int (max a b)) := fun g s vs f r => by
  cases r using Reps.eCons with
  | cons r rs =>
    first | cases r using Reps.eNil | cases r using Rep.eInt | cases r using Rep.eRaw | cases r using Rep.eNone | cases r using Rep.eStr | cases r using Rep.eBool | cases r
    cases rs using Reps.eCons with
    | cons r rs =>
      cases r; cases rs
      refine max_two_ints hh fun h' tk hk => ⟨g, Gr.same f.sub ⟨h', tk, rfl, hk⟩, ?_⟩
      split
      · rw [Int.max_def, if_pos (by (first | lia | omega))]; exact .int _ _
      · rw [show max a b = a from by (first | lia | omega)]; exact .int _ _
theorem Ev.tuple {elts : List Expr} {kk : Nat} (h : EvArgs C vars own pos elts ds) (hn : ds.length ≤ 1000) : Ev C vars own (.Tuple elts kk pos) (.tup ds) := fun g s hs =>
  Tuple_ (wmono (h g s hs) fun vs s₁ ⟨g₁, x₁, r₁⟩ => wpAny_newTuple (by
    obtain ⟨x₂, e₂⟩ := Gr.push (g := g₁) (s := s₁) (o := { cls := .type "tuple", data := .seq vs.toArray }) (t := s₁.toks) x₁.sub
    exact ⟨_, x₁.trans x₂, .tup ⟨0, e₂⟩ (r₁.ext x₂.ext)⟩) (by rw [r₁.length]; exact Nat.le_trans hn (by decide)))
theorem Ev.list {elts : List Expr} (h : EvArgs C vars own pos elts ds) (hn : ds.length ≤ 1000) : Ev C vars own (.List elts pos) (.lst ds) := fun g s hs =>
  List_ (wmono (h g s hs) fun vs s₁ ⟨g₁, x₁, r₁⟩ => wpAny_newObj_type (by
    obtain ⟨x₂, e₂⟩ := Gr.push (g := g₁) (s := s₁) (o := { cls := .type "list", data := .seq vs.toArray }) (t := s₁.toks) x₁.sub
    exact ⟨_, x₁.trans x₂, .lst ⟨0, e₂⟩ (r₁.ext x₂.ext)⟩) (by show vs.toArray.size ≤ sizeLine; rw [List.size_toArray, r₁.length]; exact Nat.le_trans hn (by decide)))
theorem x_newList {elts : List Expr} {lpos : Pos} {V : Addr → DVars} {O : Addr → DOwn} (h : EvArgs C vars own lpos elts ds) (hn : ds.length ≤ 1000) (hsto : ∀ a, Sto C vars ((a, OLst ds) :: own) x (.raw (.ref a)) (V a) (O a)) (k : ∀ a, Ex C (V a) (O a) rest Q) (hsw : swapsWith (.List elts lpos) (some (.Name x p')) pos.line C.env = pure false) :
    Ex2 C vars own (.Assign [.Name x p'] (.List elts lpos) pos) rest Q := fun g s hs =>
  wpAny_Assign_Name (List_ (wmono (h g s hs) fun vs s₁ ⟨g₁, x₁, r₁⟩ => wpAny_newObj_type (by
    have a₁ := hs.grow x₁
    have a₂ := a₁.newOwn (a := s₁.heap.objs.size) (o := { cls := .type "list", data := .seq vs.toArray }) (P := OLst ds) (s' := { s₁ with heap := s₁.heap.push { cls := .type "list", data := .seq vs.toArray } }) ⟨_, _, rfl, fun b o e => Heap.get?_push_of_some _ e⟩ (by
      cases e : s₁.heap.get? s₁.heap.objs.size with
      | none => rfl
      | some o' => exact absurd (Heap.lt_size e) (Nat.lt_irrefl _)) (Heap.get?_push_size _ rfl) ⟨0, vs, rfl, r₁⟩ OLst.mono
    exact wmono (hsto _ g₁ _ _ a₂ (.raw _)) fun _ s₂ ⟨g₂, x₂, a₂⟩ => k _ g₂ s₂ a₂) (by show vs.toArray.size ≤ sizeLine; rw [List.size_toArray, r₁.length]; exact Nat.le_trans hn (by decide)))) hsw
noncomputable def tyD : D → String
  | .str _ => "str"
  | .lst _ => "list"
  | .tup _ => "tuple"
  | _ => ""
theorem Rep.ty {g : Heap} {s : Shared} {v : Value} (r : Rep g v d) (h : Ext g s.heap) (hn : (tyD d == "") = false) : s.TypeIs v (tyD d) ∧ ∀ a, v = .ref a → ∃ ob, s.heap.get? a = some ob ∧ ob.dict = .none := by
  cases r with
  | str x t => exact ⟨typeIs_str _ _ _, fun a e => by cases e⟩
  | tup p r => obtain ⟨n, e⟩ := p; exact ⟨⟨_, h _ _ e, rfl⟩, fun a q => by cases q; exact ⟨_, h _ _ e, rfl⟩⟩
  | lst p r => obtain ⟨n, e⟩ := p; exact ⟨⟨_, h _ _ e, rfl⟩, fun a q => by cases q; exact ⟨_, h _ _ e, rfl⟩⟩
  | _ => cases hn
theorem wpAny_args {pos : Pos} {id : String} {first : List Value} {a : Expr} {E : Value → Shared → Prop} {g : Heap} {s : Shared} {R : Value → Shared → Prop} (hs : At2 C vars own g s) (ha : EvArgs C vars own pos (a :: args) ds) (he : starEach (a :: args) C.env = (false, eval a C.env) :: starEach args C.env) (hp : (backTo pos (starEach args C.env)).any (·.1) = false)
    (k : ∀ vs g' s', Gr g s g' s' → At2 C vars own g' s' → Reps g' vs ds → wpAny (model C.prog C.w) C.A (call (.builtin id) (first ++ vs)) R E s') : wpAny (model C.prog C.w) C.A (callWith pos (.builtin id) first (backTo pos (starEach (a :: args) C.env)) []) R E s := by
  have h := ha g s hs
  rw [he] at h ⊢
  exact callWith_of (P := fun h => Kp (model C.prog C.w) h (.builtin id)) (by show ((false || (backTo pos (starEach args C.env)).any (·.1)) || false) = false; rw [hp]; rfl) (fun _ x => x) (evalArgs_plain (wmono h fun vs s₂ ⟨g₂, x₂, r₂⟩ => ⟨Kp.builtin, k vs g₂ s₂ x₂ (hs.grow x₂) r₂⟩))
structure MethOk (C : Cc) (T id : String) (name : PySem.Str) (o : Expr) (args : List Expr) (apos pos : Pos) : Prop where
  c1 : attributeBase o name C.env (eval o C.env) = eval o C.env
  c2 : ((((backTo pos (starEach args C.env)).all fun x => !x.fst) && (backToKw pos (keywordEach [] C.env)).all fun x => x.fst.isSome) && decide ((args.length + ([] : List Keyword).length + if ([] : List Keyword).isEmpty = true then 0 else 1) < 30)) = true
  c3 : (apos.endLine == pos.line) = true
  pa : PlainAttrs T
  slot : Slot T name id
  hty : typeOf (.builtin id) = pure (.type "method_descriptor")
theorem Ev.meth {T id : String} {name : PySem.Str} {o a : Expr} {apos : Pos} {d₀ : D} (m : MethOk C T id name o (a :: args) apos pos) (ho : Ev C vars own o d₀) (hT : tyD d₀ = T) (hn : (T == "") = false) (ha : EvArgs C vars own pos (a :: args) ds) (f : FnC C (.builtin id) (d₀ :: ds) d)
    (he : starEach (a :: args) C.env = (false, eval a C.env) :: starEach args C.env) (hp : (backTo pos (starEach args C.env)).any (·.1) = false) : Ev C vars own (.Call (.Attribute o name apos) (a :: args) [] pos) d := fun g s hs => by
  subst hT
  refine wpAny_Call_method m.c1 m.c2 m.c3 m.pa m.slot m.hty (ho.run hs fun ov g₁ s₁ x₁ a₁ r₁ => ?_)
  obtain ⟨t1, t2⟩ := r₁.ty a₁.sub hn
  refine ⟨t1, t2, wpAny_args a₁ ha he hp fun vs g₂ s₂ x₂ a₂ r₂ => ?_⟩
  exact wmono (f g₂ s₂ (ov :: vs) a₂.fz (.cons (r₁.ext x₂.ext) r₂)) fun v s' h => h.after (x₁.trans x₂)
theorem x_append {o e : Expr} {apos : Pos} {a : Addr} (m : MethOk C "list" "list.append" "append" o [e] apos p') (ho : Ev C vars own o (.raw (.ref a))) (hm : (a, OLst ds) ∈ own) (hv : Ev C vars own e d) (u : DPut a (OLst (ds ++ [d])) own own') (hl : ds.length ≤ 1000000) (k : Ex C vars own' rest Q)
    (he : starEach [e] C.env = [(false, eval e C.env)]) (hi : interactive C.env = false) (hw : swapsWith (.Call (.Attribute o "append" apos) [e] [] p') none pos.line C.env = pure false) :
    Ex2 C vars own (.Expr (.Call (.Attribute o "append" apos) [e] [] p') pos) rest Q := fun g s hs => by
  refine wpAny_Expr (wpAny_Call_method m.c1 m.c2 m.c3 m.pa m.slot m.hty (ho.run hs fun ov g₁ s₁ x₁ a₁ r₁ => ?_)) hi hw
  first | cases r₁ using Reps.eNil | cases r₁ using Rep.eInt | cases r₁ using Rep.eRaw | cases r₁ using Rep.eNone | cases r₁ using Rep.eStr | cases r₁ using Rep.eBool | cases r₁
  obtain ⟨o, e0, n, vs, rfl, r⟩ := a₁.known (.inl hm)
  refine ⟨⟨_, e0, rfl⟩, fun a q => by cases q; exact ⟨_, e0, rfl⟩, wpAny_args a₁ (EvArgs.cons hv EvArgs.nil he) he rfl fun ws g₂ s₂ x₂ a₂ r₂ => ?_⟩
  cases r₂ using Reps.eCons with
  | cons r₂ rs =>
    first | cases rs using Reps.eNil | cases rs using Rep.eInt | cases rs using Rep.eRaw | cases rs using Rep.eNone | cases rs using Rep.eStr | cases rs using Rep.eBool | cases rs
    obtain ⟨o, e0, n, vs, rfl, r⟩ := a₂.known (.inl hm)
    refine wpAny_list_append_plain (s := s₂) (items := vs.toArray) ⟨n, e0⟩ (fun h' hl sb => ?_) (by rw [List.size_toArray, r.length]; exact Nat.le_trans hl (by decide))
    refine k g₂ _ (a₂.put (t := s₂.toks) u (fun b o hb e => (sb.2 b hb).trans e) ?_ OLst.mono)
    obtain ⟨n', e'⟩ := hl
    exact ⟨_, e', n', vs ++ [_], by simp, r.append (.cons r₂ .nil)⟩
end
end Mine
end
section
open PySem PySem.W PyProof.Rows PySem.Calls
set_option Elab.async false
set_option linter.unusedVariables false
namespace Mine
noncomputable abbrev Ls (l : List Nat) : PySem.Str := ⟨l.toArray⟩
theorem Ls_len (l : List Nat) : (Ls l).length = l.length := by show l.toArray.size = _; simp
theorem Ls_inj {a b : List Nat} : Ls a = Ls b ↔ a = b := by
  constructor
  · intro h
    have := congrArg (fun s : PySem.Str => s.cps.toList) h
    simpa using this
  · intro h; rw [h]
theorem Ls_app (a b : List Nat) : Ls a ++ Ls b = Ls (a ++ b) := by
  show (⟨a.toArray ++ b.toArray⟩ : PySem.Str) = _
  simp
noncomputable def pySl {α : Type} (xs : List α) (lo hi st : Option Int) : List α := (sliceRange (sliceBounds lo hi st xs.length).1 (sliceBounds lo hi st xs.length).2.1 (sliceBounds lo hi st xs.length).2.2).filterMap (xs[·]?)
theorem Reps.pick {g : Heap} {vs : List Value} {ds : List D} (r : Reps g vs ds) : ∀ is : List Nat, Reps g (is.filterMap (vs[·]?)) (is.filterMap (ds[·]?))
  | [] => .nil
  | i :: is => by
    rw [List.filterMap_cons, List.filterMap_cons]
    cases h : vs[i]? with
    | none =>
      have : ds[i]? = none := by
        rw [List.getElem?_eq_none_iff] at h ⊢
        rw [← r.length]; exact h
      rw [this]; exact Reps.pick r is
    | some v =>
      obtain ⟨d, e, q⟩ := r.getv h
      rw [e]; exact .cons q (Reps.pick r is)
theorem Reps.sl {g : Heap} {vs : List Value} {ds : List D} (r : Reps g vs ds) (lo hi st : Option Int) : Reps g (pySl vs lo hi st) (pySl ds lo hi st) := by
  unfold pySl
  rw [r.length]
  exact r.pick _
theorem slicePick_eq (vs : List Value) (lo hi st : Option Int) : slicePick vs.toArray lo hi st = (pySl vs lo hi st).toArray := by
  unfold slicePick pySl
  simp
theorem range_pick {α : Type} (xs : List α) (a : Nat) : ∀ n, a + n ≤ xs.length → ((List.range n).map fun k : Nat => ((a : Int) + 1 * (k : Int)).toNat).filterMap (xs[·]?) = (xs.drop a).take n
  | 0, _ => by simp
  | n + 1, hn => by
    rw [List.range_succ, List.map_append, List.filterMap_append, range_pick xs a n (by (first | lia | omega)), List.take_add_one]
    simp only [List.map_cons, List.map_nil, List.filterMap_cons, List.filterMap_nil]
    rw [show ((a : Int) + 1 * (n : Int)).toNat = a + n by (first | lia | omega), List.getElem?_drop, List.getElem?_eq_getElem (by (first | lia | omega))]
    rfl
theorem sl_gen {α : Type} (xs : List α) (a b : Nat) (hb : b ≤ xs.length) : (sliceRange (a : Int) (b : Int) 1).filterMap (xs[·]?) = (xs.take b).drop a := by
  unfold sliceRange
  simp only [show (1 : Int) > 0 by decide, if_true]
  by_cases h : (a : Int) < b
  · rw [if_pos h, show (((b : Int) - a + 1 - 1) / 1).toNat = b - a by (first | lia | omega), range_pick xs a (b - a) (by (first | lia | omega)), List.drop_take]
  · rw [if_neg h]
    simp only [Int.toNat_zero, List.range_zero, List.map_nil, List.filterMap_nil]
    rw [List.drop_eq_nil_of_le (by rw [List.length_take]; (first | lia | omega))]
theorem sl_ab {α : Type} (xs : List α) (a b : Nat) : pySl xs (some (a : Int)) (some (b : Int)) none = (xs.take b).drop a := by
  unfold pySl sliceBounds
  simp only [Option.getD_none, show (1 : Int) > 0 by decide, if_true, show ¬ ((a : Int) < 0) by (first | lia | omega), show ¬ ((b : Int) < 0) by (first | lia | omega), if_false]
  rw [show max 0 (min (a : Int) xs.length) = ((min a xs.length : Nat) : Int) by (first | lia | omega), show max 0 (min (b : Int) xs.length) = ((min b xs.length : Nat) : Int) by (first | lia | omega), sl_gen xs _ _ (by (first | lia | omega))]
  by_cases h : b ≤ xs.length
  · rw [Nat.min_eq_left h]
    by_cases h2 : a ≤ xs.length
    · rw [Nat.min_eq_left h2]
    · rw [List.drop_eq_nil_of_le (by rw [List.length_take]; (first | lia | omega)), List.drop_eq_nil_of_le (by rw [List.length_take]; (first | lia | omega))]
  · rw [show min b xs.length = xs.length by (first | lia | omega), List.take_of_length_le (Nat.le_refl _), List.take_of_length_le (by (first | lia | omega))]
    by_cases h2 : a ≤ xs.length
    · rw [Nat.min_eq_left h2]
    · rw [List.drop_eq_nil_of_le (by (first | lia | omega)), List.drop_eq_nil_of_le (by (first | lia | omega))]
theorem sl_b {α : Type} (xs : List α) (b : Nat) : pySl xs none (some (b : Int)) none = xs.take b := by
  have := sl_ab xs 0 b
  simp only [List.drop_zero] at this
  rw [← this]
  unfold pySl sliceBounds
  simp only [Option.getD_none, show (1 : Int) > 0 by decide, if_true]
  rw [show max 0 (min (if ((0 : Nat) : Int) < 0 then ((0 : Nat) : Int) + xs.length else ((0 : Nat) : Int)) (xs.length : Int)) = 0 by simp; (first | lia | omega)]
theorem sl_a {α : Type} (xs : List α) (a : Nat) : pySl xs (some (a : Int)) none none = xs.drop a := by
  have := sl_ab xs a xs.length
  rw [List.take_length] at this
  rw [← this]
  unfold pySl sliceBounds
  simp only [Option.getD_none, show (1 : Int) > 0 by decide, if_true]
  rw [show max 0 (min (if (xs.length : Int) < 0 then (xs.length : Int) + xs.length else (xs.length : Int)) (xs.length : Int)) = xs.length by rw [if_neg (by (first | lia | omega))]; (first | lia | omega)]
theorem bounds1 (lo hi : Option Int) (n : Nat) : ∃ a b : Nat, sliceBounds lo hi none n = ((a : Int), (b : Int), 1) ∧ b ≤ n := by
  unfold sliceBounds
  simp only [Option.getD_none, show (1 : Int) > 0 by decide, if_true]
  cases lo with
  | none =>
    cases hi with
    | none => exact ⟨0, n, rfl, Nat.le_refl _⟩
    | some h => exact ⟨0, (max 0 (min (if h < 0 then h + n else h) (n : Int))).toNat, by simp, Int.toNat_le.mpr (Int.max_le.mpr ⟨Int.natCast_nonneg _, Int.min_le_right _ _⟩)⟩
  | some l =>
    cases hi with
    | none => exact ⟨(max 0 (min (if l < 0 then l + n else l) (n : Int))).toNat, n, by simp, Nat.le_refl _⟩
    | some h => exact ⟨(max 0 (min (if l < 0 then l + n else l) (n : Int))).toNat, (max 0 (min (if h < 0 then h + n else h) (n : Int))).toNat, by simp, Int.toNat_le.mpr (Int.max_le.mpr ⟨Int.natCast_nonneg _, Int.min_le_right _ _⟩)⟩
theorem slice_Ls (l : List Nat) (lo hi : Option Int) : Txt.slice (Ls l) lo hi = Ls (pySl l lo hi none) := by
  have e : Builtin.Str.strSliceIndices lo hi 1 (Ls l).length = sliceRange (sliceBounds lo hi none l.length).1 (sliceBounds lo hi none l.length).2.1 (sliceBounds lo hi none l.length).2.2 := by
    rw [Ls_len]
    rfl
  have e2 : (⟨((Builtin.Str.strSliceIndices lo hi 1 (Ls l).length).filterMap ((Ls l).cps[·]?)).toArray⟩ : PySem.Str) = Ls (pySl l lo hi none) := by
    rw [e]
    unfold pySl
    simp
  unfold Txt.slice
  split
  · rename_i h
    have hl : (Builtin.Str.strSliceIndices lo hi 1 (Ls l).length).length = (Ls l).length := by simpa using h
    rw [e, Ls_len] at hl
    congr 2
    unfold pySl
    obtain ⟨a, b, q, hb⟩ := bounds1 lo hi l.length
    rw [q] at hl ⊢
    dsimp only at hl ⊢
    rw [sl_gen l a b hb]
    unfold sliceRange at hl
    simp only [show (1 : Int) > 0 by decide, if_true, List.length_map, List.length_range] at hl
    by_cases c : (a : Int) < b
    · rw [if_pos c] at hl
      rw [show a = 0 by (first | lia | omega), show b = l.length by (first | lia | omega)]
      simp
    · rw [if_neg c] at hl
      have : l = [] := List.eq_nil_of_length_eq_zero (by simpa using hl.symm)
      subst this; simp
  · exact e2
end Mine
end
section
open PySem PySem.W PyProof.Rows PySem.Calls
set_option Elab.async false
set_option linter.unusedVariables false
namespace Mine
section
variable {C : Cc} {vars vars' vars'' : DVars} {own own' own'' : DOwn} {Q : Flow → Shared → Prop} {d d₁ d₂ : D} {ds : List D} {rest : List Stmt} {e l r value slice test body orelse : Expr} {args : List Expr} {pos p' p : Pos} {x : PySem.Str} {fv : Value} {cs ct : List Nat} {i j : Int}
theorem Ev.itemStr {c : Nat} (hv : Ev C vars own value (.str (Ls cs))) (hi : Ev C vars own slice (.int i)) (h0 : 0 ≤ i) (hc : cs[i.toNat]? = some c) (hl : cs.length ≤ 1000000) (hs : ∀ o i, subscripted slice false o i = operate [o, i] (getItem o i)) : Ev C vars own (.Subscript value slice pos) (.str (Ls [c])) := fun g s a =>
  Subscript_ (hv.run a fun v₁ g₁ s₁ x₁ a₁ r₁ => hi.run a₁ fun v₂ g₂ s₂ x₂ a₂ r₂ => by
    cases r₁; cases r₂
    have hlt : i.toNat < cs.length := by
      rcases Nat.lt_or_ge i.toNat cs.length with h | h
      · exact h
      · rw [List.getElem?_eq_none h] at hc; cases hc
    refine tail_any (typeIs_str s₂ _ _) F.slot_str_getitem.lookup (P.getItem_str (c := c) ?_ ?_ ⟨g₂, (x₁.trans x₂).trans (Gr.tok a₂.sub _), .str _ _⟩) (hs _ _)
    · have a : decide (i < -(2 ^ 63 : Int)) = false := decide_eq_false (by (first | lia | omega))
      have b : decide (i ≥ 2 ^ 63) = false := decide_eq_false (by (first | lia | omega))
      rw [a, b]; rfl
    · have : seqIndex? i (Ls cs).length = some i.toNat := by
        unfold seqIndex?
        rw [Ls_len]
        split <;> rename_i q <;> simp_all <;> (first | lia | omega)
      rw [this]
      show cs.toArray[i.toNat]? = some c
      simpa using hc)
theorem Ev.itemL (hv : EvL C vars own value ds) (hi : Ev C vars own slice (.int i)) (h0 : 0 ≤ i) (hc : ds[i.toNat]? = some d) (hl : ds.length ≤ 1000000) (hs : ∀ o i, subscripted slice false o i = operate [o, i] (getItem o i)) : Ev C vars own (.Subscript value slice pos) d := fun g s a =>
  Subscript_ (hv.run a fun v₁ g₁ s₁ x₁ a₁ n₁ => hi.run a₁ fun v₂ g₂ s₂ x₂ a₂ r₂ => by
    first | cases r₂ using Reps.eNil | cases r₂ using Rep.eInt | cases r₂ using Rep.eRaw | cases r₂ using Rep.eNone | cases r₂ using Rep.eStr | cases r₂ using Rep.eBool | cases r₂
    obtain ⟨b, vs, rfl, p, r⟩ := n₁.ext x₂
    obtain ⟨v, e, q⟩ := r.get hc
    have hlt : i.toNat < ds.length := by
      rcases Nat.lt_or_ge i.toNat ds.length with h | h
      · exact h
      · rw [List.getElem?_eq_none h] at hc; cases hc
    exact tail_any p.isList.typeIs slot_list_getitem.lookup (wpAny_getItem_list p.isList h0 (by (first | lia | omega)) (by simpa using e) ⟨g₂, x₁.trans x₂, q⟩) (hs _ _))
noncomputable def EvPart (C : Cc) (vars : DVars) (own : DOwn) : Option Expr → Option Int → Prop
  | some e, some i => Ev C vars own e (.int i)
  | .none, .none => True
  | _, _ => False
theorem EvPart.run {oe : Option Expr} {oi : Option Int} (h : EvPart C vars own oe oi) {g : Heap} {s : Shared} (hs : At2 C vars own g s) {Q : Value → Shared → Prop} (k : ∀ v g' s', Gr g s g' s' → At2 C vars own g' s' → IsPart v oi → Q v s') : wpAny (model C.prog C.w) C.A (evalPart oe C.env) Q Ff s := by
  cases oe with
  | none =>
    cases oi with
    | none => exact wpAny_pure (k _ g s (Gr.refl hs.sub) hs .none)
    | some i => exact h.elim
  | some e =>
    cases oi with
    | none => exact h.elim
    | some i => exact Ev.run h hs fun v g' s' x a r => by cases r; exact k _ g' s' x a (.int _ _)
theorem slices {lo hi st : Option Expr} {li hi' si : Option Int} (h1 : EvPart C vars own lo li) (h2 : EvPart C vars own hi hi') (h3 : EvPart C vars own st si) {g : Heap} {s : Shared} (hs : At2 C vars own g s) {Q : Value → Shared → Prop}
    (k : ∀ vl vu vs g' s', Gr g s g' s' → At2 C vars own g' s' → IsPart vl li → IsPart vu hi' → IsPart vs si → Q (.ref s'.heap.objs.size) { s' with heap := s'.heap.push { cls := .type "slice", data := .fields #[vl, vu, vs] } }) : wpAny (model C.prog C.w) C.A (eval (.Slice lo hi st p) C.env) Q Ff s :=
  wpAny_Slice (h1.run hs fun v₁ g₁ s₁ x₁ a₁ q₁ => h2.run a₁ fun v₂ g₂ s₂ x₂ a₂ q₂ => h3.run a₂ fun v₃ g₃ s₃ x₃ a₃ q₃ => k v₁ v₂ v₃ g₃ s₃ ((x₁.trans x₂).trans x₃) a₃ q₁ q₂ q₃)
theorem Ev.sliceL {lo hi st : Option Expr} {li hi' si : Option Int} (hv : EvL C vars own value ds) (h1 : EvPart C vars own lo li) (h2 : EvPart C vars own hi hi') (h3 : EvPart C vars own st si) (h0 : si ≠ some 0) (hl : ds.length ≤ 1000000) {ops : Value → Value → List Value} (hs : ∀ o i, subscripted (.Slice lo hi st p) false o i = operate (ops o i) (getItem o i)) :
    Ev C vars own (.Subscript value (.Slice lo hi st p) pos) (.lst (pySl ds li hi' si)) := fun g s a =>
  Subscript_ (hv.run a fun v₁ g₁ s₁ x₁ a₁ n₁ => slices h1 h2 h3 a₁ fun vl vu vs g₂ s₂ x₂ a₂ q1 q2 q3 => by
    obtain ⟨b, ws, rfl, p, r⟩ := n₁.ext x₂
    have p' : PlainLst (s₂.heap.push { cls := .type "slice", data := .fields #[vl, vu, vs] }) b ws := p.ext fun _ _ e => Heap.get?_push_of_some _ e
    refine tail_any p'.isList.typeIs slot_list_getitem.lookup (wpAny_getItem_list_slice p'.isList (Heap.IsSliceOf.new _ _ _ _) q1 q2 q3 h0 ?_ (by rw [List.size_toArray, r.length]; exact Nat.le_trans hl (by decide))) (hs _ _)
    have y : Gr g₂ s₂ g₂ { s₂ with heap := s₂.heap.push { cls := .type "slice", data := .fields #[vl, vu, vs] } } := Gr.same a₂.sub ⟨_, _, rfl, fun b o e => Heap.get?_push_of_some _ e⟩
    obtain ⟨y₂, e₂⟩ := Gr.push (g := g₂) (s := { s₂ with heap := s₂.heap.push { cls := .type "slice", data := .fields #[vl, vu, vs] } }) (o := { cls := .type "list", data := .seq (slicePick ws.toArray li hi' si) }) (t := s₂.toks) y.sub
    refine ⟨_, ((x₁.trans x₂).trans y).trans y₂, .lst ⟨0, ?_⟩ ((r.sl li hi' si).ext y₂.ext)⟩
    rw [← slicePick_eq]; exact e₂)
theorem Ev.sliceStr {lo hi : Option Expr} {li hi' : Option Int} (hv : Ev C vars own value (.str (Ls cs))) (h1 : EvPart C vars own lo li) (h2 : EvPart C vars own hi hi') (hl : cs.length ≤ 1000000) (hs : ∀ o i, subscripted (.Slice lo hi .none p) false o i = operate [i, o] (getItem o i)) :
    Ev C vars own (.Subscript value (.Slice lo hi .none p) pos) (.str (Ls (pySl cs li hi' .none))) := fun g s a =>
  Subscript_ (hv.run a fun v₁ g₁ s₁ x₁ a₁ r₁ => slices (st := .none) (si := .none) h1 h2 trivial a₁ fun vl vu vs g₂ s₂ x₂ a₂ q1 q2 q3 => by
    first | cases r₁ using Reps.eNil | cases r₁ using Rep.eInt | cases r₁ using Rep.eRaw | cases r₁ using Rep.eNone | cases r₁ using Rep.eStr | cases r₁ using Rep.eBool | cases r₁
    have hk : KeptH (fun h => Ext s₂.heap h) := fun h ob e b o q => Heap.get?_push_of_some _ (e b o q)
    have fin : ∀ h' t' k, Ext s₂.heap h' → Gives (.str (Ls (pySl cs li hi' .none))) g s (.str (Txt.slice (Ls cs) li hi') t') { s₂ with heap := h', toks := k } := fun h' t' k e => by
      rw [slice_Ls]
      exact ⟨g₂, (x₁.trans x₂).trans (Gr.same a₂.sub ⟨h', k, rfl, e⟩), .str _ _⟩
    have hsz : (Ls cs).length ≤ sizeLine := by rw [Ls_len]; exact Nat.le_trans hl (by decide)
    first | cases q3 using Reps.eNil | cases q3 using Rep.eInt | cases q3 using Rep.eRaw | cases q3 using Rep.eNone | cases q3 using Rep.eStr | cases q3 using Rep.eBool | cases q3
    cases q1 with
    | none =>
      cases q2 with
      | none => obtain ⟨T, id, hl, hT, hg⟩ := SBH.sliceItem_nn (prog := C.prog) (w := C.w) (A := C.A) (E := Ff) (s := s₂) (x := Ls cs) hk (fun _ _ e => e) fin hsz; exact tail_any hT hl hg (hs _ _)
      | int i t => obtain ⟨T, id, hl, hT, hg⟩ := SBH.sliceItem_ns (prog := C.prog) (w := C.w) (A := C.A) (E := Ff) (s := s₂) (x := Ls cs) (uj := t) hk (fun _ _ e => e) fin hsz; exact tail_any hT hl hg (hs _ _)
    | int i t =>
      cases q2 with
      | none => obtain ⟨T, id, hl, hT, hg⟩ := SBH.sliceItem_sn (prog := C.prog) (w := C.w) (A := C.A) (E := Ff) (s := s₂) (x := Ls cs) (ui := t) hk (fun _ _ e => e) fin hsz; exact tail_any hT hl hg (hs _ _)
      | int j u => obtain ⟨T, id, hl, hT, hg⟩ := SBH.sliceItem_ss (prog := C.prog) (w := C.w) (A := C.A) (E := Ff) (s := s₂) (x := Ls cs) (ui := t) (uj := u) hk (fun _ _ e => e) fin hsz; exact tail_any hT hl hg (hs _ _))
theorem bits_small {a : Int} (h : a.natAbs < 2 ^ 63) : Builtin.Int.intBits a ≤ 64 := by
  unfold Builtin.Int.intBits
  split
  · (first | lia | omega)
  · rename_i q
    have q' : a ≠ 0 := by simpa using q
    have : a.natAbs.log2 < 63 := (Nat.log2_lt (by (first | lia | omega))).mpr h
    (first | lia | omega)
theorem Bin.mulL {a b : Int} (h : a.natAbs < 2 ^ 63) : Bin C .Mult (.int a) (.int b) (.int (a * b)) := fun g s v₁ v₂ f r₁ r₂ => by cases r₁; cases r₂; exact PyProof.Rows.mul_int ⟨g, Gr.tok f.sub _, .int _ _⟩ (.of_left (bits_small h))
theorem Bin.div {a b : Int} (h : b ≠ 0) (hs : b.natAbs < 1073741824) : Bin C .FloorDiv (.int a) (.int b) (.int (a.fdiv b)) := fun g s v₁ v₂ f r₁ r₂ => by cases r₁; cases r₂; exact floordiv_int h ⟨g, Gr.tok f.sub _, .int _ _⟩ (hp := .inl (PyProof.noPylong_small hs))
theorem Bin.addStr (h : cs.length + ct.length ≤ 1000000) : Bin C .Add (.str (Ls cs)) (.str (Ls ct)) (.str (Ls (cs ++ ct))) := fun g s v₁ v₂ f r₁ r₂ => by
  cases r₁; cases r₂
  refine SB.add (fun t' k => ?_) (by rw [Ls_len, Ls_len]; exact Nat.le_trans h (by decide))
  rw [Ls_app]
  exact ⟨g, Gr.tok f.sub _, .str _ _⟩
theorem mul_Ls (n : Nat) : ∀ acc : Array Nat, (List.replicate n cs.toArray).foldl (· ++ ·) acc = acc ++ (List.replicate n cs).flatten.toArray := by
  induction n with
  | zero => intro acc; simp
  | succ n ih => intro acc; rw [List.replicate_succ, List.foldl_cons, ih, List.replicate_succ, List.flatten_cons]; simp
theorem Bin.mulStr {n : Nat} (h : cs.length * n ≤ 1000000) (hn : n ≤ 1000000) (h1 : 1 ≤ n) : Bin C .Mult (.str (Ls cs)) (.int n) (.str (Ls (List.replicate n cs).flatten)) := fun g s v₁ v₂ f r₁ r₂ => by
  cases r₁; cases r₂
  have e : Txt.mul (Ls cs) n = Ls (List.replicate n cs).flatten := by
    unfold Txt.mul
    rw [if_neg (by (first | lia | omega))]
    split
    · rename_i q
      simp only [Bool.or_eq_true, beq_iff_eq] at q
      rcases q with q | q
      · have : n = 1 := by (first | lia | omega)
        subst this; simp
      · rw [Ls_len] at q
        have : cs = [] := List.eq_nil_of_length_eq_zero q
        subst this; simp
    · rw [show ((n : Int).toNat) = n by (first | lia | omega)]
      have := mul_Ls (cs := cs) n #[]
      simp only [Array.empty_append] at this
      rw [this]
  refine SB.mul ⟨?_, fun _ _ => ?_, fun _ _ => ?_⟩ fun t' k => ?_
  · have a : decide ((n : Int) < -(2 ^ 63 : Int)) = false := decide_eq_false (by (first | lia | omega))
    have b : decide ((n : Int) ≥ 2 ^ 63) = false := decide_eq_false (by (first | lia | omega))
    rw [a, b]; rfl
  · rw [Ls_len]
    intro q
    have h2 : ((2 ^ 63 - 1 : Int)) / n * n ≤ 2 ^ 63 - 1 := Int.ediv_mul_le _ (by (first | lia | omega))
    have h3 : (2 ^ 63 - 1 : Int) < ((2 ^ 63 - 1 : Int) / n + 1) * n := by
      have := Int.lt_ediv_add_one_mul_self (2 ^ 63 - 1 : Int) (show (0 : Int) < n by (first | lia | omega))
      exact this
    have h4 : ((2 ^ 63 - 1 : Int) / n + 1) * n ≤ (cs.length : Int) * n := Int.mul_le_mul_of_nonneg_right (by (first | lia | omega)) (by (first | lia | omega))
    have h5 : ((cs.length * n : Nat) : Int) = (cs.length : Int) * n := by push_cast; rfl
    (first | lia | omega)
  · rw [Ls_len, show ((n : Int).toNat) = n by (first | lia | omega)]
    unfold Builtin.Str.tooLong
    exact decide_eq_false (by have : sizeLine = 2 ^ 24 := rfl; (first | lia | omega))
  · rw [e]; exact ⟨g, Gr.tok f.sub _, .str _ _⟩
theorem Ev.neg {a : Int} (h : Ev C vars own e (.int a)) : Ev C vars own (.UnaryOp .USub e pos) (.int (-a)) := fun g s hs =>
  UnaryOp_ (h.run hs fun v g₁ s₁ x₁ a₁ r₁ => by cases r₁; exact PyProof.Rows.neg_int ⟨g₁, x₁.trans (Gr.tok a₁.sub _), .int _ _⟩)
end
end Mine
end
section
open PySem PySem.W PyProof.Rows PySem.Calls
set_option Elab.async false
set_option linter.unusedVariables false
namespace Mine
theorem new_none {h : Heap} : h.get? h.objs.size = none := by
  cases e : h.get? h.objs.size with
  | none => rfl
  | some o => exact absurd (Heap.lt_size e) (Nat.lt_irrefl _)
noncomputable def IsRng (a b : Int) : Heap → Value → Prop := fun g v => ∃ r t u w, v = .ref r ∧ IsRange g r a b 1 t u w
theorem IsRng.mono {a b : Int} : ∀ g g' v, Ext g g' → IsRng a b g v → IsRng a b g' v := by
  rintro _ _ _ k ⟨r, t, u, w, e, h⟩
  exact ⟨r, t, u, w, e, k _ _ h⟩
noncomputable abbrev dRng (a b : Int) : D := .sp (IsRng a b)
noncomputable def rangeI (a b : Int) : List Int := (List.range (b - a).toNat).map fun k : Nat => a + (k : Int)
theorem rangeI_len (a b : Int) : (rangeI a b).length = (b - a).toNat := by simp [rangeI]
noncomputable def ItD (C : Cc) (d : D) (ds : List D) : Prop := ∀ g s v, Fz C.K g s → Rep g v d → wpAny (model C.prog C.w) C.A (pyIter v) (fun it s₂ => ∃ g₂ I fp wr P St, it = .ref I ∧ ItOk C ds g s g₂ s₂ I fp wr P St) Ff s
theorem go_plain {M : Model} {A : Around} {E : Value → Shared → Prop} {s : Shared} {I : Addr} {o : Obj} {n : String} {v : Value} {target : Expr} {Q : Unit → Shared → Prop} (ho : s.heap.get? I = some o) (hc : o.cls = .type n)
    (hn : ["enumerate", "zip", "dict_itemiterator", "dict_reverseitemiterator", "odict_iterator", "itertools.zip_longest", "itertools.pairwise"].contains n = false) (k : Q () s) : wpAny M A (letOwnedTupleGo target (.ref I) v) Q E s := by
  have core : wpAny M A (do
      let (.ref r, .ref a) := (Value.ref I, v) | return
      let o ← load r
      match o.cls, o.data with
      | .type n, .fields vs =>
        if ["enumerate", "zip", "dict_itemiterator", "dict_reverseitemiterator", "odict_iterator", "itertools.zip_longest", "itertools.pairwise"].contains n && vs[0]? == some (rawInt a) then
          rule "for.unpacks-the-owned-tuple"
          updateField r 0 .none
      | _, _ => pure () : Sem Unit) Q E s := by
    cases v with
    | ref a =>
      refine wpAny_bind (wpAny_load ho ?_)
      rw [hc]
      cases hd : o.data with
      | fields vs => simp only [hn, Bool.false_and, Bool.false_eq_true, if_false]; exact wpAny_pure k
      | _ => exact wpAny_pure k
    | _ => exact wpAny_pure k
  unfold letOwnedTupleGo
  cases target with
  | Tuple => exact core
  | List => exact core
  | _ => exact wpAny_pure k
section
variable {C : Cc} {vars vars' vars'' : DVars} {own own' own'' : DOwn} {Q : Flow → Shared → Prop} {d d₁ d₂ : D} {ds : List D} {rest : List Stmt} {e l r value slice test body orelse : Expr} {args : List Expr} {pos p' p : Pos} {x : PySem.Str} {fv : Value} {cs ct : List Nat} {i j : Int}
theorem EvIt.of (h : Ev C vars own e d) (k : ItD C d ds) : EvIt C vars own e ds := fun g s hs => h.run hs fun v g₁ s₁ x₁ a₁ r₁ => wmono (k g₁ s₁ v a₁.fz r₁) fun it s₂ ⟨g₂, I, fp, wr, P, St, q, X⟩ => by
  have non : ∀ b, s₁.heap.get? b = none → s.heap.get? b = none := fun b h => by
    cases q : s.heap.get? b with
    | none => rfl
    | some o => exact (live_ne h (keepsExt x₁.keeps _ _ q)).elim
  exact ⟨g₂, I, fp, wr, P, St, q, ⟨X.W, x₁.trans X.gr, X.item, X.st, fun b hb => (X.fpn b hb).imp id (non b), X.fpl, fun b hb => ⟨(X.wrn b hb).1, non b (X.wrn b hb).2⟩, X.live, X.go⟩⟩
theorem FnC.range1 {b : Int} : FnC C (.type "range") [.int b] (dRng 0 b) := fun g s vs f r => by
  cases r using Reps.eCons with
  | cons r rs =>
    cases rs; cases r
    refine call_range_1 ?_
    obtain ⟨y, e⟩ := Gr.push (g := g) (s := s) (o := { cls := .type "range", data := .fields #[.int 0 s.toks, .int b _, .int 1 (s.toks + 1)] }) (t := s.toks + 1 + 1) f.sub
    exact ⟨_, y, .sp ⟨_, _, _, _, rfl, e⟩ IsRng.mono⟩
theorem FnC.range2 {a b : Int} : FnC C (.type "range") [.int a, .int b] (dRng a b) := fun g s vs f r => by
  cases r using Reps.eCons with
  | cons r rs =>
    first | cases r using Reps.eNil | cases r using Rep.eInt | cases r using Rep.eRaw | cases r using Rep.eNone | cases r using Rep.eStr | cases r using Rep.eBool | cases r
    cases rs using Reps.eCons with
    | cons r rs =>
      cases r; cases rs
      refine call_range_2 ?_
      obtain ⟨y, e⟩ := Gr.push (g := g) (s := s) (o := { cls := .type "range", data := .fields #[.int a _, .int b _, .int 1 s.toks] }) (t := s.toks + 1) f.sub
      exact ⟨_, y, .sp ⟨_, _, _, _, rfl, e⟩ IsRng.mono⟩
theorem ItD.rng {a b : Int} (hh : C.A.handled = none) (ha : -(2 ^ 62) < a) (hb : b < 2 ^ 62) (ha' : a < 2 ^ 62) (hb' : -(2 ^ 62) < b) : ItD C (dRng a b) (dInts (rangeI a b)) := fun g s v f r => by
  cases r using Rep.eSp with
  | sp h _ =>
    obtain ⟨r, t, u, w, rfl, hr⟩ := h
    refine wpAny_pyIter_range (f.sub _ _ hr) (small_one ha hb ha' hb') ?_
    have hlen : (dInts (rangeI a b)).length = (b - a).toNat := by simp [dInts, rangeI]
    have W := Walks.range (prog := C.prog) (w := C.w) hh s.heap.objs.size a 1 (b - a).toNat
    rw [← hlen] at W
    refine ⟨g, _, _, _, _, _, rfl, W, Gr.same f.sub ⟨_, _, rfl, fun _ _ e => Heap.get?_push_of_some _ e⟩, fun i v d hd hv => ?_, ?_, fun b hb => .inr ?_, fun b hb => ?_, fun b hb => ?_, fun i h st b hb => ?_, fun target i s' v Q' st k => ?_⟩
    · obtain ⟨t, rfl⟩ := hv
      simp only [dInts, rangeI, List.map_map, List.getElem?_map, Option.map_eq_some_iff] at hd
      obtain ⟨k, hk, rfl⟩ := hd
      rw [List.getElem?_range (by
        rcases Nat.lt_or_ge i (b - a).toNat with q | q
        · exact q
        · rw [List.getElem?_eq_none (by simpa using q)] at hk; cases hk)] at hk
      first | cases hk using Reps.eNil | cases hk using Rep.eInt | cases hk using Rep.eRaw | cases hk using Rep.eNone | cases hk using Rep.eStr | cases hk using Rep.eBool | cases hk
      simp only [Function.comp, Int.mul_one]
      exact .int _ _
    · show (s.heap.push _).get? _ = some _
      rw [rangeSize_one, hlen, Heap.get?_push_size _ rfl]
      have q : (if a < b then b - a else 0) = (((b - a).toNat : Nat) : Int) := by split <;> (first | lia | omega)
      rw [q]
      simp
    · rw [List.mem_singleton.mp hb]; exact new_none
    · rw [List.mem_singleton.mp hb]; exact ⟨_, Heap.get?_push_size _ rfl⟩
    · rw [List.mem_singleton.mp hb]
      refine ⟨?_, new_none⟩
      cases q : g.get? s.heap.objs.size with
      | none => rfl
      | some o => exact (live_ne new_none (f.sub _ _ q)).elim
    · rw [List.mem_singleton.mp hb]; exact ⟨_, st⟩
    · exact go_plain st rfl (by decide) k
theorem ItD.lst (hh : C.A.handled = none) : ItD C (.lst ds) ds := fun g s v f r => by
  cases r using Rep.eLst with
  | @lst a vs p r =>
    have p' := p.ext f.sub
    have hne : a ≠ s.heap.objs.size := by obtain ⟨n, e⟩ := p'; exact Nat.ne_of_lt (Heap.lt_size e)
    refine wpAny_pyIter_list p'.isList ?_
    have W := Walks.list (prog := C.prog) (w := C.w) hh s.heap.objs.size a hne vs.toArray
    have hlen : vs.toArray.size = ds.length := by rw [List.size_toArray, r.length]
    rw [hlen] at W
    refine ⟨g, _, _, _, _, _, rfl, W, Gr.same f.sub ⟨_, _, rfl, fun _ _ e => Heap.get?_push_of_some _ e⟩, fun i v d hd hv => ?_, ⟨⟨_, Heap.get?_push_size _ rfl, rfl, rfl⟩, p'.isList.at fun o e => Heap.get?_push_of_some _ e⟩, fun b hb => ?_, fun b hb => ?_, fun b hb => ?_, fun i h st b hb => ?_, fun target i s' v Q' st k => ?_⟩
    · obtain ⟨v', e, q⟩ := r.get hd
      have hv' : vs.toArray[i]? = some v := hv
      simp only [List.getElem?_toArray] at hv'
      rw [hv'] at e; cases e
      exact q
    · rcases List.mem_cons.mp hb with rfl | hb
      · exact .inr new_none
      · rw [List.mem_singleton.mp hb]; obtain ⟨n, e⟩ := p; exact .inl ⟨_, e⟩
    · rcases List.mem_cons.mp hb with rfl | hb
      · exact ⟨_, Heap.get?_push_size _ rfl⟩
      · rw [List.mem_singleton.mp hb]; obtain ⟨n, e⟩ := p'; exact ⟨_, Heap.get?_push_of_some _ e⟩
    · rw [List.mem_singleton.mp hb]
      refine ⟨?_, new_none⟩
      cases q : g.get? s.heap.objs.size with
      | none => rfl
      | some o => exact (live_ne new_none (f.sub _ _ q)).elim
    · rw [List.mem_singleton.mp hb]; obtain ⟨⟨o, e, _⟩, _⟩ := st; exact ⟨o, e⟩
    · obtain ⟨⟨o, e, c, _⟩, _⟩ := st; exact go_plain e c (by decide) k
noncomputable abbrev dChars (cs : List Nat) : List D := cs.map fun c => D.str (Ls [c])
theorem ItD.str (hh : C.A.handled = none) : ItD C (.str (Ls cs)) (dChars cs) := fun g s v f r => by
  first | cases r using Reps.eNil | cases r using Rep.eInt | cases r using Rep.eRaw | cases r using Rep.eNone | cases r using Rep.eStr | cases r using Rep.eBool | cases r
  have hlen : (Ls cs).cps.size = (dChars cs).length := by simp [dChars]
  have mk : ∀ (n : String) (o : Obj) (St : Nat → Heap → Prop), o.isFreed = false → Walks C.prog C.w C.A s.heap.objs.size [s.heap.objs.size] [s.heap.objs.size] (Ls cs).cps.size (SignAt (Ls cs)) St → (∀ i h, St i h → ∃ o, h.get? s.heap.objs.size = some o ∧ o.cls = .type n) → ["enumerate", "zip", "dict_itemiterator", "dict_reverseitemiterator", "odict_iterator", "itertools.zip_longest", "itertools.pairwise"].contains n = false →
      St 0 (s.heap.push o) → ∃ g₂ I fp wr P St, Value.ref s.heap.objs.size = .ref I ∧ ItOk C (dChars cs) g s g₂ { s with heap := s.heap.push o } I fp wr P St := fun n o St hf W hty hnn st => by
    rw [hlen] at W
    refine ⟨g, _, _, _, _, _, rfl, W, Gr.same f.sub ⟨_, _, rfl, fun _ _ e => Heap.get?_push_of_some _ e⟩, fun i v d hd hv => ?_, st, fun b hb => .inr ?_, fun b hb => ?_, fun b hb => ?_, fun i h st b hb => ?_, fun target i s' v Q' st k => ?_⟩
    · obtain ⟨c, u, e, rfl⟩ := hv
      simp only [dChars, List.getElem?_map, Option.map_eq_some_iff] at hd
      obtain ⟨c', e', rfl⟩ := hd
      simp only [List.getElem?_toArray] at e
      rw [e] at e'; cases e'
      exact .str _ _
    · rw [List.mem_singleton.mp hb]; exact new_none
    · rw [List.mem_singleton.mp hb]; exact ⟨_, Heap.get?_push_size _ hf⟩
    · rw [List.mem_singleton.mp hb]
      refine ⟨?_, new_none⟩
      cases q : g.get? s.heap.objs.size with
      | none => rfl
      | some o => exact (live_ne new_none (f.sub _ _ q)).elim
    · rw [List.mem_singleton.mp hb]; obtain ⟨o, e, _⟩ := hty _ _ st; exact ⟨o, e⟩
    · obtain ⟨o, e, c⟩ := hty _ _ st; exact go_plain e c hnn k
  cases ha : (Ls cs).cps.all (· < 128)
  · exact wpAny_pyIter_wide ha (mk "str_iterator" _ _ rfl (Walks.strWide hh _ _ _) (fun i h ⟨o, e, c, _⟩ => ⟨o, e, c⟩) (by decide) ⟨_, Heap.get?_push_size _ rfl, rfl, rfl⟩)
  · exact wpAny_pyIter_ascii ha (mk "str_ascii_iterator" _ _ rfl (Walks.strAscii hh _ _ _) (fun i h ⟨o, e, c, _⟩ => ⟨o, e, c⟩) (by decide) ⟨_, Heap.get?_push_size _ rfl, rfl, rfl⟩)
end
end Mine
end
section
open PySem PySem.W PyProof.Rows PySem.Calls
set_option Elab.async false
set_option linter.unusedVariables false
namespace Mine
structure RmN (n : Nat) (A : Around) : Prop where
  handled : A.handled = none
  depth : A.depth + n ≤ 400
  units : A.units + 3 * n ≤ 1000
theorem RmN.deeper {n : Nat} {A : Around} (h : RmN (n + 1) A) (env : Env) : RmN n (A.deeper env) := ⟨h.handled, by have := h.depth; show A.depth + 1 + n ≤ 400; (first | lia | omega), by have := h.units; show A.units + 3 + 3 * n ≤ 1000; (first | lia | omega)⟩
theorem RmN.le {n m : Nat} {A : Around} (h : RmN n A) (hm : m ≤ n) : RmN m A := ⟨h.handled, by have := h.depth; (first | lia | omega), by have := h.units; (first | lia | omega)⟩
noncomputable def Fn (prog : Program) (w : World) (K : Frag) (n : Nat) (fv : Value) (ds : List D) (d : D) : Prop := ∀ A, RmN n A → ∀ g s vs, Fz K g s → Reps g vs ds → wpAny (model prog w) A (call fv vs) (Gives d g s) Ff s
theorem Fn.fnc {C : Cc} {n m : Nat} {fv : Value} {ds : List D} {d : D} (h : Fn C.prog C.w C.K n fv ds d) (hA : RmN m C.A) (hm : n ≤ m) : FnC C fv ds d := fun g s vs f r => h C.A (hA.le hm) g s vs f r
inductive DV (g : Heap) : Vars → DVars → Prop
  | nil : DV g [] []
  | cons {x v d vs ds} : Rep g v d → DV g vs ds → DV g ((x, v) :: vs) ((x, d) :: ds)
inductive DO (g : Heap) : Own → DOwn → Prop
  | nil : DO g [] []
  | cell {c v d r r'} : Rep g v d → DO g r r' → DO g ((c, Cel (some v)) :: r) ((c, CelD d) :: r')
  | open_ {c r r'} : DO g r r' → DO g ((c, Cel .none) :: r) ((c, Cel0) :: r')
theorem DV.ok {g : Heap} {vs : Vars} {ds : DVars} (h : DV g vs ds) : ∀ p ∈ ds, ∃ v, (p.1, v) ∈ vs ∧ Rep g v p.2 := by
  induction h with
  | nil => intro p hp; cases hp
  | cons r _ ih =>
    intro p hp
    rcases List.mem_cons.mp hp with rfl | hp
    · exact ⟨_, .head _, r⟩
    · obtain ⟨v, h1, h2⟩ := ih p hp; exact ⟨v, .tail _ h1, h2⟩
theorem DO.names {g : Heap} {r : Own} {r' : DOwn} (h : DO g r r') : r'.map (·.1) = r.map (·.1) := by
  induction h with
  | nil => rfl
  | cell _ _ ih => rw [List.map_cons, List.map_cons, ih]
  | open_ _ ih => rw [List.map_cons, List.map_cons, ih]
theorem DO.ok {g : Heap} {r : Own} {r' : DOwn} (h : DO g r r') : ∀ p ∈ r', (∃ P, (p.1, P) ∈ r ∧ ∀ o, P o → p.2 g o) ∧ ∀ g g' o, Ext g g' → p.2 g o → p.2 g' o := by
  induction h with
  | nil => intro p hp; cases hp
  | cell rr _ ih =>
    intro p hp
    rcases List.mem_cons.mp hp with rfl | hp
    · exact ⟨⟨_, .head _, fun o e => ⟨_, e, rr⟩⟩, CelD.mono⟩
    · obtain ⟨⟨P, h1, h2⟩, m⟩ := ih p hp; exact ⟨⟨P, .tail _ h1, h2⟩, m⟩
  | open_ _ ih =>
    intro p hp
    rcases List.mem_cons.mp hp with rfl | hp
    · exact ⟨⟨_, .head _, fun o e => e⟩, fun _ _ _ _ e => e⟩
    · obtain ⟨⟨P, h1, h2⟩, m⟩ := ih p hp; exact ⟨⟨P, .tail _ h1, h2⟩, m⟩
section
variable {prog : Program} {w : World} {K : Frag} {A : Around} {s : Shared} {g : Heap}
noncomputable abbrev fC (prog : Program) (w : World) (K : Frag) (A : Around) (s : Shared) (g : Heap) (qual : PySem.Str) (sc : Scope) (L f : Addr) (cdv : Value) (cl : List (PySem.Str × Addr)) : Cc :=
  ⟨prog, w, K, A.deeper (envX qual sc L f cdv cl), s, g, envX qual sc L f cdv cl, []⟩
theorem fn_entry {name qual : PySem.Str} {params : Arguments} {body : List Stmt} {sc : Scope} {dV kV doc pm cdv ct : Value} {an : Option Addr} {fo : Obj} {f : Addr} {args : List Value} {binds : List (PySem.Str × Value)} {n : Nat} {d : D}
    {vars : Vars} {cl : Addr → List (PySem.Str × Addr)} {own : Addr → Own} {dv : DVars} {dow : Addr → DOwn}
    (hA : RmN n A) (F : Fz K g s) (ho : K.lookup f = some fo) (hd : fo.data = .func (fnX name qual params body sc [] dV kV doc pm an cdv ct)) (hcd : s.heap.CodeRec cdv qual)
    (hbind : BindsTo s (fnX name qual params body sc [] dV kV doc pm an cdv ct) ⟨args, []⟩ binds)
    (hkind : (binds.all fun y => sc.names.lookup y.1 == some .local || sc.names.lookup y.1 == some .cell) = true)
    (hnd : ((cellsFrom 0 sc.names []).map (·.1)).Nodup)
    (hcl : ∀ L, cellsFrom (L + 1) sc.names [] = cl L)
    (hvars : (vars.map fun p => bindL (fun x => sc.names.lookup x) binds (fun _ => none) p.1) = vars.map fun p => some p.2)
    (hown : ∀ L, ((cl L).map fun p => (p.2, Cel (bindC (fun x => sc.names.lookup x) binds (fun _ => none) p.1))) = own L)
    (hfl : (sc.isCoroutine || sc.isGenerator || !(sc.kind == .function)) = false)
    (hdv : DV g vars dv) (hdo : ∀ L, DO g (own L) (dow L))
    (k : ∀ L, Ex (fC prog w K A s g qual sc L f cdv (cl L)) dv (dow L) body (Fin (fC prog w K A s g qual sc L f cdv (cl L)) d)) :
    wpAny (model prog w) A (call (.ref f) args) (Gives d g s) Ff s := by
  have X := F.cx.ext F.sub
  refine r_entry (vars := vars) (cl := cl) (own := own) (Nat.lt_of_le_of_lt (Nat.le_trans (Nat.le_add_right _ _) hA.depth) (by decide)) (X.X _ _ ho) hd X.lim hcd hbind hkind hnd hcl hvars hown hfl fun L s₁ hs₁ => ?_
  refine k L g s₁ ?_
  obtain ⟨m, Fr, hm⟩ := hs₁.fr
  have hL : s.heap.get? L = none := by
    cases q : s.heap.get? L with
    | none => rfl
    | some o => exact absurd (Heap.lt_size q) (Nat.not_lt.mpr Fr.above)
  have hg : ∀ a, s.heap.get? a = none → g.get? a = none := fun a h => by
    cases q : g.get? a with
    | none => rfl
    | some o => exact (live_ne h (F.sub _ _ q)).elim
  refine ⟨Gr.same F.sub (keepsOf Fr.keep hs₁.rest), F.cx, ⟨m, Fr.ns, fun p hp => ?_⟩, ⟨hL, hg _ hL⟩, fun p hp => ?_, fun p hp => ((hdo L).ok p hp).2, by rw [(hdo L).names]; exact hs₁.nodup, fun p hp => (nomatch hp)⟩
  · obtain ⟨v, h1, h2⟩ := hdv.ok p hp
    exact ⟨v, hm _ h1, h2⟩
  · obtain ⟨⟨P, h1, h2⟩, _⟩ := (hdo L).ok p hp
    obtain ⟨⟨o, e, q⟩, h3, h4⟩ := hs₁.news _ h1
    exact ⟨⟨o, e, h2 o q⟩, h3, h4, hg _ h4⟩
end
end Mine
end
section
open PySem PySem.W PyProof.Rows PySem.Calls
set_option Elab.async false
set_option linter.unusedVariables false
namespace Mine
section
variable {C : Cc} {vars vars' vars'' : DVars} {own own' own'' : DOwn} {Q : Flow → Shared → Prop} {d d₁ d₂ : D} {ds : List D} {rest : List Stmt} {e l r value slice test body orelse : Expr} {args : List Expr} {pos p' p : Pos} {x : PySem.Str} {fv : Value} {cs ct : List Nat} {i j : Int}
noncomputable abbrev dStrs (ls : List (List Nat)) : List D := ls.map fun l => D.str (Ls l)
theorem Reps.strs {g : Heap} {vs : List Value} {ls : List (List Nat)} (r : Reps g vs (Mine.dStrs ls)) : ∃ l : List (PySem.Str × Tok), vs = strValues l ∧ l.map (·.1) = ls.map Ls := by
  induction ls generalizing vs with
  | nil => cases r; exact ⟨[], rfl, rfl⟩
  | cons n ns ih =>
    cases r using Reps.eCons with
    | cons r rs =>
      cases r with
      | str i t =>
        obtain ⟨xs, e1, e2⟩ := ih rs
        exact ⟨(Ls n, t) :: xs, by rw [e1]; rfl, by rw [List.map_cons, List.map_cons, e2]⟩
theorem join_Ls : ∀ ls : List (List Nat), PySem.Str.join (Ls []) (ls.map Ls) = Ls ls.flatten
  | [] => rfl
  | [x] => by simp [PySem.Str.join]
  | x :: y :: r => by
    have ih := join_Ls (y :: r)
    show Ls x ++ Ls [] ++ PySem.Str.join (Ls []) (Ls y :: r.map Ls) = _
    rw [show PySem.Str.join (Ls []) (Ls y :: r.map Ls) = Ls (y :: r).flatten from ih, Ls_app, Ls_app]
    simp
theorem txtJoin_Ls (ls : List (List Nat)) : Txt.join (Ls []) (ls.map Ls) = Ls ls.flatten := by
  unfold Txt.join
  rw [StrLaws.glued_eq_join, join_Ls]
theorem FnC.join {ls : List (List Nat)} (hl : ls.flatten.length ≤ 1000000) (hn : ls.length ≤ 1000000) : FnC C (.builtin "str.join") [.str (Ls []), .lst (dStrs ls)] (.str (Ls ls.flatten)) := fun g s vs f r => by
  cases r using Reps.eCons with
  | cons r rs =>
    first | cases r using Reps.eNil | cases r using Rep.eInt | cases r using Rep.eRaw | cases r using Rep.eNone | cases r using Rep.eStr | cases r using Rep.eBool | cases r
    cases rs using Reps.eCons with
    | cons r rs =>
      first | cases rs using Reps.eNil | cases rs using Rep.eInt | cases rs using Rep.eRaw | cases rs using Rep.eNone | cases rs using Rep.eStr | cases rs using Rep.eBool | cases rs
      cases r using Rep.eLst with
      | lst p r =>
        obtain ⟨l, e1, e2⟩ := r.strs
        have hl' := (p.ext f.sub).isList
        rw [e1] at hl'
        refine SC.join hl' e2 ?_ fun t' k => ?_
        · unfold JoinOk
          rw [show ((ls.map Ls).toArray.foldl (fun a p => a + p.length + (Ls []).length) 0) = _ from StrLaws.joinTotal (Ls []) (ls.map Ls)]
          rw [Bool.not_eq_true']
          unfold Builtin.Str.tooLong
          refine decide_eq_false ?_
          have h1 : ((ls.map Ls).map (·.length)).sum = ls.flatten.length := by
            rw [List.map_map, List.length_flatten]
            congr 1
          rw [h1, Ls_len]
          have : sizeLine = 2 ^ 24 := rfl
          simp only [List.length_nil, Nat.mul_zero]
          (first | lia | omega)
        · show Gives _ _ _ (.str (Txt.join (Ls []) (ls.map Ls)) t') _
          rw [txtJoin_Ls]
          exact ⟨g, Gr.tok f.sub _, .str _ _⟩
end
inductive LU (x : PySem.Str) (c : Addr) : List (PySem.Str × Addr) → Prop
  | here {r} : LU x c ((x, c) :: r)
  | there {y b r} : (x == y) = false → LU x c r → LU x c ((y, b) :: r)
theorem LU.ok {x : PySem.Str} {c : Addr} {l : List (PySem.Str × Addr)} (h : LU x c l) : l.lookup x = some c := by
  induction h with
  | here => simp
  | there e _ ih => rw [List.lookup_cons, e]; exact ih
section
variable {C : Cc} {vars vars' vars'' : DVars} {own own' own'' : DOwn} {d : D} {pos : Pos} {x : PySem.Str} {c : Addr}
theorem Ev.cellU (hc : LU x c C.env.cells) (hm : (c, CelD d) ∈ own) (hk : (C.env.scope.kind == .function) = true) (hl : C.env.kindOf x = some .cell) (hd : (x == ("__debug__" : PySem.Str)) = false) : Ev C vars own (.Name x pos) d := Ev.cell hc.ok (.inl hm) hk hl hd
theorem Ev.cellR (hc : LU x c C.env.cells) (hm : (c, CelD d) ∈ C.ro) (hk : (C.env.scope.kind == .function) = true) (hl : C.env.kindOf x = some .cell) (hd : (x == ("__debug__" : PySem.Str)) = false) : Ev C vars own (.Name x pos) d := Ev.cell hc.ok (.inr hm) hk hl hd
theorem Ev.freeR (hc : LU x c C.env.cells) (hm : (c, CelD d) ∈ C.ro) (hk : (C.env.scope.kind == .function) = true) (hl : C.env.kindOf x = some .free) (hd : (x == ("__debug__" : PySem.Str)) = false) (hn : (x == ("__classdict__" : PySem.Str)) = false) : Ev C vars own (.Name x pos) d := Ev.free hc.ok (.inr hm) hk hl hd hn
theorem Sto.cellU {P : Heap → Obj → Prop} (hc : LU x c C.env.cells) (hm : (c, P) ∈ own) (hP : ∀ g o, P g o → ∃ v, o.data = .cell v) (u : DPut c (CelD d) own own') (hk : (C.env.scope.kind == .function) = true) (hl : C.env.kindOf x = some .cell) : Sto C vars own x d vars own' := Sto.cell hc.ok hm hP u hk hl
end
end Mine
end
section
open PySem PySem.W PyProof.Rows PySem.Calls
set_option Elab.async false
set_option linter.unusedVariables false
namespace Mine
section
variable {C : Cc} {vars vars' vars'' : DVars} {own own' own'' : DOwn} {Q : Flow → Shared → Prop} {d d₁ d₂ : D} {ds : List D} {rest : List Stmt} {e l r value slice test body orelse : Expr} {args : List Expr} {pos p' p : Pos} {x : PySem.Str} {fv : Value} {cs ct : List Nat} {i j : Int}
theorem pySl_le {α : Type} (xs : List α) (lo hi st : Option Int) : (pySl xs lo hi st).length ≤ xs.length := by
  unfold pySl
  refine Nat.le_trans (List.length_filterMap_le _ _) (sliceRange_length_le _ _ _ _ (fun hc => ?_) fun hc => ?_)
  · simp only [sliceBounds] at hc ⊢
    simp only [hc, if_true]
    constructor
    · cases lo with
      | none => simp
      | some i => dsimp only; first | exact Int.le_max_left _ _ | exact Int.max_le.mpr ⟨Int.natCast_nonneg _, Int.min_le_right _ _⟩ | exact Int.max_le.mpr ⟨by (first | lia | omega), Int.min_le_right _ _⟩ | exact Int.le_trans (by (first | lia | omega)) (Int.le_max_left _ _) | (first | lia | omega)
    · cases hi with
      | none => simp
      | some i => dsimp only; first | exact Int.le_max_left _ _ | exact Int.max_le.mpr ⟨Int.natCast_nonneg _, Int.min_le_right _ _⟩ | exact Int.max_le.mpr ⟨by (first | lia | omega), Int.min_le_right _ _⟩ | exact Int.le_trans (by (first | lia | omega)) (Int.le_max_left _ _) | (first | lia | omega)
  · simp only [sliceBounds] at hc ⊢
    simp only [hc, if_false]
    constructor
    · cases lo with
      | none => simp
      | some i => dsimp only; first | exact Int.le_max_left _ _ | exact Int.max_le.mpr ⟨Int.natCast_nonneg _, Int.min_le_right _ _⟩ | exact Int.max_le.mpr ⟨by (first | lia | omega), Int.min_le_right _ _⟩ | exact Int.le_trans (by (first | lia | omega)) (Int.le_max_left _ _) | (first | lia | omega)
    · cases hi with
      | none => simp
      | some i => dsimp only; first | exact Int.le_max_left _ _ | exact Int.max_le.mpr ⟨Int.natCast_nonneg _, Int.min_le_right _ _⟩ | exact Int.max_le.mpr ⟨by (first | lia | omega), Int.min_le_right _ _⟩ | exact Int.le_trans (by (first | lia | omega)) (Int.le_max_left _ _) | (first | lia | omega)
theorem mem_rangeI {a : Int} {b : Int} (h : a ∈ rangeI 0 b) : ∃ k : Nat, a = k ∧ (k : Int) < b := by
  obtain ⟨k, hk, rfl⟩ := List.mem_map.mp h
  have := List.mem_range.mp hk
  exact ⟨k, by (first | lia | omega), by (first | lia | omega)⟩
theorem EvPart.nil : EvPart C vars own .none .none := trivial
theorem EvPart.one (h : Ev C vars own e (.int i)) : EvPart C vars own (some e) (some i) := h
theorem FnC.lenLs (hl : cs.length ≤ 1000000) : FnC C (.builtin "len") [.str (Ls cs)] (.int cs.length) := by
  have := FnC.lenStr (C := C) (y := Ls cs) (by rw [Ls_len]; exact hl)
  rw [Ls_len] at this
  exact this
theorem Cmp.eqLs : Cmp C .Eq (.str (Ls cs)) (.str (Ls ct)) (.bool (decide (cs = ct))) := by
  have := Cmp.eqStr (C := C) (x := Ls cs) (y := Ls ct)
  simp only [Ls_inj] at this
  exact this
theorem Cmp.neLs : Cmp C .NotEq (.str (Ls cs)) (.str (Ls ct)) (.bool (decide (cs ≠ ct))) := by
  have := Cmp.neStr (C := C) (x := Ls cs) (y := Ls ct)
  simp only [ne_eq, Ls_inj] at this
  exact this
theorem Tr.val {b : Bool} (h : Ev C vars own e (.bool b)) (he : PySem.isTrue e C.env (eval e C.env) = (do let v ← eval e C.env; standAt e.pos; holding [v] (truthy v))) : Tr C vars own e b := fun g s hs =>
  isTrue_plain (h.run hs fun v g₁ s₁ x₁ a₁ r₁ => by cases r₁; exact wpAny_truthy_bool ⟨g₁, x₁, rfl⟩) he
end
end Mine
end
section
open PySem PySem.W PyProof.Rows PySem.Calls
set_option Elab.async false
set_option linter.unusedVariables false
namespace Mine
section
variable {C : Cc} {vars vars' vars'' : DVars} {own own' own'' : DOwn} {Q : Flow → Shared → Prop} {d d₁ d₂ : D} {ds es : List D} {rest : List Stmt} {e l r value slice test body orelse : Expr} {args : List Expr} {pos p' p : Pos} {x : PySem.Str} {fv : Value} {cs ct : List Nat} {i j : Int}
theorem Ev.strL {y : PySem.Str} {kk : Nat} : Ev C vars own (.Constant (.str y) kk pos) (.str (Ls y.cps.toList)) := by
  have : Ls y.cps.toList = y := by cases y; simp [Ls]
  rw [this]; exact Ev.str
theorem At2.freeze {g : Heap} {s : Shared} {a : Addr} (x : At2 C vars ((a, OLst ds) :: own) g s) : ∃ g', Ext g g' ∧ At2 C vars own g' s ∧ Rep g' (.ref a) (.lst ds) := by
  obtain ⟨⟨o, e, n, vs, q, r⟩, hL, h0, hg⟩ := x.news _ (.head _)
  have nd := List.nodup_cons.mp x.nodup
  let g' : Heap := ⟨s.heap.objs.mapIdx fun i o => if (g.get? i).isSome || i == a then o else { o with data := .freed }, s.heap.life⟩
  have get' : ∀ b, g'.get? b = if (g.get? b).isSome || b == a then s.heap.get? b else .none := fun b => by
    by_cases c : ((g.get? b).isSome || b == a) = true
    · rw [if_pos c]
      unfold Heap.get?
      simp only [g', Array.getElem?_mapIdx]
      cases e : s.heap.objs[b]? with
      | none => rfl
      | some o => simp only [Option.map_some, if_pos c]
    · rw [if_neg c]
      refine get?_freed fun o e => ?_
      simp only [g', Array.getElem?_mapIdx, Option.map_eq_some_iff] at e
      obtain ⟨o', _, e⟩ := e
      rw [if_neg c] at e
      rw [← e]
  have ext : Ext g g' := fun b o e => by rw [get', e]; simpa using x.sub b o e
  have sub : Ext g' s.heap := fun b o e => by
    rw [get'] at e
    split at e
    · exact e
    · cases e
  have non : ∀ b, b ≠ a → g.get? b = none → g'.get? b = none := fun b hb h => by
    rw [get', h]
    simp [hb]
  refine ⟨g', ext, ⟨⟨x.gr.keeps, Ext.trans x.gr.ext ext, sub, fun b o e => ?_⟩, x.cx, ?_, ⟨x.frn.1, non _ (Ne.symm hL) x.frn.2⟩, fun p hp => ?_, fun p hp => x.mono p (.tail _ hp), nd.2, x.ro⟩, ?_⟩
  · cases q : g.get? b with
    | some o' => have := ext b o' q; rw [e] at this; cases this; exact x.gr.new b o q
    | none =>
      rw [get', q] at e
      by_cases c : b = a
      · rw [c]; exact .inr h0
      · simp [c] at e
  · obtain ⟨m, F, hm⟩ := x.fr
    exact ⟨m, F, fun p hp => by obtain ⟨v, e, r⟩ := hm p hp; exact ⟨v, e, r.ext ext⟩⟩
  · obtain ⟨⟨o, e, q⟩, h1, h2, h3⟩ := x.news p (.tail _ hp)
    exact ⟨⟨o, e, x.mono p (.tail _ hp) _ _ _ ext q⟩, h1, h2, non _ (fun q => nd.1 (List.mem_map.mpr ⟨p, hp, q⟩)) h3⟩
  · subst q
    refine .lst ⟨n, ?_⟩ (r.ext ext)
    rw [get']; simpa using e
inductive DFz (a : Addr) (d : D) : DVars → DVars → Prop
  | nil : DFz a d [] []
  | here {x r r'} : DFz a d r r' → DFz a d ((x, .raw (.ref a)) :: r) ((x, d) :: r')
  | keep {p r r'} : DFz a d r r' → DFz a d (p :: r) (p :: r')
theorem DFz.ok {a : Addr} {d : D} {l l' : DVars} (h : DFz a d l l') : ∀ p ∈ l', p ∈ l ∨ (p.2 = d ∧ (p.1, D.raw (.ref a)) ∈ l) := by
  induction h with
  | nil => intro p hp; cases hp
  | here _ ih =>
    intro p hp
    rcases List.mem_cons.mp hp with rfl | hp
    · exact .inr ⟨rfl, .head _⟩
    · rcases ih p hp with h | ⟨h1, h2⟩
      · exact .inl (.tail _ h)
      · exact .inr ⟨h1, .tail _ h2⟩
  | keep _ ih =>
    intro p hp
    rcases List.mem_cons.mp hp with rfl | hp
    · exact .inl (.head _)
    · rcases ih p hp with h | ⟨h1, h2⟩
      · exact .inl (.tail _ h)
      · exact .inr ⟨h1, .tail _ h2⟩
theorem Ex.freeze {a : Addr} (h : DFz a (.lst ds) vars vars') (k : Ex C vars' own rest Q) : Ex C vars ((a, OLst ds) :: own) rest Q := fun g s hs => by
  obtain ⟨g', x, h', r⟩ := hs.freeze
  refine k g' s ⟨h'.gr, h'.cx, ?_, h'.frn, h'.news, h'.mono, h'.nodup, h'.ro⟩
  obtain ⟨m, F, hm⟩ := h'.fr
  refine ⟨m, F, fun p hp => ?_⟩
  rcases h.ok p hp with q | ⟨q1, q2⟩
  · exact hm p q
  · obtain ⟨v, e, r'⟩ := hm _ q2
    first | cases r' using Reps.eNil | cases r' using Rep.eInt | cases r' using Rep.eRaw | cases r' using Rep.eNone | cases r' using Rep.eStr | cases r' using Rep.eBool | cases r'
    exact ⟨_, e, by rw [q1]; exact r⟩
end
end Mine
end
section
open PySem PySem.W PyProof.Rows PySem.Calls PySem.SeqAt
set_option Elab.async false
set_option linter.unusedVariables false
namespace Mine
noncomputable def eqb (a b : D) : Bool := @decide (a = b) (Classical.propDecidable _)
theorem eqb_iff {a b : D} : eqb a b = true ↔ a = b := by unfold eqb; exact @decide_eq_true_iff _ (Classical.propDecidable _)
theorem eqb_int {a b : Int} : eqb (.int a) (.int b) = (a == b) := by rw [Bool.eq_iff_iff, eqb_iff, beq_iff_eq]; exact ⟨fun h => by injection h, fun h => by rw [h]⟩
theorem all_eqb_self (ds : List D) : (List.range ds.length).all (fun j => eqb (ds.getD j .none) (ds.getD j .none)) = true := List.all_eq_true.mpr fun _ _ => eqb_iff.mpr rfl
section
variable {g : Heap} {s : Shared} {A : Around} {vs ws : List Value} {as bs : List Int} {j : Nat} {v w : Value}
theorem Reps.intAt (r : Reps g vs (dInts as)) (h : vs[j]? = some v) : ∃ a t, (dInts as).getD j .none = .int a ∧ v = .int a t := by
  obtain ⟨d, h1, h2⟩ := r.getv h
  rw [dInts, List.getElem?_map, Option.map_eq_some_iff] at h1
  obtain ⟨a, h1, rfl⟩ := h1
  cases h2 using Rep.eInt with
  | int t => exact ⟨a, t, by rw [dInts, List.getD_eq_getElem?_getD, List.getElem?_map, h1]; rfl, rfl⟩
theorem eqAtI (r : Reps g vs (dInts as)) (r' : Reps g ws (dInts bs)) (h1 : vs[j]? = some v) (h2 : ws[j]? = some w) : EqAt A s v w (eqb ((dInts as).getD j .none) ((dInts bs).getD j .none)) := by
  obtain ⟨a, t, e, rfl⟩ := r.intAt h1
  obtain ⟨b, u, e', rfl⟩ := r'.intAt h2
  rw [e, e', eqb_int]; exact EqAt.int_int _ _ _ _
end
end Mine
end
section

end
section
open PySem PySem.W PyProof.Rows PySem.Calls PySem.SeqAt
set_option Elab.async false
set_option linter.unusedVariables false
namespace Mine
end Mine
end
section
open PySem PySem.W PyProof.Rows PySem.Calls PySem.SeqAt
set_option Elab.async false
set_option linter.unusedVariables false
namespace Mine

section
variable {g : Heap} {s : Shared} {A : Around} {vs ws : List Value} {as bs : List Int} {j : Nat} {v w : Value}
end
end Mine
end
section
open PySem PySem.W PyProof.Rows PySem.Calls PySem.SeqAt
set_option Elab.async false
set_option linter.unusedVariables false
set_option maxRecDepth 100000
namespace Mine
section
variable {prog : Program} {w : World} {A : Around} {R : Result → Shared → Prop} {I : Addr} {fp wr : List Addr} {P : Nat → Value → Prop} {St : Nat → Heap → Prop} {ds : List D} {g : Heap}
end
section
variable {C : Cc} {ds : List D}
end
end Mine
end
section
open PySem PySem.W PyProof.Rows PySem.Calls PySem.SeqAt
set_option Elab.async false
set_option linter.unusedVariables false
namespace Mine
section
variable {C : Cc} {vars vars' vars'' : DVars} {own own' own'' : DOwn} {Q : Flow → Shared → Prop} {d d₁ d₂ : D} {ds es : List D} {rest : List Stmt} {e l r value slice test body orelse : Expr} {args : List Expr} {pos p' p : Pos} {x : PySem.Str} {fv : Value} {cs ct : List Nat} {i j : Int}
theorem Bin.addLst (h : ds.length + es.length ≤ 1000000) : Bin C .Add (.lst ds) (.lst es) (.lst (ds ++ es)) := fun g s v₁ v₂ f r₁ r₂ => by
  cases r₁ using Rep.eLst with
  | @lst a vs p r =>
    cases r₂ using Rep.eLst with
    | @lst b ws p' r' =>
      obtain ⟨n, e1⟩ := p
      obtain ⟨n', e2⟩ := p'
      refine PySem.P.add_list (f.sub _ _ e1) (f.sub _ _ e2) ?_ (by rw [List.size_toArray, List.size_toArray, r.length, r'.length]; exact Nat.le_trans h (by decide))
      obtain ⟨y, e⟩ := Gr.push (g := g) (s := s) (o := { cls := .type "list", data := .seq (vs.toArray ++ ws.toArray) }) (t := s.toks) f.sub
      refine ⟨_, y, .lst ⟨0, ?_⟩ ((r.append r').ext y.ext)⟩
      rw [e]; simp
theorem Cmp.neLstI {as : List Int} (hu : C.A.units + 1 < 9900) : Cmp C .NotEq (.lst (dInts as)) (.lst (dInts as)) (.bool false) := fun g s v w f r₁ r₂ => by
  cases r₁ using Rep.eLst with
  | @lst a vs p rs =>
  cases r₂ using Rep.eLst with
  | @lst b ws p' rs' =>
  have hl : vs.length = ws.length := rs.length.trans rs'.length.symm
  have h2 := RcNeAt.lists (A := C.A) (s := s) (l := a) (b := b) (items := vs.toArray) (items2 := ws.toArray) (e := fun j => eqb ((dInts as).getD j .none) ((dInts as).getD j .none)) (p.ext f.sub).isList (p'.ext f.sub).isList (by simpa using hl) (Nat.lt_of_succ_lt hu)
    (fun j h1 h2 => eqAtI rs rs' (List.getElem?_eq_getElem (l := vs) h1) (List.getElem?_eq_getElem (l := ws) h2))
  rw [List.size_toArray, rs.length, all_eqb_self] at h2
  exact h2 _ _ _ _ ⟨g, Gr.refl f.sub, .bool _⟩
theorem Cmp.neTupI {as : List Int} (hu : C.A.units + 1 < 9900) : Cmp C .NotEq (.tup (dInts as)) (.tup (dInts as)) (.bool false) := fun g s v w f r₁ r₂ => by
  cases r₁ using Rep.eTup with
  | @tup a vs p rs =>
  cases r₂ using Rep.eTup with
  | @tup b ws p' rs' =>
  obtain ⟨n, e1⟩ := p
  obtain ⟨n', e2⟩ := p'
  have hl : vs.length = ws.length := rs.length.trans rs'.length.symm
  have h2 := RcNeAt.tuples (A := C.A) (s := s) (e := fun j => eqb ((dInts as).getD j .none) ((dInts as).getD j .none)) ⟨_, f.sub _ _ e1, rfl, n, rfl⟩ ⟨_, f.sub _ _ e2, rfl, n', rfl⟩ (Nat.lt_of_succ_lt hu)
    (fun j h1 h2 => eqAtI rs rs' (List.getElem?_eq_getElem (l := vs) h1) (List.getElem?_eq_getElem (l := ws) h2))
  simp only [List.size_toArray, hl, Nat.min_self, beq_self_eq_true, Bool.and_true] at h2
  rw [← hl, rs.length, all_eqb_self] at h2
  exact h2 _ _ _ _ ⟨g, Gr.refl f.sub, .bool _⟩
end
end Mine
end
section
open PySem PySem.W PyProof.Rows PySem.Calls PySem.SeqAt
set_option Elab.async false
set_option linter.unusedVariables false
namespace Mine
section
variable {C : Cc} {vars vars' vars'' : DVars} {own own' own'' : DOwn} {Q : Flow → Shared → Prop} {d d₁ d₂ : D} {ds es : List D} {rest : List Stmt} {e l r value slice test body orelse : Expr} {args : List Expr} {pos p' p : Pos} {x : PySem.Str} {fv : Value} {cs ct : List Nat} {i j : Int}
theorem Ev.join {a : Expr} {apos p0 : Pos} {kk : Nat} {ls : List (List Nat)} (m : MethOk C "str" "str.join" "join" (.Constant (.str (PySem.Str.ofString "")) kk p0) [a] apos pos) (ha : Ev C vars own a (.lst ds)) (hd : ds = dStrs ls) (hl : ls.flatten.length ≤ 1000000) (hn : ls.length ≤ 1000000) (he : starEach [a] C.env = [(false, eval a C.env)]) :
    Ev C vars own (.Call (.Attribute (.Constant (.str (PySem.Str.ofString "")) kk p0) "join" apos) [a] [] pos) (.str (Ls ls.flatten)) := by
  subst hd
  exact Ev.meth m (d₀ := .str (Ls [])) Ev.str rfl rfl (EvArgs.cons ha EvArgs.nil he) (FnC.join hl hn) he rfl
theorem Ev.slice1 {lo hi : Option Expr} {li hi' : Option Int} (hv : EvL C vars own value ds) (h1 : EvPart C vars own lo li) (h2 : EvPart C vars own hi hi') (hl : ds.length ≤ 1000000) (hs : ∀ o i, subscripted (.Slice lo hi .none p) false o i = operate [i, o] (getItem o i)) :
    Ev C vars own (.Subscript value (.Slice lo hi .none p) pos) (.lst (pySl ds li hi' .none)) := Ev.sliceL (ops := fun o i => [i, o]) hv h1 h2 trivial (fun q => nomatch q) hl hs
theorem Ev.slice3 {lo hi : Option Expr} {st : Expr} {li hi' : Option Int} {si : Int} (hv : EvL C vars own value ds) (h1 : EvPart C vars own lo li) (h2 : EvPart C vars own hi hi') (h3 : Ev C vars own st (.int si)) (h0 : si ≠ 0) (hl : ds.length ≤ 1000000) (hs : ∀ o i, subscripted (.Slice lo hi (some st) p) false o i = operate [o, i] (getItem o i)) :
    Ev C vars own (.Subscript value (.Slice lo hi (some st) p) pos) (.lst (pySl ds li hi' (some si))) := Ev.sliceL (ops := fun o i => [o, i]) hv h1 h2 (EvPart.one h3) (fun q => h0 (Option.some.inj q)) hl hs
theorem map_pySl {α β : Type} (f : α → β) (xs : List α) (lo hi st : Option Int) : pySl (xs.map f) lo hi st = (pySl xs lo hi st).map f := by
  unfold pySl
  rw [List.length_map, List.map_filterMap]
  congr 1
  funext i
  rw [List.getElem?_map]
end
end Mine
end
section
open PySem PySem.W PyProof.Rows PySem.Calls PySem.SeqAt
set_option Elab.async false
set_option linter.unusedVariables false
namespace Mine
noncomputable def ORow (prog : Program) (w : World) (m : Int → Nat) (N : Nat) : Heap → Obj → Prop := fun _ o => Row prog w m N o
theorem ORow.mono {prog : Program} {w : World} {m : Int → Nat} {N : Nat} : ∀ g g' o, Ext g g' → ORow prog w m N g o → ORow prog w m N g' o := fun _ _ _ _ h => h
noncomputable def IsBnd (id : String) (self : Value) : Heap → Value → Prop := fun g v => ∃ m, v = .ref m ∧ g.get? m = some (boundObj id self)
theorem IsBnd.mono {id : String} {self : Value} : ∀ g g' v, Ext g g' → IsBnd id self g v → IsBnd id self g' v := by
  rintro _ _ _ k ⟨m, e, h⟩
  exact ⟨m, e, k _ _ h⟩
section
variable {C : Cc} {vars vars' vars'' : DVars} {own own' own'' : DOwn} {Q : Flow → Shared → Prop} {d d₁ d₂ : D} {ds es : List D} {rest : List Stmt} {e l r value slice test body orelse : Expr} {args : List Expr} {pos p' p : Pos} {x : PySem.Str} {fv : Value} {cs ct : List Nat} {i j : Int} {m : Int → Nat} {N : Nat} {a : Addr}
theorem x_newRow {dpos : Pos} {V : Addr → DVars} {O : Addr → DOwn} (hsto : ∀ a, Sto C vars ((a, ORow C.prog C.w (fun _ => 0) 0) :: own) x (.raw (.ref a)) (V a) (O a)) (k : ∀ a, Ex C (V a) (O a) rest Q) (hsw : swapsWith (.Dict [] [] dpos) (some (.Name x p')) pos.line C.env = pure false) :
    Ex2 C vars own (.Assign [.Name x p'] (.Dict [] [] dpos) pos) rest Q := fun g s hs => by
  refine wpAny_Assign_Name ?_ hsw
  rw [eval_Dict0]
  refine wpAny_bind (wpAny_standAt (wpAny_newObj_type ?_))
  have a₂ := hs.newOwn (a := s.heap.objs.size) (o := { cls := .type "dict", data := .dict #[] }) (P := ORow C.prog C.w (fun _ => 0) 0) (s' := { s with heap := s.heap.push { cls := .type "dict", data := .dict #[] } }) ⟨_, _, rfl, fun b o e => Heap.get?_push_of_some _ e⟩ new_none (Heap.get?_push_size _ rfl) (Row.nil ⟨#[], 0, ⟨rfl, rfl, rfl⟩, rfl, fun e he => by simp at he, .nil, List.nodup_nil⟩) ORow.mono
  exact wmono (hsto _ g _ _ a₂ (.raw _)) fun _ s₂ ⟨g₂, x₂, a₂⟩ => k _ g₂ s₂ a₂
structure RunC (C : Cc) : Prop where
  prog : C.prog = pw_
  K : C.K = Mine.K C.w.params
  room : RmN 0 C.A
theorem Keeps.new {g : Heap} {s s' : Shared} {mm : Addr} {o : Obj} {P : Heap → Value → Prop} (hx : Ext g s.heap) (k : Keeps s s') (hn : s.heap.get? mm = none) (e : s'.heap.get? mm = some o) (hP : ∀ g', g'.get? mm = some o → P g' (.ref mm)) (hm : ∀ g g' v, Ext g g' → P g v → P g' v) : Gives (.sp P) g s (.ref mm) s' :=
  ⟨grow g s s', Gr.max hx k, .sp (hP _ (grow_new hn e)) hm⟩
noncomputable abbrev AttrOk (C : Cc) (o : Expr) (name : PySem.Str) (pos : Pos) : Prop := eval (.Attribute o name pos) C.env = do
    let v ← eval o C.env
    standAt pos.atName
    let r ← holding [v] (getAttr v name true)
    letTemporaryGo o v r
    pure r
theorem Row.obj {prog : Program} {w : World} {m : Int → Nat} {N : Nat} {o : Obj} (h : Row prog w m N o) : ∃ es ep, o = ⟨.type "dict", none, .dict es ep, #[]⟩ := by
  obtain ⟨kvs, ⟨es, ep, ⟨x1, x2, x3⟩, x4, _⟩, _⟩ := h
  obtain ⟨c, dd, da, sl⟩ := o
  simp only at x1 x2 x3 x4
  subst x1 x2 x3 x4
  exact ⟨es, ep, rfl⟩
theorem Ev.getGet {o : Expr} (R : RunC C) (ho : Ev C vars own o (.raw (.ref a))) (hm : (a, ORow C.prog C.w m N) ∈ own ∨ (a, ORow C.prog C.w m N) ∈ C.ro) (he : AttrOk C o (S "get") pos) : Ev C vars own (.Attribute o (S "get") pos) (.sp (IsBnd "dict.get" (.ref a))) := fun g s hs => by
  refine Attribute_any_ (ho.run hs fun v g₁ s₁ x₁ a₁ r₁ => ?_) he
  first | cases r₁ using Reps.eNil | cases r₁ using Rep.eInt | cases r₁ using Rep.eRaw | cases r₁ using Rep.eNone | cases r₁ using Rep.eStr | cases r₁ using Rep.eBool | cases r₁
  obtain ⟨o, e, q⟩ := a₁.known hm
  obtain ⟨es, ep, rfl⟩ := Row.obj q
  refine getAttr_via (T := "dict") ⟨_, e, rfl⟩ tl_dict_ga (bind_dict_ga _) fun tk => ?_
  have X := (a₁.cxg.ext a₁.sub).X
  rw [R.K] at X
  have hg := dict_get_ga2 (w := C.w) (tk := tk) (s := { s₁ with toks := s₁.toks + 1 }) X e
  rw [← R.prog] at hg
  refine up (wmono hg fun r s' hq => ?_) R.room.handled (by have := R.room.depth; (first | lia | omega)) (by have := R.room.units; (first | lia | omega))
  obtain ⟨kp, mm, rfl, n1, n2⟩ := hq
  exact ⟨mm, rfl, Gives.after (x₁.trans (Gr.tok a₁.sub _)) (Keeps.new (s := { s₁ with toks := s₁.toks + 1 }) a₁.sub kp n1 n2 (fun g' h => ⟨mm, rfl, h⟩) IsBnd.mono)⟩
theorem Ev.callRow {id : PySem.Str} {e₁ e₂ : Expr} {K₀ : Frag} (hf : Ev C vars own (.Name id p') (.sp (IsBnd "dict.get" (.ref a)))) (hm : (a, ORow C.prog C.w m N) ∈ own) (h1 : Ev C vars own e₁ (.int j)) (h2 : Ev C vars own e₂ (.int 0)) (hsys : C.K.lookup sysModules ≠ Option.none)
    (he : starEach [e₁, e₂] C.env = (false, eval e₁ C.env) :: starEach [e₂] C.env) (he2 : starEach [e₂] C.env = [(false, eval e₂ C.env)]) : Ev C vars own (.Call (.Name id p') [e₁, e₂] [] pos) (.int (m j)) := fun g s hs => by
  refine wpAny_Call_Name_kw (hf.run hs fun v g₁ s₁ x₁ a₁ r₁ => ?_)
  cases r₁ using Rep.eSp with
  | sp hb hmono =>
    obtain ⟨mm, rfl, hb⟩ := hb
    have h := (EvArgs.cons (pos := pos) h1 (EvArgs.cons h2 EvArgs.nil he2) he) g₁ s₁ a₁
    show wpAny _ _ (callWith pos (.ref mm) [] (backTo pos (starEach [e₁, e₂] C.env)) []) _ _ _
    rw [he, he2] at h ⊢
    refine callWith_of (P := fun h => Kp (model C.prog C.w) h (.ref mm)) rfl (fun _ x => x) (evalArgs_plain (wmono h fun vs s₂ ⟨g₂, x₂, r₂⟩ => ⟨kp_bound (a₁.grow x₂ |>.sub _ _ (x₂.ext _ _ hb)), ?_⟩))
    have a₂ := a₁.grow x₂
    cases r₂ using Reps.eCons with
    | cons r₂ rs =>
      first | cases r₂ using Reps.eNil | cases r₂ using Rep.eInt | cases r₂ using Rep.eRaw | cases r₂ using Rep.eNone | cases r₂ using Rep.eStr | cases r₂ using Rep.eBool | cases r₂
      cases rs using Reps.eCons with
      | cons r₃ rs =>
        cases r₃; cases rs
        obtain ⟨⟨o, e, kvs, hd, hl, hv'⟩, _, h0, _⟩ := a₂.news _ hm
        have hne : (a == sysModules) = false := by
          cases q : C.K.lookup sysModules with
          | none => exact absurd q hsys
          | some o' =>
            have := a₂.cx.X _ _ q
            cases b : a == sysModules with
            | false => rfl
            | true =>
              have b' : a = sysModules := by simpa using b
              have h0' := (a₂.news _ hm).2.2.2
              have h3 := a₂.gr.ext _ _ this
              rw [b'] at h0'
              exact (live_ne h0' h3).elim
        refine call_bound_get (knd := intKind C.prog C.w) (k := j) (a₂.sub _ _ (x₂.ext _ _ hb)) hne (intKind_is C.prog C.w j _) (Heap.DictOf.mapOf (Dic.to ⟨o, e, hd⟩)) ?_
        rcases hv' j with ⟨q1, q2⟩ | ⟨q1, t', q2⟩
        · rw [q2, q1]
          exact ⟨g₂, (x₁.trans x₂).trans (Gr.tok a₂.sub _), .int _ _⟩
        · rw [q2]
          exact ⟨g₂, (x₁.trans x₂).trans (Gr.tok a₂.sub _), .int _ _⟩
theorem x_asgNS {p1 pS : Pos} {o i value : Expr} {n : Nat} (hv : Ev C vars own value (.int n)) (hsto : Sto C vars own x (.int n) vars' own) (ho : Ev C vars' own o (.raw (.ref a))) (hi : Ev C vars' own i (.int j)) (hm : (a, ORow C.prog C.w m N) ∈ own) (hN : N ≤ 1000000) (hn : n ≠ 0)
    (u : DPut a (ORow C.prog C.w (fun y => if y = j then n else m y) (N + 1)) own own') (k : Ex C vars' own' rest Q)
    (h1 : ((assignEach [.Name x p1, .Subscript o i pS] C.env).map (·.2)) = [assign (.Name x p1) C.env, assign (.Subscript o i pS) C.env]) (h2 : swappedStores [.Name x p1, .Subscript o i pS] value C.env = pure none) :
    Ex2 C vars own (.Assign [.Name x p1, .Subscript o i pS] value pos) rest Q := fun g s hs => by
  refine wpAny_Assign_two (hv.run hs fun v g₁ s₁ x₁ a₁ r₁ => wpAny_assign_Name (wmono (hsto g₁ s₁ v a₁ r₁) fun _ s₂ ⟨g₂, x₂, a₂⟩ => ?_)) h1 h2
  have rv := r₁.ext x₂
  rw [assign_Subscript]
  refine wpAny_bind (wpAny_holding (ho.run a₂ fun ov g₃ s₃ x₃ a₃ r₃ => wpAny_bind (wpAny_holding (hi.run a₃ fun iv g₄ s₄ x₄ a₄ r₄ => wpAny_bind (wpAny_standAt (wpAny_bind (wpAny_holding ?_)))))))
  cases r₃; cases r₄; cases r₁
  obtain ⟨⟨o, e, kvs, hd, hl, hv'⟩, _⟩ := a₄.news _ hm
  refine wpAny_setItem_pairs (knd := intKind C.prog C.w) (k := j) (intKind_is C.prog C.w j _) (Dic.to ⟨o, e, hd⟩) (fun h' hd' sb => wpAny_release ?_) (Nat.le_trans hl (Nat.le_trans hN (by decide)))
  obtain ⟨o', e', hd''⟩ := Dic.of hd'
  refine k g₄ _ (a₄.put (t := s₄.toks + 1) u (fun b o hb e => (sb.2 b hb).trans e) ⟨o', e', _, hd'', ?_, fun y => ?_⟩ ORow.mono)
  · exact Nat.le_trans (stored_length_le _ _ _) (Nat.succ_le_succ hl)
  · rw [valueAt_stored]
    by_cases q : y = j
    · simp only [if_pos q]; exact .inr ⟨hn, _, rfl⟩
    · simp only [if_neg q]; exact hv' y
end
end Mine
end
section
open PySem PySem.W PyProof.Rows PySem.Calls PySem.SeqAt
set_option Elab.async false
set_option linter.unusedVariables false
namespace Mine
noncomputable def IsIdx {prog : Program} {w : World} {κ : Type} [DecidableEq κ] (knd : PySem.KeyKind prog w κ) (js : κ → List Int) : Heap → Value → Prop := fun g v => ∃ bd kvs, v = .ref bd ∧ (bd == sysModules) = false ∧ g.DictOf knd bd kvs ∧
  ∀ k, (valueAt kvs k = none ∧ js k = []) ∨ ∃ l vs, valueAt kvs k = some (.ref l) ∧ PlainLst g l vs ∧ Reps g vs (dInts (js k))
theorem IsIdx.mono {prog : Program} {w : World} {κ : Type} [DecidableEq κ] {knd : PySem.KeyKind prog w κ} {js : κ → List Int} : ∀ g g' v, Ext g g' → IsIdx knd js g v → IsIdx knd js g' v := by
  rintro g g' v k ⟨bd, kvs, e, h1, h2, h3⟩
  exact ⟨bd, kvs, e, h1, h2.keep k, fun q => (h3 q).imp id fun ⟨l, vs, a, b, c⟩ => ⟨l, vs, a, b.ext k, c.ext k⟩⟩
noncomputable def IsInst (cls x dx : Addr) : Heap → Value → Prop := fun g v => v = .ref x ∧ g.get? x = some ⟨.ref cls, some dx, .plain, #[]⟩
theorem IsInst.mono {cls x dx : Addr} : ∀ g g' v, Ext g g' → IsInst cls x dx g v → IsInst cls x dx g' v := by
  rintro _ _ _ k ⟨e, h⟩
  exact ⟨e, k _ _ h⟩
noncomputable def OInst (fs : List (PySem.Str × D)) : Heap → Obj → Prop := fun g o => ∃ es n, o = dictOf es n ∧ es.length ≤ fs.length ∧ (∀ e ∈ es, ∃ y t, e.key = .str y t ∧ y ∈ fs.map (·.1)) ∧ ∀ p ∈ fs, ∃ v, getL p.1 es = some (some v) ∧ handedIn v = true ∧ Rep g v p.2
theorem OInst.mono {fs : List (PySem.Str × D)} : ∀ g g' o, Ext g g' → OInst fs g o → OInst fs g' o := by
  rintro _ _ _ k ⟨es, n, e, h0, h1, h2⟩
  exact ⟨es, n, e, h0, h1, fun p hp => let ⟨v, a, b, c⟩ := h2 p hp; ⟨v, a, b, c.ext k⟩⟩
section
variable {C : Cc} {vars vars' vars'' : DVars} {own own' own'' : DOwn} {Q : Flow → Shared → Prop} {d d₁ d₂ : D} {ds es : List D} {rest : List Stmt} {e l r value slice test body orelse : Expr} {args : List Expr} {pos p' p : Pos} {x : PySem.Str} {fv : Value} {cs ct : List Nat} {i j : Int}
theorem Ev.idxGet {κ : Type} [DecidableEq κ] {knd : PySem.KeyKind C.prog C.w κ} {js : κ → List Int} {o e1 e2 : Expr} {apos : Pos} {dk : D} {k : κ} (m : MethOk C "dict" "dict.get" "get" o [e1, e2] apos pos) (ho : Ev C vars own o (.sp (IsIdx knd js))) (h1 : Ev C vars own e1 dk) (h2 : Ev C vars own e2 (.lst [])) (hk : ∀ g v, Rep g v dk → knd.is k v = true)
    (c4 : backTo pos (starEach [e1, e2] C.env) = [(false, eval e1 C.env), (false, eval e2 C.env)]) : Ev C vars own (.Call (.Attribute o "get" apos) [e1, e2] [] pos) (.lst (dInts (js k))) := fun g s hs => by
  refine wpAny_Call_method m.c1 m.c2 m.c3 m.pa m.slot m.hty (ho.run hs fun ov g₁ s₁ x₁ a₁ r₁ => ?_)
  cases r₁ using Rep.eSp with
  | sp hI hm =>
    obtain ⟨bd, kvs, rfl, hsys, hd, hv⟩ := hI
    have hd' := hd.keep a₁.sub
    refine ⟨hd'.typeIs, hd'.mapOf.noDict, ?_⟩
    rw [c4]
    refine wpAny_dict_get2 (knd := knd) hsys (h1.run a₁ fun v₂ g₂ s₂ x₂ a₂ r₂ => h2.run a₂ fun v₃ g₃ s₃ x₃ a₃ r₃ => ⟨k, _, hk _ _ r₂, ((hd.keep x₂.ext).keep x₃.ext |>.keep a₃.sub).mapOf, ?_⟩)
    have y := ((x₁.trans x₂).trans x₃).trans (Gr.tok a₃.sub (s₃.toks + 1))
    rcases hv k with ⟨q1, q2⟩ | ⟨l, vs, q1, q2, q3⟩
    · rw [q1, q2]
      exact ⟨g₃, y, r₃⟩
    · rw [q1]
      exact ⟨g₃, y, .lst ((q2.ext x₂.ext).ext x₃.ext) ((q3.ext x₂.ext).ext x₃.ext)⟩
theorem Ev.attrI {o : Expr} {name : PySem.Str} {cls xx dx : Addr} {fs : List (PySem.Str × D)} {attr : Option Value} (ho : Ev C vars own o (.sp (IsInst cls xx dx))) (hm : (dx, OInst fs) ∈ own ∨ (dx, OInst fs) ∈ C.ro) (hf : (name, d) ∈ fs) (h1 : plainGet C.K cls name = true) (h2 : hasDictIn C.K cls = true) (h3 : findIn C.K (.ref cls) name = some attr) (h4 : noGet C.K attr = true) (he : AttrOk C o name pos) :
    Ev C vars own (.Attribute o name pos) d := fun g s hs => by
  refine Attribute_any_ (ho.run hs fun v g₁ s₁ x₁ a₁ r₁ => ?_) he
  cases r₁ using Rep.eSp with
  | sp hI _ =>
    obtain ⟨rfl, hx⟩ := hI
    obtain ⟨ob, e, es, n, rfl, h0, hk, hv⟩ := a₁.known hm
    obtain ⟨u, q1, q2, q3⟩ := hv _ hf
    exact get_value (a₁.cxg.ext a₁.sub).X ⟨a₁.sub _ _ hx, rfl, rfl, e⟩ (plainGet_of h1).1 (findObj_own (od := dictOf es n) h2 h3 h4 q1) q2 ⟨g₁, x₁.trans (Gr.tok a₁.sub _), q3⟩
end
end Mine
end
section
open PySem PySem.W PyProof.Rows PySem.Calls PySem.W.X
set_option Elab.async false
set_option linter.unusedVariables false
set_option maxRecDepth 100000
set_option maxHeartbeats 0
namespace Mine
end Mine
end
section
open PySem PySem.W PyProof.Rows PySem.Calls PySem.SeqAt
set_option Elab.async false
set_option linter.unusedVariables false
namespace Mine
section
variable {C : Cc} {vars vars' vars'' : DVars} {own own' own'' : DOwn} {Q : Flow → Shared → Prop} {d d₁ d₂ : D} {ds es : List D} {rest : List Stmt} {e l r value slice test body orelse : Expr} {args : List Expr} {pos p' p : Pos} {x : PySem.Str} {fv : Value} {cs ct : List Nat} {i j : Int} {bj : Addr}
noncomputable def IsMat (cls : Addr) (i j k : Int) : Heap → Value → Prop := fun g v => ∃ m dx t u q, v = .ref m ∧ g.get? m = some ⟨.ref cls, some dx, .seq #[.int i t, .int j u, .int k q] 0, #[]⟩
theorem IsMat.mono {cls : Addr} {i j k : Int} : ∀ g g' v, Ext g g' → IsMat cls i j k g v → IsMat cls i j k g' v := by
  rintro _ _ _ kk ⟨m, dx, t, u, q, e, h⟩
  exact ⟨m, dx, t, u, q, e, kk _ _ h⟩
end
end Mine
end
section
open PySem PySem.W PyProof.Rows PySem.Calls PySem.SeqAt
set_option Elab.async false
set_option linter.unusedVariables false
namespace Mine
section
variable {prog : Program} {w : World} {K : Frag} {A : Around} {s : Shared} {g : Heap}
noncomputable abbrev fCr (prog : Program) (w : World) (K : Frag) (A : Around) (s : Shared) (g : Heap) (qual : PySem.Str) (sc : Scope) (L f : Addr) (cdv : Value) (cl : List (PySem.Str × Addr)) (ro : DOwn) : Cc :=
  ⟨prog, w, K, A.deeper (envX qual sc L f cdv cl), s, g, envX qual sc L f cdv cl, ro⟩
theorem fn_entryR {name qual : PySem.Str} {params : Arguments} {body : List Stmt} {sc : Scope} {dV kV doc pm cdv ct : Value} {an : Option Addr} {fo : Obj} {f : Addr} {args : List Value} {kw : List (PySem.Str × Value)} {binds : List (PySem.Str × Value)} {n : Nat} {d : D}
    {vars : Vars} {cl : Addr → List (PySem.Str × Addr)} {own : Addr → Own} {dv : DVars} {dow : Addr → DOwn} (ro : DOwn)
    (hA : RmN n A) (F : Fz K g s) (ho : K.lookup f = some fo) (hd : fo.data = .func (fnX name qual params body sc [] dV kV doc pm an cdv ct)) (hcd : s.heap.CodeRec cdv qual)
    (hbind : BindsTo s (fnX name qual params body sc [] dV kV doc pm an cdv ct) ⟨args, kw⟩ binds)
    (hkind : (binds.all fun y => sc.names.lookup y.1 == some .local || sc.names.lookup y.1 == some .cell) = true)
    (hnd : ((cellsFrom 0 sc.names []).map (·.1)).Nodup)
    (hcl : ∀ L, cellsFrom (L + 1) sc.names [] = cl L)
    (hvars : (vars.map fun p => bindL (fun x => sc.names.lookup x) binds (fun _ => none) p.1) = vars.map fun p => some p.2)
    (hown : ∀ L, ((cl L).map fun p => (p.2, Cel (bindC (fun x => sc.names.lookup x) binds (fun _ => none) p.1))) = own L)
    (hfl : (sc.isCoroutine || sc.isGenerator || !(sc.kind == .function)) = false)
    (hdv : DV g vars dv) (hdo : ∀ L, DO g (own L) (dow L)) (hro : ∀ p ∈ ro, (∃ o, s.heap.get? p.1 = some o ∧ p.2 g o) ∧ ∀ g g' o, Ext g g' → p.2 g o → p.2 g' o)
    (k : ∀ L, Ex (fCr prog w K A s g qual sc L f cdv (cl L) ro) dv (dow L) body (Fin (fCr prog w K A s g qual sc L f cdv (cl L) ro) d)) :
    wpAny (model prog w) A (call (.ref f) args kw) (Gives d g s) Ff s := by
  have X := F.cx.ext F.sub
  refine r_entry (vars := vars) (cl := cl) (own := own) (Nat.lt_of_le_of_lt (Nat.le_trans (Nat.le_add_right _ _) hA.depth) (by decide)) (X.X _ _ ho) hd X.lim hcd hbind hkind hnd hcl hvars hown hfl fun L s₁ hs₁ => ?_
  refine k L g s₁ ?_
  obtain ⟨m, Fr, hm⟩ := hs₁.fr
  have hL : s.heap.get? L = none := by
    cases q : s.heap.get? L with
    | none => rfl
    | some o => exact absurd (Heap.lt_size q) (Nat.not_lt.mpr Fr.above)
  have hg : ∀ a, s.heap.get? a = none → g.get? a = none := fun a h => by
    cases q : g.get? a with
    | none => rfl
    | some o => exact (live_ne h (F.sub _ _ q)).elim
  refine ⟨Gr.same F.sub (keepsOf Fr.keep hs₁.rest), F.cx, ⟨m, Fr.ns, fun p hp => ?_⟩, ⟨hL, hg _ hL⟩, fun p hp => ?_, fun p hp => ((hdo L).ok p hp).2, by rw [(hdo L).names]; exact hs₁.nodup, hro⟩
  · obtain ⟨v, h1, h2⟩ := hdv.ok p hp
    exact ⟨v, hm _ h1, h2⟩
  · obtain ⟨⟨P, h1, h2⟩, _⟩ := (hdo L).ok p hp
    obtain ⟨⟨o, e, q⟩, h3, h4⟩ := hs₁.news _ h1
    exact ⟨⟨o, e, h2 o q⟩, h3, h4, hg _ h4⟩
end
end Mine
end
section
open PySem PySem.W PyProof.Rows PySem.Calls PySem.SeqAt
set_option Elab.async false
set_option linter.unusedVariables false
namespace Mine
section
variable {C : Cc} {vars vars' vars'' : DVars} {own own' own'' : DOwn} {Q : Flow → Shared → Prop} {d d₁ d₂ : D} {ds es : List D} {rest : List Stmt} {e l r value slice test : Expr} {body : List Stmt} {args : List Expr} {pos p' p : Pos} {x : PySem.Str} {i j : Int}
theorem Cmp.isNone : Cmp C .Is .none .none (.bool true) := fun g s v w f r₁ r₂ => by cases r₁; cases r₂; exact is_none ⟨g, Gr.refl f.sub, .bool _⟩
theorem Cmp.isNoneInt : Cmp C .Is (.int i) .none (.bool false) := fun g s v w f r₁ r₂ => by cases r₁; cases r₂; exact is_none ⟨g, Gr.refl f.sub, .bool _⟩
theorem x_while {σ : Type} (vs : σ → DVars) (os : σ → DOwn) (F : σ → Prop) (μ : σ → Nat) (z₀ : σ) (h0 : F z₀) (hv : ∀ p ∈ vs z₀, p ∈ vars) (ho : DW own (os z₀))
    (turn : ∀ s₀ gb, Sub C { C with s₀ := s₀, gb := gb } → ∀ z, F z → ∃ b, Tr { C with s₀ := s₀, gb := gb } (vs z) (os z) test b ∧ (b = true → Ex { C with s₀ := s₀, gb := gb } (vs z) (os z) body (TurnD { C with s₀ := s₀, gb := gb } vs os (fun z' => F z' ∧ μ z' < μ z) (ContC C rest Q))) ∧ (b = false → Ex C (vs z) (os z) rest Q)) :
    Ex2 C vars own (.While test body [] pos) rest Q := fun g s hs => by
  refine wpAny_While (codeAny_whileLoop (fun k s' => ∃ z g', k = μ z ∧ F z ∧ At2 C (vs z) (os z) g' s') ?_ (μ z₀) ⟨z₀, g, rfl, h0, (hs.forget hv).weak ho⟩)
  rintro k s' ⟨z, g', rfl, hF, hs'⟩
  obtain ⟨b, hT, hB, hE⟩ := turn _ _ hs'.subC z hF
  refine ff (wmono (hT g' s' hs'.reb) fun r s₂ ⟨g₂, x₂, q⟩ => ?_)
  subst q
  have a₂ := hs'.reb.grow x₂
  cases r with
  | true =>
    show wpAny _ _ _ _ _ _
    refine ff (wmono (hB rfl g₂ s₂ a₂) fun fl s₃ h₃ => ?_)
    cases fl with
    | next => obtain ⟨z', g₃, h1, h2⟩ := h₃; exact ⟨μ z', h1.2, z', g₃, rfl, h1.1, hs'.subC.at2 h2⟩
    | cont => obtain ⟨z', g₃, h1, h2⟩ := h₃; exact ⟨μ z', h1.2, z', g₃, rfl, h1.1, hs'.subC.at2 h2⟩
    | brk => exact h₃
    | ret v => exact h₃
  | false => exact wpAny_execs_nil (hE rfl g₂ s₂ (hs'.subC.at2 a₂))
theorem DW.rfl_ : ∀ l : DOwn, DW l l
  | [] => .nil
  | _ :: l => .same (DW.rfl_ l)
end
end Mine
end
section
open PySem PySem.W PyProof.Rows PySem.Calls PySem.SeqAt
set_option Elab.async false
set_option linter.unusedVariables false
namespace Mine
section
variable {C : Cc} {vars vars' vars'' : DVars} {own own' own'' : DOwn} {Q : Flow → Shared → Prop} {d : D} {rest : List Stmt} {test : Expr} {body orelse : List Stmt} {pos : Pos}
theorem x_ifC {b : Bool} (ht : Tr C vars own test b) (k1 : b = true → Ex C vars own body (ToSt C vars' own')) (k2 : b = false → Ex C vars own orelse (ToSt C vars' own')) (k : Ex C vars' own' rest Q) : Ex2 C vars own (.If test body orelse pos) rest Q := fun g s hs => wpAny_If (ht.run hs fun g₁ s₁ x₁ a₁ => by
  cases b with
  | true => rw [if_pos rfl]; exact wmono (k1 rfl g₁ s₁ a₁) fun f s' ⟨q, g', h⟩ => by subst q; exact k g' s' h
  | false => rw [if_neg (by simp)]; exact wmono (k2 rfl g₁ s₁ a₁) fun f s' ⟨q, g', h⟩ => by subst q; exact k g' s' h)
theorem K.to (hv : ∀ p ∈ vars', p ∈ vars) (ho : DW own own') : At2K C vars own (ToSt C vars' own' .next) := fun g s hs => ⟨rfl, g, (hs.forget hv).weak ho⟩
end
end Mine
end
section
open PySem PySem.W PyProof.Rows PySem.Calls PySem.SeqAt
set_option Elab.async false
set_option linter.unusedVariables false
namespace Mine
section
variable {C : Cc} {vars vars' vars'' : DVars} {own own' own'' : DOwn} {Q : Flow → Shared → Prop} {d : D} {rest : List Stmt} {pos : Pos}
theorem x_forGK {σ : Type} {target iter : Expr} {body : List Stmt} {ds : List D} (hit : EvIt C vars own iter ds) (vs : Nat → σ → DVars) (os : Nat → σ → DOwn) (F : Nat → σ → Prop) (z₀ : σ)
    (h0 : F 0 z₀) (hv : ∀ p ∈ vs 0 z₀, p ∈ vars) (ho : DW own (os 0 z₀)) (k : ∀ z, F ds.length z → Ex C (vs ds.length z) (os ds.length z) rest Q)
    (turn : (∀ z, F ds.length z → Ex C (vs ds.length z) (os ds.length z) rest Q) → ∀ s₀ gb, Sub C { C with s₀ := s₀, gb := gb } → ∀ i z d, ds[i]? = some d → F i z → Turn1 { C with s₀ := s₀, gb := gb } (vs i z) (os i z) target d body (TurnD { C with s₀ := s₀, gb := gb } (vs (i + 1)) (os (i + 1)) (F (i + 1)) (ContC C rest Q)))
    (hf : ∀ x, foldedSetIterable iter C.env x = pure x) : Ex2 C vars own (.For target iter body [] pos) rest Q := x_forG hit vs os F z₀ h0 hv ho (turn k) k hf
end
end Mine
end
section
open PySem PySem.W PyProof.Rows PySem.Calls PySem.SeqAt
set_option Elab.async false
set_option linter.unusedVariables false
namespace Mine
structure SeqK {prog : Program} {w : World} {κ : Type} [DecidableEq κ] (knd : PySem.KeyKind prog w κ) (ι : κ → D) (d : D) (ks : List κ) : Prop where
  item : ∀ {C : Cc} {vars : DVars} {own : DOwn} {value slice : Expr} {pos : Pos} {i : Int} {k : κ}, Ev C vars own value d → Ev C vars own slice (.int i) → 0 ≤ i → ks[i.toNat]? = some k → (∀ o i, subscripted slice false o i = operate [o, i] (getItem o i)) → Ev C vars own (.Subscript value slice pos) (ι k)
  len : ∀ {C : Cc} {vars : DVars} {own : DOwn} {id : PySem.Str} {p' pos : Pos} {a : Expr}, Callee C vars own (.Name id p') (.builtin "len") → Ev C vars own a d → starEach [a] C.env = [(false, eval a C.env)] → Ev C vars own (.Call (.Name id p') [a] [] pos) (.int ks.length)
  key : ∀ {g v k}, Rep g v (ι k) → knd.is k v = true
  scan : ∀ {g v k}, Rep g v (ι k) → v.scannable = true
  eq : ∀ {C : Cc} {k₁ k₂ : κ}, Cmp C .Eq (ι k₁) (ι k₂) (.bool (decide (k₁ = k₂)))
  it : ∀ {C : Cc}, C.A.handled = none → ItD C d (ks.map ι)
section
variable {prog : Program} {w : World} {κ : Type} [DecidableEq κ]
noncomputable def IsSetK (knd : PySem.KeyKind prog w κ) (S : κ → Bool) : Heap → Value → Prop := fun g v => ∃ bj n, v = .ref bj ∧ g.SetOf knd bj S n
theorem IsSetK.mono {knd : PySem.KeyKind prog w κ} {S : κ → Bool} : ∀ g g' v, Ext g g' → IsSetK knd S g v → IsSetK knd S g' v := by
  rintro _ _ _ k ⟨bj, n, e, o, es, ep, t, ho, r⟩
  exact ⟨bj, n, e, o, es, ep, t, k _ _ ho, r⟩
noncomputable def IsInK (knd : PySem.KeyKind prog w κ) (S : κ → Bool) : Heap → Value → Prop := fun g v => ∃ bj n m, v = .ref m ∧ g.get? m = some (boundObj "set.__contains__" (.ref bj)) ∧ g.SetOf knd bj S n
theorem IsInK.mono {knd : PySem.KeyKind prog w κ} {S : κ → Bool} : ∀ g g' v, Ext g g' → IsInK knd S g v → IsInK knd S g' v := by
  rintro _ _ _ k ⟨bj, n, m, e, h, o, es, ep, t, ho, r⟩
  exact ⟨bj, n, m, e, k _ _ h, o, es, ep, t, k _ _ ho, r⟩
theorem sig_scon : Manifest.signature? "set.__contains__" = some ⟨.oneArg, "set.__contains__", "__contains__", .self, [⟨"object", .posOnly, true⟩]⟩ := by kernel_rfl
theorem kind_scon : builtinKind "set.__contains__" = some .method := by kernel_rfl
theorem sub_set_module : isSubtype (.type "set") (.type "module") = pure false := by rw [isSubtype_type]; kernel_rfl
theorem check_set_in {A : Around} {E : Value → Shared → Prop} {s : Shared} {d : Addr} {x : Value} {Q : Unit → Shared → Prop} {o : Obj} (ho : s.heap.get? d = some o) (hc : o.cls = .type "set") (hd : ∀ c, o.data ≠ .cls c) (k : Q () s) :
    wpAny (model prog w) A (checkBoundCall "set.__contains__" ⟨[.ref d, x], []⟩) Q E s := by
  have hT : s.TypeIs (.ref d) "set" := ⟨o, ho, hc⟩
  unfold checkBoundCall
  rw [sig_scon, kind_scon]
  dsimp only
  rw [if_neg (by decide)]
  refine wpAny_bind (wpAny_isInstance hT sub_set_module ?_)
  rw [if_neg (by decide +kernel)]
  refine wpAny_bind (isType_no ho hd ?_)
  rw [if_neg (by decide)]
  refine wpAny_bind (wpAny_typeOf hT ?_)
  dsimp only
  exact wpAny_of_eq (show Bind.checkArgs "set.__contains__" { (⟨.oneArg, "set.__contains__", "__contains__", .self, [⟨"object", .posOnly, true⟩]⟩ : Manifest.Signature) with full := s!"{Bind.lastOf "set"}.{Bind.lastOf "set.__contains__"}" } ⟨[.ref d, x], []⟩ = pure () from by kernel_rfl) k
theorem call_bound_in {knd : PySem.KeyKind prog w κ} {A : Around} {s : Shared} {m d : Addr} {k : κ} {key : Value} {S : κ → Bool} {n : Nat} {E : Value → Shared → Prop} {Q : Value → Shared → Prop} (hm : s.heap.get? m = some (boundObj "set.__contains__" (.ref d)))
    (hkey : knd.is k key = true) (hsc : key.scannable = true) (hS : s.heap.SetOf knd d S n) (h : Q (.bool (S k)) { s with toks := s.toks + 1 }) : wpAny (model prog w) A (call (.ref m) [key]) Q E s := by
  obtain ⟨o, es, ep, t, ho, hx, hdat, r⟩ := id hS
  refine wpAny_call (codeAny_of_tree ?_)
  show wpAny _ _ (callAny (.ref m) _) _ _ _
  refine wpAny_bind (wpAny_load hm ?_)
  dsimp only
  rw [if_pos (by decide)]
  show wpAny _ _ (do
    checkBoundCall "set.__contains__" ⟨[.ref d, key], []⟩
    return ← again (.builtin "set.__contains__" ⟨[.ref d, key], []⟩)) _ _ _
  refine wpAny_bind (check_set_in ho hx.1 (fun c e => by rw [e] at hdat; cases hdat) ?_)
  refine wpAny_bind (wpAny_pure (wpAny_pure ⟨Code.quiet_builtin _ (by decide +kernel), ?_⟩))
  refine codeAny_builtin (b := Builtin.«frozenset.__contains__») entry_set_contains ?_
  unfold Builtin.«frozenset.__contains__» Builtin.Frozenset.oneOther
  simp only [List.isEmpty_nil, bind_assoc]
  unfold Builtin.Frozenset.addrOf Builtin.Frozenset.withSetAsKey setContains
  refine wpAny_bind (wpAny_pure ?_)
  try dsimp only
  refine wpAny_bind (wpAny_pure ?_)
  try dsimp only
  refine wpAny_bind (wpAny_tryCatch ?_)
  refine wpAny_holding ?_
  refine wpAny_bind (knd.pyHash hkey ?_)
  refine wpAny_bind (wpAny_setFind_of (s := { s with toks := s.toks + 1 }) hkey hsc hS fun r hr => ?_)
  refine wpAny_pure ?_
  show wpAny _ _ (ret (Value.bool r.isSome)) _ _ _
  rw [hr]
  exact wpAny_pure h
end
section
variable {C : Cc} {vars vars' vars'' : DVars} {own own' own'' : DOwn} {Q : Flow → Shared → Prop} {d d₁ d₂ : D} {ds es : List D} {rest : List Stmt} {e l r value slice test body orelse : Expr} {args : List Expr} {pos p' p : Pos} {x : PySem.Str} {fv : Value} {cs ct : List Nat} {i j : Int}
variable {κ : Type} [DecidableEq κ] {knd : PySem.KeyKind C.prog C.w κ} {S : κ → Bool}
theorem Ev.getInK {o : Expr} (R : RunC C) (ho : Ev C vars own o (.sp (IsSetK knd S))) (he : AttrOk C o (Mine.S "__contains__") pos) : Ev C vars own (.Attribute o (Mine.S "__contains__") pos) (.sp (IsInK knd S)) := fun g s hs => by
  refine Attribute_any_ (ho.run hs fun v g₁ s₁ x₁ a₁ r₁ => ?_) he
  cases r₁ using Rep.eSp with
  | sp hI _ =>
    obtain ⟨bj, n, rfl, hS⟩ := hI
    obtain ⟨ob, es, ep, t, ho, ⟨y1, y2, y3⟩, y4, _⟩ := id hS
    obtain ⟨c, dd, da, sl⟩ := ob
    simp only at y1 y2 y3 y4
    subst y1 y2 y3 y4
    have e := a₁.sub _ _ ho
    refine getAttr_via (T := "set") ⟨_, e, rfl⟩ tl_set_ga (bind_set_ga _) fun tk => ?_
    have X := (a₁.cxg.ext a₁.sub).X
    rw [R.K] at X
    have hg := set_in_ga (w := C.w) (tk := tk) (s := { s₁ with toks := s₁.toks + 1 }) X e
    rw [← R.prog] at hg
    refine up (wmono hg fun r s' hq => ?_) R.room.handled (by have := R.room.depth; (first | lia | omega)) (by have := R.room.units; (first | lia | omega))
    obtain ⟨kp, mm, rfl, n1, n2⟩ := hq
    have mx := Gr.max (g := g₁) (s := { s₁ with toks := s₁.toks + 1 }) a₁.sub kp
    obtain ⟨_, _, _, z, _⟩ := IsSetK.mono (knd := knd) (S := S) _ _ _ mx.ext ⟨bj, n, rfl, hS⟩
    refine ⟨mm, rfl, _, (x₁.trans (Gr.tok a₁.sub _)).trans mx, .sp ⟨bj, n, mm, rfl, grow_new n1 n2, ?_⟩ IsInK.mono⟩
    obtain ⟨o, es, ep, t, ho, r⟩ := hS
    exact ⟨o, es, ep, t, mx.ext _ _ ho, r⟩
theorem Ev.callInK {id : PySem.Str} {e₁ : Expr} {k : κ} {dk : D} (hf : Ev C vars own (.Name id p') (.sp (IsInK knd S))) (h1 : Ev C vars own e₁ dk) (hk : ∀ g v, Rep g v dk → knd.is k v = true) (hsc : ∀ g v, Rep g v dk → v.scannable = true) (he : starEach [e₁] C.env = [(false, eval e₁ C.env)]) : Ev C vars own (.Call (.Name id p') [e₁] [] pos) (.bool (S k)) := fun g s hs => by
  refine wpAny_Call_Name_kw (hf.run hs fun v g₁ s₁ x₁ a₁ r₁ => ?_)
  cases r₁ using Rep.eSp with
  | sp hb hmono =>
    obtain ⟨bj, n, mm, rfl, hb, hS⟩ := hb
    have h := (EvArgs.cons (pos := pos) h1 EvArgs.nil he) g₁ s₁ a₁
    show wpAny _ _ (callWith pos (.ref mm) [] (backTo pos (starEach [e₁] C.env)) []) _ _ _
    rw [he] at h ⊢
    refine callWith_of (P := fun h => Kp (model C.prog C.w) h (.ref mm)) rfl (fun _ x => x) (evalArgs_plain (wmono h fun vs s₂ ⟨g₂, x₂, r₂⟩ => ⟨kp_bound (a₁.grow x₂ |>.sub _ _ (x₂.ext _ _ hb)), ?_⟩))
    have a₂ := a₁.grow x₂
    cases r₂ using Reps.eCons with
    | cons r₂ rs =>
      first | cases rs using Reps.eNil | cases rs using Rep.eInt | cases rs using Rep.eRaw | cases rs using Rep.eNone | cases rs using Rep.eStr | cases rs using Rep.eBool | cases rs
      obtain ⟨o, es, ep, t, ho, r⟩ := hS
      refine call_bound_in (knd := knd) (k := k) (a₂.sub _ _ (x₂.ext _ _ hb)) (hk _ _ r₂) (hsc _ _ r₂) ⟨o, es, ep, t, a₂.sub _ _ (x₂.ext _ _ ho), r⟩ ?_
      exact ⟨g₂, (x₁.trans x₂).trans (Gr.tok a₂.sub _), .bool _⟩
end
section
variable {prog : Program} {w : World}
theorem seqT {cs : List Nat} (h : cs.length ≤ 1000000) : SeqK (strKind prog w) (fun s : PySem.Str => D.str s) (.str (Ls cs)) (cs.map fun c => Ls [c]) where
  item := fun {C vars own value slice pos i k} hv hi h0 hc hs => by
    rw [List.getElem?_map, Option.map_eq_some_iff] at hc
    obtain ⟨c, hc, rfl⟩ := hc
    exact Ev.itemStr hv hi h0 hc h hs
  len := fun {C vars own id p' pos a} hf ha he => by
    rw [List.length_map]
    exact Ev.call hf (EvArgs.cons ha EvArgs.nil he) (FnC.lenLs h) he rfl
  key := fun {g v k} r => by cases r; exact strKind_is _ _ _ _
  scan := fun {g v k} r => by cases r; rfl
  eq := Cmp.eqStr
  it := fun {C} hh => by
    have := ItD.str (C := C) (cs := cs) hh
    rw [List.map_map]; exact this
end
end Mine
end
section
open PySem PySem.W PyProof.Rows PySem.Calls PySem.SeqAt
set_option Elab.async false
set_option linter.unusedVariables false
namespace Mine
noncomputable abbrev hideS (as : List Addr) (s : Shared) : Shared := { s with heap := hide as s.heap }
noncomputable abbrev Mono (P : Heap → Obj → Prop) : Prop := ∀ g g' o, Ext g g' → P g o → P g' o
structure Stand (wo : DOwn) (g : Heap) (s : Shared) : Prop where
  at_ : ∀ p ∈ wo, (∃ o, s.heap.get? p.1 = some o ∧ p.2 g o) ∧ g.get? p.1 = none ∧ Mono p.2
  nodup : (wo.map (·.1)).Nodup
noncomputable def StandR (ro : DOwn) (g : Heap) (s : Shared) : Prop := ∀ p ∈ ro, (∃ o, s.heap.get? p.1 = some o ∧ p.2 g o) ∧ Mono p.2
structure After (wo : DOwn) (g : Heap) (s : Shared) (wo' : DOwn) (g' : Heap) (s' : Shared) : Prop where
  gr : Gr g (hideS (wo.map (·.1)) s) g' s'
  st : Stand wo' g' s'
  new : ∀ p ∈ wo', (hide (wo.map (·.1)) s.heap).get? p.1 = none
noncomputable abbrev RetR (Q : Value → Shared → Prop) : Result → Shared → Prop := fun r s' => match r with
  | .ok (.ret v) => Q v s'
  | _ => False
noncomputable def FnW (prog : Program) (w : World) (K : Frag) (n : Nat) (fv : Value) (ds : List D) (wo : DOwn) {σ : Type} (wo' : σ → DOwn) (d : σ → D) : Prop := ∀ A, RmN n A → ∀ g s vs, Fz K g s → Reps g vs ds → Stand wo g s →
  codeAny (model prog w) A (.call fv ⟨vs, []⟩) (RetR fun v s' => ∃ z g', After wo g s (wo' z) g' s' ∧ Rep g' v (d z)) s
noncomputable def FnR (prog : Program) (w : World) (K : Frag) (n : Nat) (fv : Value) (ds : List D) (ro : DOwn) (d : D) : Prop := ∀ A, RmN n A → ∀ g s vs, Fz K g s → Reps g vs ds → StandR ro g s → wpAny (model prog w) A (call fv vs) (Gives d g s) Ff s
inductive Rm1 (p : Addr × (Heap → Obj → Prop)) : DOwn → DOwn → Prop
  | here {r} : Rm1 p (p :: r) r
  | there {q r r'} : Rm1 p r r' → Rm1 p (q :: r) (q :: r')
inductive Pk : DOwn → DOwn → DOwn → Prop
  | nil {l} : Pk [] l l
  | cons {p wo l l' r} : Rm1 p l l' → Pk wo l' r → Pk (p :: wo) l r
theorem Rm1.perm {p : Addr × (Heap → Obj → Prop)} {l l' : DOwn} (h : Rm1 p l l') : l.Perm (p :: l') := by
  induction h with
  | here => exact .refl _
  | there _ ih => exact (ih.cons _).trans (.swap _ _ _)
theorem Pk.perm {wo l r : DOwn} (h : Pk wo l r) : l.Perm (wo ++ r) := by
  induction h with
  | nil => exact .refl _
  | cons h _ ih => exact h.perm.trans (ih.cons _)
section
variable {C : Cc} {vars vars' vars'' : DVars} {own own' own'' : DOwn} {Q : Flow → Shared → Prop} {d d₁ d₂ : D} {ds es : List D} {rest : List Stmt} {e l r value slice test body orelse : Expr} {args : List Expr} {pos p' p : Pos} {x : PySem.Str} {fv : Value} {g g' : Heap} {s s' : Shared}
theorem At2.permO (x : At2 C vars own g s) (h : own.Perm own') : At2 C vars own' g s :=
  ⟨x.gr, x.cx, x.fr, x.frn, fun p hp => x.news p (h.mem_iff.mpr hp), fun p hp => x.mono p (h.mem_iff.mpr hp), (h.map _).nodup_iff.mp x.nodup, x.ro⟩
theorem At2.standR {p : Addr × (Heap → Obj → Prop)} (x : At2 C vars own g s) (h : p ∈ own ∨ p ∈ C.ro) : StandR [p] g s := fun q hq => by
  obtain rfl := List.mem_singleton.mp hq
  exact ⟨x.known h, h.elim (fun h => x.mono _ h) fun h => (x.ro _ h).2⟩
theorem At2.stand {wo rest : DOwn} (x : At2 C vars (wo ++ rest) g s) : Stand wo g s :=
  ⟨fun p hp => ⟨(x.news p (List.mem_append_left _ hp)).1, (x.news p (List.mem_append_left _ hp)).2.2.2, x.mono p (List.mem_append_left _ hp)⟩, by
    have := x.nodup
    rw [List.map_append] at this
    exact (List.nodup_append.mp this).1⟩
theorem At2.back {wo wo' rest : DOwn} (x : At2 C vars (wo ++ rest) g s) (y : After wo g s wo' g' s') : At2 C vars (wo' ++ rest) g' s' := by
  have nd : ((wo.map (·.1)) ++ rest.map (·.1)).Nodup := by rw [← List.map_append]; exact x.nodup
  have apart := (List.nodup_append.mp nd).2.2
  have live : ∀ a o, a ∉ wo.map (·.1) → s.heap.get? a = some o → (hide (wo.map (·.1)) s.heap).get? a = some o := fun a o h e => by
    rw [get?_hide, if_neg (by simpa using h)]; exact e
  have old : ∀ a o, C.s₀.heap.get? a = some o → (hide (wo.map (·.1)) s.heap).get? a = some o := fun a o e => live a o (fun h => by
    obtain ⟨p, hp, rfl⟩ := List.mem_map.mp h
    exact live_ne (x.news p (List.mem_append_left _ hp)).2.2.1 e) (keepsExt x.gr.keeps _ _ e)
  have keep : ∀ a o, a ∉ wo.map (·.1) → s.heap.get? a = some o → s'.heap.get? a = some o := fun a o h e => keepsExt y.gr.keeps _ _ (live a o h e)
  have non : ∀ a o, a ∉ wo.map (·.1) → s.heap.get? a = some o → g.get? a = none → g'.get? a = none := fun a o h e n => by
    cases q : g'.get? a with
    | none => rfl
    | some o' =>
      rcases y.gr.new a o' q with h' | h'
      · exact (live_ne n h').elim
      · exact (live_ne h' (live a o h e)).elim
  have hL : C.env.locals ∉ wo.map (·.1) := fun h => by
    obtain ⟨p, hp, e⟩ := List.mem_map.mp h
    exact (x.news p (List.mem_append_left _ hp)).2.1 e
  obtain ⟨oL, eL⟩ := x.L_live
  have dis : ∀ p ∈ rest, p.1 ∉ wo.map (·.1) := fun p hp h => apart _ h _ (List.mem_map_of_mem hp) rfl
  refine ⟨⟨keepsOf (fun a o e => keepsExt y.gr.keeps _ _ (old a o e)) (Rest.trans (keepsRest x.gr.keeps) (keepsRest (a := hideS (wo.map (·.1)) s) y.gr.keeps)), Ext.trans x.gr.ext y.gr.ext, y.gr.sub, fun a o e => ?_⟩, x.cx, ?_, ⟨x.frn.1, non _ _ hL eL x.frn.2⟩, fun p hp => ?_, fun p hp => ?_, ?_, x.ro⟩
  · rcases y.gr.new a o e with h | h
    · exact x.gr.new a o h
    · right
      cases q : C.s₀.heap.get? a with
      | none => rfl
      | some o' => exact (live_ne h (old a o' q)).elim
  · obtain ⟨m, F, hm⟩ := x.fr
    exact ⟨m, F.at' fun o e => keep _ _ hL e, fun p hp => by obtain ⟨v, e, r⟩ := hm p hp; exact ⟨v, e, r.ext y.gr.ext⟩⟩
  · rcases List.mem_append.mp hp with hp | hp
    · obtain ⟨a, b, c⟩ := y.st.at_ p hp
      refine ⟨a, fun q => ?_, ?_, b⟩
      · have := y.new p hp
        rw [q] at this
        exact live_ne this (live _ _ hL eL)
      · cases q : C.s₀.heap.get? p.1 with
        | none => rfl
        | some o' => exact (live_ne (y.new p hp) (old _ o' q)).elim
    · obtain ⟨⟨o, e, q⟩, h1, h2, h3⟩ := x.news p (List.mem_append_right _ hp)
      exact ⟨⟨o, keep _ _ (dis p hp) e, x.mono p (List.mem_append_right _ hp) _ _ _ y.gr.ext q⟩, h1, h2, non _ _ (dis p hp) e h3⟩
  · rcases List.mem_append.mp hp with hp | hp
    · exact (y.st.at_ p hp).2.2
    · exact x.mono p (List.mem_append_right _ hp)
  · rw [List.map_append]
    refine List.nodup_append.mpr ⟨y.st.nodup, (List.nodup_append.mp nd).2.1, fun a ha b hb e => ?_⟩
    subst e
    obtain ⟨p, hp, rfl⟩ := List.mem_map.mp ha
    obtain ⟨q, hq, e⟩ := List.mem_map.mp hb
    obtain ⟨⟨o, eo, _⟩, _⟩ := x.news q (List.mem_append_right _ hq)
    have := live _ _ (dis q hq) eo
    rw [e] at this
    exact live_ne (y.new p hp) this
noncomputable def FinW (C : Cc) {σ : Type} (wo' : σ → DOwn) (d : σ → D) : Flow → Shared → Prop := fun fl s' => ∃ z g', Gr C.gb C.s₀ g' s' ∧ Rep g' (retOf fl) (d z) ∧ Stand (wo' z) g' s' ∧ ∀ p ∈ wo' z, C.s₀.heap.get? p.1 = none
theorem At2.stands (x : At2 C vars own g s) : Stand own g s := ⟨fun p hp => ⟨(x.news p hp).1, (x.news p hp).2.2.2, x.mono p hp⟩, x.nodup⟩
theorem FinW.of {σ : Type} {wo' : σ → DOwn} {dd : σ → D} {fl : Flow} (z : σ) (x : At2 C vars (wo' z) g s) (r : Rep g (retOf fl) (dd z)) : FinW C wo' dd fl s := ⟨z, g, x.gr, r, x.stands, fun p hp => (x.news p hp).2.2.1⟩
theorem K.finW {σ : Type} {wo' : σ → DOwn} {dd : σ → D} (z : σ) (hd : dd z = .none) (ho : DW own (wo' z)) : At2K C vars own (FinW C wo' dd .next) := fun g s hs => FinW.of z (hs.weak ho) (by rw [hd]; exact .none)
theorem x_retW {σ : Type} {wo' : σ → DOwn} {dd : σ → D} (z : σ) {e : Expr} (hv : Ev C vars own e (dd z)) (ho : DW own (wo' z)) (k : ∀ v s, FinW C wo' dd (.ret v) s → Q (.ret v) s) : Ex2 C vars own (.Return (some e) pos) rest Q := fun g s hs =>
  wpAny_Return_some (hv.run hs fun v g₁ s₁ x₁ a₁ r₁ => k v s₁ (FinW.of z (a₁.weak ho) r₁))
theorem x_ret0 {σ : Type} {wo' : σ → DOwn} {dd : σ → D} (z : σ) (hd : dd z = .none) (ho : DW own (wo' z)) (k : ∀ v s, FinW C wo' dd (.ret v) s → Q (.ret v) s) : Ex2 C vars own (.Return none pos) rest Q := fun g s hs =>
  wpAny_Return_none (k _ s (FinW.of z (hs.weak ho) (by rw [hd]; exact .none)))
noncomputable def EvW (C : Cc) (vars : DVars) (own : DOwn) (e : Expr) {σ : Type} (own' : σ → DOwn) (d : σ → D) : Prop := ∀ g s, At2 C vars own g s → wpAny (model C.prog C.w) C.A (eval e C.env) (fun v s' => ∃ z g', Ext g g' ∧ At2 C vars (own' z) g' s' ∧ Rep g' v (d z)) Ff s
theorem callW {n m : Nat} {wo ro : DOwn} {σ : Type} {wo' : σ → DOwn} {dd : σ → D} {vs : List Value} (h : FnW C.prog C.w C.K n fv ds wo wo' dd) (hA : RmN m C.A) (hm : n ≤ m) (x : At2 C vars own g s) (pk : Pk wo own ro) (r : Reps g vs ds) :
    wpAny (model C.prog C.w) C.A (call fv vs) (fun v s' => ∃ z g', Ext g g' ∧ At2 C vars (wo' z ++ ro) g' s' ∧ Rep g' v (dd z)) Ff s := by
  have x' := x.permO pk.perm
  refine wpAny_call (codeAny_mono (h C.A (hA.le hm) g s vs x.fz r x'.stand) fun r s' hr => ?_)
  rcases r with e | (v | _ | _ | _) <;> first | exact hr.elim | skip
  obtain ⟨z, g', y, r⟩ := hr
  exact ⟨z, g', y.gr.ext, x'.back y, r⟩
theorem EvW.call {id : PySem.Str} {a : Expr} {n m : Nat} {wo ro : DOwn} {σ : Type} {wo' : σ → DOwn} {dd : σ → D} (hf : Callee C vars own (.Name id p') fv) (ha : EvArgs C vars own pos (a :: args) ds) (h : FnW C.prog C.w C.K n fv ds wo wo' dd) (hA : RmN m C.A) (hm : n ≤ m) (pk : Pk wo own ro)
    (he : starEach (a :: args) C.env = (false, eval a C.env) :: starEach args C.env) (hp : (backTo pos (starEach args C.env)).any (·.1) = false) :
    EvW C vars own (.Call (.Name id p') (a :: args) [] pos) (fun z => wo' z ++ ro) dd := fun g s hs => by
  refine wpAny_Call_Name_kw (wmono (hf.load g s hs) fun v s₁ h₁ => ?_)
  obtain ⟨rfl, rfl⟩ := h₁
  have h' := ha g s₁ hs
  show wpAny _ _ (callWith pos v [] (backTo pos (starEach (a :: args) C.env)) []) _ _ _
  rw [he] at h' ⊢
  refine callWith_of (P := fun h => Kp (model C.prog C.w) h v) (by show ((false || (backTo pos (starEach args C.env)).any (·.1)) || false) = false; rw [hp]; rfl) (fun _ x => x) (evalArgs_plain (wmono h' fun vs s₂ ⟨g₂, x₂, r₂⟩ => ⟨hf.kp _ _ (hs.grow x₂), ?_⟩))
  exact wmono (callW h hA hm (hs.grow x₂) pk r₂) fun v s' ⟨z, g', e1, e2, e3⟩ => ⟨z, g', Ext.trans x₂.ext e1, e2, e3⟩
theorem EvW.of (h : Ev C vars own e d) : EvW C vars own e (fun _ : Unit => own) (fun _ => d) := fun g s hs => h.run hs fun v g' s' x a r => ⟨(), g', x.ext, a, r⟩
theorem wpAny_Call_methI {prog : Program} {w : World} {A : Around} {E : Value → Shared → Prop} {env : Env} {o : Expr} {name : PySem.Str} {apos pos : Pos} {args : List Expr} {Q : Value → Shared → Prop}
    (hbase : attributeBase o name env (eval o env) = eval o env)
    (hfew : ((backTo pos (starEach args env)).all (fun x => !x.1) && (backToKw pos (keywordEach [] env)).all (fun x => x.1.isSome)
      && decide (args.length + ([] : List Keyword).length + (if ([] : List Keyword).isEmpty then 0 else 1) < 30)) = true)
    (hline : (apos.endLine == pos.line) = true)
    (h : wpAny (model prog w) A (eval o env) (fun ov s₁ => ∀ pl, wpAny (model prog w) A (getMethod ov name pl) (fun p s₂ => wpAny (model prog w) A (callWith pos p.1 p.2 (backTo pos (starEach args env)) []) Q E s₂) E s₁) E s) :
    wpAny (model prog w) A (eval (.Call (.Attribute o name apos) args [] pos) env) Q E s := by
  rw [arm_eval_Call, hbase]
  refine wpAny_bind (wpAny_mono h (fun ov s₁ h₁ => ?_) fun _ _ e => e)
  refine wpAny_bind (wpAny_standAt ?_)
  have hform : methodCallForm (args.length + ([] : List Keyword).length) (backTo pos (starEach args env)) (backToKw pos (keywordEach [] env)) = true := hfew
  have hpos : methodCallPos true o env apos pos = pure pos := by unfold methodCallPos; simp [hline]
  unfold methodCall
  rw [hform]
  refine wpAny_bind (wpAny_holding (wpAny_mono (h₁ _) (fun p s₂ h₂ => ?_) fun _ _ e => e))
  obtain ⟨f, first⟩ := p
  exact wpAny_bind (wpAny_of_eq hpos h₂)
theorem getL_none {es : List DictEntry} {names : List PySem.Str} {name : PySem.Str} (h : ∀ e ∈ es, ∃ y t, e.key = .str y t ∧ y ∈ names) (hn : name ∉ names) : getL name es = some none := by
  have a : es.find? (·.key.isStr name) = none := List.find?_eq_none.mpr fun e he => by
    obtain ⟨y, t, q, hy⟩ := h e he
    rw [q]
    show ¬ (y == name) = true
    intro c
    have : y = name := by simpa using c
    subst this; exact hn hy
  have b : es.any (·.refKey) = false := by
    rw [List.any_eq_false]
    intro e he
    obtain ⟨y, t, q, hy⟩ := h e he
    simp [DictEntry.refKey, q]
  unfold getL
  rw [a, b]; rfl
structure MethI (C : Cc) (cls f : Addr) (name : PySem.Str) (o : Expr) (args : List Expr) (apos pos : Pos) : Prop where
  c1 : attributeBase o name C.env (eval o C.env) = eval o C.env
  c2 : ((((backTo pos (starEach args C.env)).all fun x => !x.fst) && (backToKw pos (keywordEach [] C.env)).all fun x => x.fst.isSome) && decide ((args.length + ([] : List Keyword).length + if ([] : List Keyword).isEmpty = true then 0 else 1) < 30)) = true
  c3 : (apos.endLine == pos.line) = true
  pg : plainGet C.K cls name = true
  hf : findIn C.K (.ref cls) name = some (some (.ref f))
  ht : isFn C.K (.ref f) = true
  kp : keepIn C.K (.ref f) = true
theorem MethI.run {cls f xx dx : Addr} {name : PySem.Str} {o : Expr} {apos : Pos} {fs : List (PySem.Str × D)} {R : Value → Shared → Prop} (m : MethI C cls f name o args apos pos) (ho : Ev C vars own o (.sp (IsInst cls xx dx))) (hm : (dx, OInst fs) ∈ own ∨ (dx, OInst fs) ∈ C.ro) (hn : (fs.map (·.1)).contains name = false)
    (hs : At2 C vars own g s) (k : ∀ g₁ s₁, Gr g s g₁ s₁ → At2 C vars own g₁ s₁ → Rep g₁ (.ref xx) (.sp (IsInst cls xx dx)) → Kp (model C.prog C.w) s₁.heap (.ref f) → wpAny (model C.prog C.w) C.A (callWith pos (.ref f) [.ref xx] (backTo pos (starEach args C.env)) []) R Ff s₁) :
    wpAny (model C.prog C.w) C.A (eval (.Call (.Attribute o name apos) args [] pos) C.env) R Ff s := by
  refine wpAny_Call_methI m.c1 m.c2 m.c3 (ho.run hs fun ov g₁ s₁ x₁ a₁ r₁ => ?_)
  have r₁' := r₁
  cases r₁ using Rep.eSp with
  | sp hI _ =>
    obtain ⟨rfl, hx⟩ := hI
    intro pl
    obtain ⟨ob, e, es, n, rfl, h0, hk, hv⟩ := a₁.known hm
    have X := (a₁.cxg.ext a₁.sub).X
    have I : InstAt s₁.heap xx ⟨.ref cls, some dx, .plain, #[]⟩ cls (some (dictOf es n)) := ⟨a₁.sub _ _ hx, rfl, rfl, e⟩
    refine method_fn X I (plainGet_of m.pg).1 (plainGet_of m.pg).2 m.hf (beq_iff_eq.mp m.ht) ?_ (k g₁ s₁ x₁ a₁ r₁' (Kp.K X m.kp))
    show (lookIn name (dictOf es n)).map _ = _
    rw [lookIn_dict, getL_none hk (by simpa using hn)]; rfl
theorem Ev.methI {cls f xx dx : Addr} {name : PySem.Str} {o a : Expr} {apos : Pos} {fs : List (PySem.Str × D)} {n m' : Nat} (m : MethI C cls f name o (a :: args) apos pos) (ho : Ev C vars own o (.sp (IsInst cls xx dx))) (hm : (dx, OInst fs) ∈ own ∨ (dx, OInst fs) ∈ C.ro) (hn : (fs.map (·.1)).contains name = false)
    (ha : EvArgs C vars own pos (a :: args) ds) (h : FnR C.prog C.w C.K n (.ref f) (.sp (IsInst cls xx dx) :: ds) [(dx, OInst fs)] d) (hA : RmN m' C.A) (hle : n ≤ m')
    (he : starEach (a :: args) C.env = (false, eval a C.env) :: starEach args C.env) (hp : (backTo pos (starEach args C.env)).any (·.1) = false) : Ev C vars own (.Call (.Attribute o name apos) (a :: args) [] pos) d := fun g s hs =>
  m.run ho hm hn hs fun g₁ s₁ x₁ a₁ r₁ kp => by
    have h' := ha g₁ s₁ a₁
    rw [he] at h' ⊢
    refine callWith_of (P := fun h => Kp (model C.prog C.w) h (.ref f)) (by show ((false || (backTo pos (starEach args C.env)).any (·.1)) || false) = false; rw [hp]; rfl) (fun _ x => x) (evalArgs_plain (wmono h' fun vs s₂ ⟨g₂, x₂, r₂⟩ => ⟨kp.ext (keepsExt x₂.keeps), ?_⟩))
    have a₂ := a₁.grow x₂
    exact wmono (h C.A (hA.le hle) g₂ s₂ (.ref xx :: vs) a₂.fz (.cons (r₁.ext x₂.ext) r₂) (a₂.standR hm)) fun v s' q => q.after (x₁.trans x₂)
theorem EvW.methI {cls f xx dx : Addr} {name : PySem.Str} {o a : Expr} {apos : Pos} {fs : List (PySem.Str × D)} {n m' : Nat} {wo ro : DOwn} {σ : Type} {wo' : σ → DOwn} {dd : σ → D} (m : MethI C cls f name o (a :: args) apos pos) (ho : Ev C vars own o (.sp (IsInst cls xx dx))) (hm : (dx, OInst fs) ∈ own) (hn : (fs.map (·.1)).contains name = false)
    (ha : EvArgs C vars own pos (a :: args) ds) (h : FnW C.prog C.w C.K n (.ref f) (.sp (IsInst cls xx dx) :: ds) wo wo' dd) (hA : RmN m' C.A) (hle : n ≤ m') (pk : Pk wo own ro)
    (he : starEach (a :: args) C.env = (false, eval a C.env) :: starEach args C.env) (hp : (backTo pos (starEach args C.env)).any (·.1) = false) : EvW C vars own (.Call (.Attribute o name apos) (a :: args) [] pos) (fun z => wo' z ++ ro) dd := fun g s hs =>
  m.run ho (.inl hm) hn hs fun g₁ s₁ x₁ a₁ r₁ kp => by
    have h' := ha g₁ s₁ a₁
    rw [he] at h' ⊢
    refine callWith_of (P := fun h => Kp (model C.prog C.w) h (.ref f)) (by show ((false || (backTo pos (starEach args C.env)).any (·.1)) || false) = false; rw [hp]; rfl) (fun _ x => x) (evalArgs_plain (wmono h' fun vs s₂ ⟨g₂, x₂, r₂⟩ => ⟨kp.ext (keepsExt x₂.keeps), ?_⟩))
    exact wmono (callW h hA hle (a₁.grow x₂) pk (.cons (r₁.ext x₂.ext) r₂)) fun v s' ⟨z, g', e1, e2, e3⟩ => ⟨z, g', Ext.trans x₁.ext (Ext.trans x₂.ext e1), e2, e3⟩
theorem EvW.methI0 {cls f xx dx : Addr} {name : PySem.Str} {o : Expr} {apos : Pos} {fs : List (PySem.Str × D)} {n m' : Nat} {wo ro : DOwn} {σ : Type} {wo' : σ → DOwn} {dd : σ → D} (m : MethI C cls f name o [] apos pos) (ho : Ev C vars own o (.sp (IsInst cls xx dx))) (hm : (dx, OInst fs) ∈ own) (hn : (fs.map (·.1)).contains name = false)
    (h : FnW C.prog C.w C.K n (.ref f) [.sp (IsInst cls xx dx)] wo wo' dd) (hA : RmN m' C.A) (hle : n ≤ m') (pk : Pk wo own ro) : EvW C vars own (.Call (.Attribute o name apos) [] [] pos) (fun z => wo' z ++ ro) dd := fun g s hs =>
  m.run ho (.inl hm) hn hs fun g₁ s₁ x₁ a₁ r₁ kp => by
    refine callWith_of (P := fun h => Kp (model C.prog C.w) h (.ref f)) rfl (fun _ x => x) (evalArgs_nil3 ⟨kp, ?_⟩)
    exact wmono (callW h hA hle a₁ pk (.cons r₁ .nil)) fun v s' ⟨z, g', e1, e2, e3⟩ => ⟨z, g', Ext.trans x₁.ext e1, e2, e3⟩
theorem x_exprW {σ : Type} {own' : σ → DOwn} {e : Expr} (h : EvW C vars own e own' (fun _ => .none)) (k : ∀ z, Ex C vars (own' z) rest Q) (hi : interactive C.env = false) (hw : swapsWith e none pos.line C.env = pure false) : Ex2 C vars own (.Expr e pos) rest Q := fun g s hs =>
  wpAny_Expr (wmono (h g s hs) fun v s₁ ⟨z, g₁, x₁, a₁, r₁⟩ => by
    first | cases r₁ using Reps.eNil | cases r₁ using Rep.eInt | cases r₁ using Rep.eRaw | cases r₁ using Rep.eNone | cases r₁ using Rep.eStr | cases r₁ using Rep.eBool | cases r₁
    exact k z g₁ s₁ a₁) hi hw
theorem x_asgNW {σ : Type} {own' : σ → DOwn} {dd : σ → D} {vs : σ → DVars} {os : σ → DOwn} (h : EvW C vars own value own' dd) (hsto : ∀ z, Sto C vars (own' z) x (dd z) (vs z) (os z)) (k : ∀ z, Ex C (vs z) (os z) rest Q) (hsw : swapsWith value (some (.Name x p')) pos.line C.env = pure false) :
    Ex2 C vars own (.Assign [.Name x p'] value pos) rest Q := fun g s hs =>
  wpAny_Assign_Name (wmono (h g s hs) fun v s₁ ⟨z, g₁, x₁, a₁, r₁⟩ => wmono (hsto z g₁ s₁ v a₁ r₁) fun _ s₂ ⟨g₂, x₂, a₂⟩ => k z g₂ s₂ a₂) hsw
end
end Mine
end
section
open PySem PySem.W PyProof.Rows PySem.Calls PySem.SeqAt
set_option Elab.async false
set_option linter.unusedVariables false
namespace Mine
noncomputable abbrev Fs := List (PySem.Str × D)
theorem getL_str {es : List DictEntry} (h : ∀ e ∈ es, ∃ y t, e.key = .str y t) (name : PySem.Str) : getL name es = some ((es.find? (·.key.isStr name)).map (·.val)) := by
  have b : es.any (·.refKey) = false := by
    rw [List.any_eq_false]
    intro e he
    obtain ⟨y, t, q⟩ := h e he
    simp [DictEntry.refKey, q]
  unfold getL
  rw [b]
  cases es.find? (·.key.isStr name) <;> rfl
theorem putL_keys {name : PySem.Str} {hs : Int} {tk : Tok} {v : Value} : ∀ {es : List DictEntry} {P : PySem.Str → Prop}, (∀ e ∈ es, ∃ y t, e.key = .str y t ∧ P y) → P name → ∀ e ∈ putL name hs (.str name tk) v es, ∃ y t, e.key = .str y t ∧ P y
  | [], P, h, hn, e, he => by
    obtain rfl : e = ⟨hs, .str name tk, v⟩ := by simpa [putL] using he
    exact ⟨name, tk, rfl, hn⟩
  | e0 :: r, P, h, hn, e, he => by
    unfold putL at he
    split at he
    · rcases List.mem_cons.mp he with rfl | he
      · exact h e0 (.head _)
      · exact h e (.tail _ he)
    · rcases List.mem_cons.mp he with rfl | he
      · exact h _ (.head _)
      · exact putL_keys (fun e he => h e (.tail _ he)) hn e he
theorem putL_len {name : PySem.Str} {hs : Int} {k v : Value} : ∀ {es : List DictEntry}, (putL name hs k v es).length = if es.any (·.key.isStr name) then es.length else es.length + 1
  | [] => rfl
  | e :: r => by
    unfold putL
    cases h : e.key.isStr name with
    | true => simp [h]
    | false =>
      simp only [Bool.false_eq_true, if_false, List.length_cons, putL_len (es := r), List.any_cons, h, Bool.false_or]
      split <;> rfl
theorem putL_find_same {name : PySem.Str} {hs : Int} {tk : Tok} {v : Value} : ∀ {es : List DictEntry}, ((putL name hs (.str name tk) v es).find? (·.key.isStr name)).map (·.val) = some v
  | [] => by
    have : (Value.str name tk).isStr name = true := by show (name == name) = true; simp
    simp [putL, this]
  | e :: r => by
    unfold putL
    cases h : e.key.isStr name with
    | true => simp [h]
    | false => simp only [Bool.false_eq_true, if_false, List.find?_cons, h]; exact putL_find_same
theorem isStr_two {v : Value} {a b : PySem.Str} (h : v.isStr a = true) (h' : v.isStr b = true) : a = b := by
  cases v <;> simp_all [Value.isStr]
theorem putL_find_other {name other : PySem.Str} {hs : Int} {tk : Tok} {v : Value} (hne : other ≠ name) : ∀ {es : List DictEntry}, ((putL name hs (.str name tk) v es).find? (·.key.isStr other)).map (·.val) = (es.find? (·.key.isStr other)).map (·.val)
  | [] => by
    have : (Value.str name tk).isStr other = false := by
      show (name == other) = false
      simpa using Ne.symm hne
    simp [putL, this]
  | e :: r => by
    unfold putL
    cases h : e.key.isStr name with
    | true =>
      have : e.key.isStr other = false := by
        cases q : e.key.isStr other with
        | false => rfl
        | true => exact absurd (isStr_two q h) hne
      simp [this]
    | false =>
      simp only [Bool.false_eq_true, if_false, List.find?_cons]
      cases e.key.isStr other with
      | true => rfl
      | false => exact putL_find_other hne
inductive FPut (name : PySem.Str) (d : D) : Fs → Fs → Prop
  | nil : FPut name d [] [(name, d)]
  | here {x d₀ r} : (name == x) = true → (r.map (·.1)).contains name = false → FPut name d ((x, d₀) :: r) ((x, d) :: r)
  | there {p r r'} : (p.1 == name) = false → FPut name d r r' → FPut name d (p :: r) (p :: r')
theorem FPut.ok {name : PySem.Str} {d : D} {fs fs' : Fs} (h : FPut name d fs fs') : (∀ p ∈ fs', p = (name, d) ∨ (p ∈ fs ∧ p.1 ≠ name)) ∧ (∀ y ∈ fs.map (·.1), y ∈ fs'.map (·.1)) ∧ name ∈ fs'.map (·.1) ∧ fs'.length = (if name ∈ fs.map (·.1) then fs.length else fs.length + 1) := by
  induction h with
  | nil => exact ⟨fun p hp => .inl (by simpa using hp), fun y hy => by simp at hy, by simp, by simp⟩
  | @here x d₀ r h1 h2 =>
    obtain rfl : name = x := by simpa using h1
    have h2' : name ∉ r.map (·.1) := by simpa using h2
    refine ⟨fun p hp => ?_, fun y hy => hy, by simp, by simp⟩
    rcases List.mem_cons.mp hp with rfl | hp
    · exact .inl rfl
    · exact .inr ⟨.tail _ hp, fun e => h2' (e ▸ List.mem_map_of_mem hp)⟩
  | @there p r r' h1 _ ih =>
    have h1' : p.1 ≠ name := by simpa using h1
    obtain ⟨a, b, c, e⟩ := ih
    refine ⟨fun q hq => ?_, fun y hy => ?_, by rw [List.map_cons]; exact .tail _ c, ?_⟩
    · rcases List.mem_cons.mp hq with rfl | hq
      · exact .inr ⟨.head _, h1'⟩
      · exact (a q hq).imp id fun ⟨x, y⟩ => ⟨.tail _ x, y⟩
    · rw [List.map_cons] at hy ⊢
      rcases List.mem_cons.mp hy with rfl | hy
      · exact .head _
      · exact .tail _ (b y hy)
    · rw [List.length_cons, e, List.map_cons, List.length_cons]
      simp only [List.mem_cons, Ne.symm h1', false_or]
      split <;> rfl
theorem OInst.put {fs fs' : Fs} {g : Heap} {es : List DictEntry} {n : Nat} {name : PySem.Str} {d : D} {hs : Int} {tk : Tok} {v : Value} (h : OInst fs g (dictOf es n)) (u : FPut name d fs fs') (hv : handedIn v = true) (r : Rep g v d) : OInst fs' g (dictOf (putL name hs (.str name tk) v es) (putN name es n)) := by
  obtain ⟨es', n', e, h0, h1, h2⟩ := h
  have : es = es' := by
    have := congrArg Obj.data e
    simp only [Data.dict.injEq] at this
    simpa using congrArg Array.toList this.1
  subst this
  obtain ⟨a, b, c, l⟩ := u.ok
  have hk : ∀ e ∈ es, ∃ y t, e.key = .str y t := fun e he => let ⟨y, t, q, _⟩ := h1 e he; ⟨y, t, q⟩
  have hk' := putL_keys (name := name) (hs := hs) (tk := tk) (v := v) (P := fun y => y ∈ fs'.map (·.1)) (fun e he => let ⟨y, t, q, hy⟩ := h1 e he; ⟨y, t, q, b y hy⟩) c
  refine ⟨_, _, rfl, ?_, hk', fun p hp => ?_⟩
  · rw [putL_len, l]
    by_cases q : name ∈ fs.map (·.1)
    · rw [if_pos q]
      obtain ⟨p, hp, rfl⟩ := List.mem_map.mp q
      obtain ⟨u, e1, _⟩ := h2 p hp
      rw [getL_str hk] at e1
      have : es.any (·.key.isStr p.1) = true := by
        rw [List.any_eq_true]
        cases z : es.find? (·.key.isStr p.1) with
        | none => rw [z] at e1; cases e1
        | some en => exact ⟨en, List.mem_of_find?_eq_some z, List.find?_some (p := fun x : DictEntry => x.key.isStr p.1) z⟩
      rw [if_pos this]; exact h0
    · rw [if_neg q]
      split <;> (first | lia | omega)
  · have hkk : ∀ e ∈ putL name hs (.str name tk) v es, ∃ y t, e.key = .str y t := fun e he => let ⟨y, t, q, _⟩ := hk' e he; ⟨y, t, q⟩
    rw [getL_str hkk]
    rcases a p hp with rfl | ⟨q1, q2⟩
    · exact ⟨v, by rw [putL_find_same], hv, r⟩
    · obtain ⟨u, e1, e2, e3⟩ := h2 p q1
      refine ⟨u, ?_, e2, e3⟩
      rw [putL_find_other q2]
      rw [getL_str hk] at e1
      exact e1
theorem osa_own {prog : Program} {w : World} {A : Around} {s : Shared} {K : Frag} {x cls dx : Addr} {R : Result → Shared → Prop} {name : PySem.Str} {tk : Tok} {v : Value} {es : List DictEntry} {n : Nat} {sl : Array (Option Value)} (X : K.In s.heap)
    (I : InstAt s.heap x ⟨.ref cls, some dx, .plain, sl⟩ cls (some (dictOf es n))) (hp : plainOver K cls = true) (ht : takerIn K cls name = some none) (hh : (clsIn K cls).any (·.hasDict) = true)
    (hk : ∀ e ∈ es, ∃ y t, e.key = .str y t) (hz : es.length ≤ 1000)
    (h : R (.ok (.ret .none)) { s with heap := s.heap.update dx (Obj.putName name (PyData.keyHash w.params name) (.str name s.toks) v), toks := s.toks + 1 }) :
    codeAny (model prog w) A (.call (.builtin "object.__setattr__") ⟨[.ref x, .str name tk, v], []⟩) R s := by
  refine osa_open X I hp ht fun b => ?_
  obtain ⟨cd, hc, hd'⟩ := any_some hh
  have hx := I.at_
  have D : s.heap.get? dx = some (dictOf es n) := I.dict
  refine wpAny_bind (wpAny_pure (wpAny_bind (wpAny_bind (wpAny_loadPart hx (wpAny_bind ((looks_clsIn X hc).here ?_))))))
  rw [hd']
  refine wpAny_pure (a := some dx) (wpAny_bind (wpAny_pure (wpAny_bind ?_)))
  unfold nsSet
  refine wpAny_bind (wpAny_bind (wpAny_askSetting (wpAny_pure (wpAny_bind (wpAny_mkText (wpAny_bind (wpAny_loadPart D ?_)))))))
  dsimp only
  have nr : es.any (·.refKey) = false := by
    rw [List.any_eq_false]
    intro e he
    obtain ⟨y, t, q⟩ := hk e he
    simp [DictEntry.refKey, q]
  have c : (!es.toArray.any (·.key.isStr name) && es.toArray.any (·.refKey)) = false := by
    rw [← Array.any_toList, ← Array.any_toList, List.toList_toArray, nr, Bool.and_false]
  rw [aRefKeyMayBeTheName_at, c]
  refine wpAny_updatePart D ?_
  have D' : (s.heap.update dx (Obj.putName name (PyData.keyHash w.params name) (.str name s.toks) v)).get? dx = some (Obj.putName name (PyData.keyHash w.params name) (.str name s.toks) v (dictOf es n)) := by
    refine Heap.get?_update_self _ D ?_
    rw [putName_dict]; rfl
  refine wpAny_bind (wpAny_lookBehind D' ?_ ?_)
  · rw [putName_dict]
    refine pastItsLine_dict ?_
    rw [List.size_toArray, putL_len, sizeLine_eq]
    split <;> (first | lia | omega)
  · exact wpAny_pure h
section
variable {C : Cc} {vars vars' vars'' : DVars} {own own' own'' : DOwn} {Q : Flow → Shared → Prop} {d d₁ d₂ : D} {ds es : List D} {rest : List Stmt} {e l r value slice test body orelse : Expr} {args : List Expr} {pos p' p : Pos} {x : PySem.Str} {fv : Value} {g g' : Heap} {s s' : Shared}
structure SetI (C : Cc) (cls : Addr) (name : PySem.Str) : Prop where
  hs : findIn C.K (.ref cls) "__setattr__" = some (some (.builtin "object.__setattr__"))
  hp : plainOver C.K cls = true
  ht : takerIn C.K cls name = some none
  hh : (clsIn C.K cls).any (·.hasDict) = true
noncomputable abbrev Hand (d : D) : Prop := ∀ g v, Rep g v d → handedIn v = true
theorem Asg.attr {o : Expr} {name : PySem.Str} {apos : Pos} {cls xx dx : Addr} {fs fs' : Fs} (m : SetI C cls name) (ho : Ev C vars own o (.sp (IsInst cls xx dx))) (hm : (dx, OInst fs) ∈ own) (u : DPut dx (OInst fs') own own') (f : FPut name d fs fs') (hd : Hand d) (hl : Nat.ble fs.length 100 = true) :
    Asg C vars own (.Attribute o name apos) d vars own' := fun g s v hs hr => by
  rw [assign_Attribute]
  refine wpAny_bind (wpAny_holding (ho.run hs fun ov g₁ s₁ x₁ a₁ r₁ => ?_))
  refine wpAny_bind (wpAny_standAt (wpAny_bind (wpAny_holding ?_)))
  cases r₁ using Rep.eSp with
  | sp hI _ =>
    obtain ⟨rfl, hx⟩ := hI
    obtain ⟨⟨ob, e, q⟩, _⟩ := a₁.news _ hm
    have q' := q
    obtain ⟨es, n, rfl, h0, hk, hv⟩ := q
    have X := (a₁.cxg.ext a₁.sub).X
    have I : InstAt s₁.heap xx ⟨.ref cls, some dx, .plain, #[]⟩ cls (some (dictOf es n)) := ⟨a₁.sub _ _ hx, rfl, rfl, e⟩
    have hk' : ∀ e ∈ es, ∃ y t, e.key = .str y t := fun e he => let ⟨y, t, q, _⟩ := hk e he; ⟨y, t, q⟩
    have hle : es.length ≤ 1000 := Nat.le_trans h0 (Nat.le_trans (Nat.le_of_ble_eq_true hl) (by decide))
    refine set_plain X I m.hs (osa_own (s := { s₁ with toks := s₁.toks + 1 }) X I m.hp m.ht m.hh hk' hle ?_)
    refine wpAny_release ⟨g₁, x₁.ext, a₁.put u (fun b o hb e => (Heap.get?_update_ne _ _ _ _ hb).trans e) ⟨_, Heap.get?_update_self _ e ?_, ?_⟩ OInst.mono⟩
    · rw [putName_dict]; rfl
    · rw [putName_dict]; exact q'.put f (hd _ _ hr) (hr.ext x₁.ext)
theorem Asg.ext {t : Expr} (h : Asg C vars own t d vars' own') (hs : At2 C vars own g s) {v : Value} (r : Rep g v d) {Q : Unit → Shared → Prop} {E : Value → Shared → Prop} (k : ∀ g' s', Ext g g' → At2 C vars' own' g' s' → Rep g' v d → Q () s') : wpAny (model C.prog C.w) C.A (assign t C.env v) Q E s :=
  wmono (h g s v hs r) fun _ s' ⟨g', x, a⟩ => k g' s' x a (r.ext x)
theorem x_asg1W {σ : Type} {own₁ os : σ → DOwn} {dd : σ → D} {vs : σ → DVars} {o : Expr} {name : PySem.Str} {apos : Pos} (h : EvW C vars own value own₁ dd) (ha : ∀ z, Asg C vars (own₁ z) (.Attribute o name apos) (dd z) (vs z) (os z)) (k : ∀ z, Ex C (vs z) (os z) rest Q)
    (hsw : swapsWith value (some (.Attribute o name apos)) pos.line C.env = pure false) : Ex2 C vars own (.Assign [.Attribute o name apos] value pos) rest Q := fun g s hs => by
  rw [plainObj_exec_Assign_Attribute o name apos value pos hsw]
  refine wpAny_bind (wpAny_standAt (wpAny_bind (wmono (h g s hs) fun v s₁ ⟨z, g₁, x₁, a₁, r₁⟩ => ?_)))
  exact wpAny_bind ((ha z).ext a₁ r₁ fun g₂ s₂ x₂ a₂ _ => wpAny_pure (k z g₂ s₂ a₂))
theorem x_asg2W {σ : Type} {own₁ os os₂ : σ → DOwn} {dd : σ → D} {vs vs₂ : σ → DVars} {t₁ t₂ : Expr} (h : EvW C vars own value own₁ dd) (ha : ∀ z, Asg C vars (own₁ z) t₁ (dd z) (vs z) (os z)) (hb : ∀ z, Asg C (vs z) (os z) t₂ (dd z) (vs₂ z) (os₂ z)) (k : ∀ z, Ex C (vs₂ z) (os₂ z) rest Q)
    (h1 : (assignEach [t₁, t₂] C.env).map (·.2) = [assign t₁ C.env, assign t₂ C.env]) (h2 : swappedStores [t₁, t₂] value C.env = pure none) : Ex2 C vars own (.Assign [t₁, t₂] value pos) rest Q := fun g s hs =>
  wpAny_Assign_two (wmono (h g s hs) fun v s₁ ⟨z, g₁, x₁, a₁, r₁⟩ => (ha z).ext a₁ r₁ fun g₂ s₂ x₂ a₂ r₂ => (hb z).ext a₂ r₂ fun g₃ s₃ x₃ a₃ _ => k z g₃ s₃ a₃) h1 h2
theorem EvW.dict0 {P : Heap → Obj → Prop} {dpos : Pos} (hP : ∀ g, P g { cls := .type "dict", data := .dict #[] }) (hm : Mono P) : EvW C vars own (.Dict [] [] dpos) (fun a => (a, P) :: own) (fun a => .raw (.ref a)) := fun g s hs => by
  rw [eval_Dict0]
  refine wpAny_bind (wpAny_standAt (wpAny_newObj_type ?_))
  have a₂ := hs.newOwn (a := s.heap.objs.size) (o := { cls := .type "dict", data := .dict #[] }) (P := P) (s' := { s with heap := s.heap.push { cls := .type "dict", data := .dict #[] } }) ⟨_, _, rfl, fun b o e => Heap.get?_push_of_some _ e⟩ new_none (Heap.get?_push_size _ rfl) (hP g) hm
  exact ⟨_, g, fun _ _ e => e, a₂, .raw _⟩
theorem EvW.list0 {P : Heap → Obj → Prop} {lpos : Pos} (hP : ∀ g, P g { cls := .type "list", data := .seq #[] }) (hm : Mono P) : EvW C vars own (.List [] lpos) (fun a => (a, P) :: own) (fun a => .raw (.ref a)) := fun g s hs =>
  List_ (wmono (EvArgs.nil (pos := lpos) g s hs) fun vs s₁ ⟨g₁, x₁, r₁⟩ => by
    first | cases r₁ using Reps.eNil | cases r₁ using Rep.eInt | cases r₁ using Rep.eRaw | cases r₁ using Rep.eNone | cases r₁ using Rep.eStr | cases r₁ using Rep.eBool | cases r₁
    refine wpAny_newObj_type ?_
    have a₁ := hs.grow x₁
    have a₂ := a₁.newOwn (a := s₁.heap.objs.size) (o := { cls := .type "list", data := .seq #[] }) (P := P) (s' := { s₁ with heap := s₁.heap.push { cls := .type "list", data := .seq #[] } }) ⟨_, _, rfl, fun b o e => Heap.get?_push_of_some _ e⟩ new_none (Heap.get?_push_size _ rfl) (hP g₁) hm
    exact ⟨_, g₁, x₁.ext, a₂, .raw _⟩)
theorem At2.freezeP {P : Heap → Obj → Prop} {a : Addr} (x : At2 C vars ((a, P) :: own) g s) : ∃ g', Ext g g' ∧ At2 C vars own g' s ∧ ∃ o, g'.get? a = some o ∧ P g' o := by
  obtain ⟨⟨o, e, q⟩, hL, h0, hg⟩ := x.news _ (.head _)
  have nd := List.nodup_cons.mp x.nodup
  let g' : Heap := ⟨s.heap.objs.mapIdx fun i o => if (g.get? i).isSome || i == a then o else { o with data := .freed }, s.heap.life⟩
  have get' : ∀ b, g'.get? b = if (g.get? b).isSome || b == a then s.heap.get? b else .none := fun b => by
    by_cases c : ((g.get? b).isSome || b == a) = true
    · rw [if_pos c]
      unfold Heap.get?
      simp only [g', Array.getElem?_mapIdx]
      cases e : s.heap.objs[b]? with
      | none => rfl
      | some o => simp only [Option.map_some, if_pos c]
    · rw [if_neg c]
      refine get?_freed fun o e => ?_
      simp only [g', Array.getElem?_mapIdx, Option.map_eq_some_iff] at e
      obtain ⟨o', _, e⟩ := e
      rw [if_neg c] at e
      rw [← e]
  have ext : Ext g g' := fun b o e => by rw [get', e]; simpa using x.sub b o e
  have sub : Ext g' s.heap := fun b o e => by
    rw [get'] at e
    split at e
    · exact e
    · cases e
  have non : ∀ b, b ≠ a → g.get? b = none → g'.get? b = none := fun b hb h => by
    rw [get', h]
    simp [hb]
  refine ⟨g', ext, ⟨⟨x.gr.keeps, Ext.trans x.gr.ext ext, sub, fun b o e => ?_⟩, x.cx, ?_, ⟨x.frn.1, non _ (Ne.symm hL) x.frn.2⟩, fun p hp => ?_, fun p hp => x.mono p (.tail _ hp), nd.2, x.ro⟩, o, ?_, x.mono _ (.head _) _ _ _ ext q⟩
  · cases q : g.get? b with
    | some o' => have := ext b o' q; rw [e] at this; cases this; exact x.gr.new b o q
    | none =>
      rw [get', q] at e
      by_cases c : b = a
      · rw [c]; exact .inr h0
      · simp [c] at e
  · obtain ⟨m, F, hm⟩ := x.fr
    exact ⟨m, F, fun p hp => by obtain ⟨v, e, r⟩ := hm p hp; exact ⟨v, e, r.ext ext⟩⟩
  · obtain ⟨⟨o, e, q⟩, h1, h2, h3⟩ := x.news p (.tail _ hp)
    exact ⟨⟨o, e, x.mono p (.tail _ hp) _ _ _ ext q⟩, h1, h2, non _ (fun q => nd.1 (List.mem_map.mpr ⟨p, hp, q⟩)) h3⟩
  · rw [get']; simpa using e
theorem At2.freezeAll : ∀ {L : DOwn} {g : Heap}, At2 C vars (L ++ own) g s → ∃ g', Ext g g' ∧ At2 C vars own g' s ∧ ∀ p ∈ L, ∃ o, g'.get? p.1 = some o ∧ p.2 g' o
  | [], g, x => ⟨g, fun _ _ e => e, x, fun p hp => by cases hp⟩
  | (a, P) :: L, g, x => by
    obtain ⟨g₁, e₁, x₁, o, q, hP⟩ := At2.freezeP x
    obtain ⟨g₂, e₂, x₂, h⟩ := At2.freezeAll x₁
    have hm : Mono P := x.mono _ (.head _)
    refine ⟨g₂, Ext.trans e₁ e₂, x₂, fun p hp => ?_⟩
    rcases List.mem_cons.mp hp with rfl | hp
    · exact ⟨o, e₂ _ _ q, hm _ _ _ e₂ hP⟩
    · exact h p hp
end
end Mine
end
section
open PySem PySem.W PyProof.Rows PySem.Calls PySem.SeqAt
set_option Elab.async false
set_option linter.unusedVariables false
namespace Mine
section
variable {prog : Program} {w : World} {A : Around} {s : Shared} {K : Frag} {g : Heap}
theorem r_entryC {name qual : PySem.Str} {params : Arguments} {body : List Stmt} {sc : Scope} {dV kV doc pm cdv ct : Value} {an : Option Addr} {fo : Obj} {f : Addr} {args : List Value} {kw : List (PySem.Str × Value)} {binds : List (PySem.Str × Value)} {Q : Value → Shared → Prop}
    {vars : Vars} {cl : Addr → List (PySem.Str × Addr)} {own : Addr → Own}
    (hroom : A.depth < recursionLimit) (ho : s.heap.get? f = some fo) (hd : fo.data = .func (fnX name qual params body sc [] dV kV doc pm an cdv ct)) (hlim : s.heap.NoLimit) (hcd : s.heap.CodeRec cdv qual)
    (hbind : BindsTo s (fnX name qual params body sc [] dV kV doc pm an cdv ct) ⟨args, kw⟩ binds)
    (hkind : (binds.all fun y => sc.names.lookup y.1 == some .local || sc.names.lookup y.1 == some .cell) = true)
    (hnd : ((cellsFrom 0 sc.names []).map (·.1)).Nodup)
    (hcl : ∀ L, cellsFrom (L + 1) sc.names [] = cl L)
    (hvars : (vars.map fun p => bindL (fun x => sc.names.lookup x) binds (fun _ => none) p.1) = vars.map fun p => some p.2)
    (hown : ∀ L, ((cl L).map fun p => (p.2, Cel (bindC (fun x => sc.names.lookup x) binds (fun _ => none) p.1))) = own L)
    (hfl : (sc.isCoroutine || sc.isGenerator || !(sc.kind == .function)) = false)
    (k : ∀ L, Go s.heap L vars (own L) s fun s₁ => wpAny (model prog w) (A.deeper (envX qual sc L f cdv (cl L))) (execs body (envX qual sc L f cdv (cl L))) (fun fl s' => Q (retOf fl) s') Ff s₁) :
    codeAny (model prog w) A (.call (.ref f) ⟨args, kw⟩) (RetR Q) s := by
  simp only [Bool.or_eq_false_iff, Bool.not_eq_false'] at hfl
  obtain ⟨⟨hco, hgen⟩, hk⟩ := hfl
  have hk' : sc.kind = .function := by simpa using hk
  refine codeAny_call_function hroom ho hd hco hgen rfl hcd (hbind _ _ _ _ ?_)
  refine wpAny_newFunctionEnv_cells hk' (kindsX hkind _) fun env' he s' x => ?_
  subst he
  refine ⟨hlim.keeps x.toInCall.keep, codeAny_func ?_⟩
  obtain ⟨h₁, tk, rfl, _⟩ := x.done
  have hk₁ := x.toInCall.keep
  have henv : newEnv sc s.heap.objs.size mainGlobals (cellsFrom (s.heap.objs.size + 1) sc.names []) (qual ++ PySem.Str.ofString ".<locals>.") (some f) cdv none builtinsNs = envX qual sc s.heap.objs.size f cdv (cl s.heap.objs.size) := by
    rw [hcl]; rfl
  have hat : At s.heap s.heap.objs.size vars (own s.heap.objs.size) s { s with heap := h₁, toks := tk } := by
    refine ⟨⟨_, ⟨x.toInCall.ns, hk₁, Nat.le_refl _⟩, fun p hp => ?_⟩, ?_, ?_, ⟨rfl, rfl, rfl⟩⟩
    · have := (List.map_inj_left.mp hvars) p hp
      exact this
    · rw [← hown]
      intro p hp
      obtain ⟨⟨n, c⟩, hm, rfl⟩ := List.mem_map.mp hp
      rw [← hcl] at hm
      have e := lookup_of_mem_nodup (cellsFrom_names sc.names 0 (s.heap.objs.size + 1) [] [] rfl ▸ hnd) hm
      have h1 := x.cell n c e
      have h2 := x.above n c hm
      refine ⟨h1, Nat.ne_of_gt h2, ?_⟩
      cases q : s.heap.get? c with
      | none => rfl
      | some o => exact absurd (Heap.lt_size q) (Nat.not_lt.mpr (Nat.le_of_lt h2))
    · rw [← hown, ← hcl, List.map_map]
      have := x.apart
      exact List.pairwise_map.mpr this
  have := k s.heap.objs.size _ hat
  show wpAny (model prog w) (A.deeper (newEnv sc s.heap.objs.size mainGlobals (cellsFrom (s.heap.objs.size + 1) sc.names []) (qual ++ PySem.Str.ofString ".<locals>.") (some f) cdv none builtinsNs)) (execs body (newEnv sc s.heap.objs.size mainGlobals (cellsFrom (s.heap.objs.size + 1) sc.names []) (qual ++ PySem.Str.ofString ".<locals>.") (some f) cdv none builtinsNs)) _ _ _
  rw [henv]
  refine ff (wpAny_mono this (fun fl s' h => ?_) fun _ _ y => y)
  cases fl <;> exact h
noncomputable abbrev fCw (prog : Program) (w : World) (K : Frag) (A : Around) (s : Shared) (g : Heap) (qual : PySem.Str) (sc : Scope) (L f : Addr) (cdv : Value) (cl : List (PySem.Str × Addr)) (wo : DOwn) : Cc :=
  ⟨prog, w, K, A.deeper (envX qual sc L f cdv cl), hideS (wo.map (·.1)) s, g, envX qual sc L f cdv cl, []⟩
theorem fn_entryW {name qual : PySem.Str} {params : Arguments} {body : List Stmt} {sc : Scope} {dV kV doc pm cdv ct : Value} {an : Option Addr} {fo : Obj} {f : Addr} {args : List Value} {binds : List (PySem.Str × Value)} {n : Nat} {wo : DOwn} {σ : Type} {wo' : σ → DOwn} {dd : σ → D}
    {vars : Vars} {cl : Addr → List (PySem.Str × Addr)} {own : Addr → Own} {dv : DVars} {dow : Addr → DOwn}
    (hA : RmN n A) (F : Fz K g s) (hw : Stand wo g s) (ho : K.lookup f = some fo) (hd : fo.data = .func (fnX name qual params body sc [] dV kV doc pm an cdv ct)) (hcd : s.heap.CodeRec cdv qual)
    (hbind : BindsTo s (fnX name qual params body sc [] dV kV doc pm an cdv ct) ⟨args, []⟩ binds)
    (hkind : (binds.all fun y => sc.names.lookup y.1 == some .local || sc.names.lookup y.1 == some .cell) = true)
    (hnd : ((cellsFrom 0 sc.names []).map (·.1)).Nodup)
    (hcl : ∀ L, cellsFrom (L + 1) sc.names [] = cl L)
    (hvars : (vars.map fun p => bindL (fun x => sc.names.lookup x) binds (fun _ => none) p.1) = vars.map fun p => some p.2)
    (hown : ∀ L, ((cl L).map fun p => (p.2, Cel (bindC (fun x => sc.names.lookup x) binds (fun _ => none) p.1))) = own L)
    (hfl : (sc.isCoroutine || sc.isGenerator || !(sc.kind == .function)) = false)
    (hdv : DV g vars dv) (hdo : ∀ L, DO g (own L) (dow L)) {ow : Addr → DOwn} (how : ∀ L, wo ++ dow L = ow L)
    (k : ∀ L, Ex (fCw prog w K A s g qual sc L f cdv (cl L) wo) dv (ow L) body (FinW (fCw prog w K A s g qual sc L f cdv (cl L) wo) wo' dd)) :
    codeAny (model prog w) A (.call (.ref f) ⟨args, []⟩) (RetR fun v s' => ∃ z g', After wo g s (wo' z) g' s' ∧ Rep g' v (dd z)) s := by
  have X := F.cx.ext F.sub
  refine r_entryC (vars := vars) (cl := cl) (own := own) (Nat.lt_of_le_of_lt (Nat.le_trans (Nat.le_add_right _ _) hA.depth) (by decide)) (X.X _ _ ho) hd X.lim hcd hbind hkind hnd hcl hvars hown hfl fun L s₁ hs₁ => ?_
  obtain ⟨m, Fr, hm⟩ := hs₁.fr
  have hL : s.heap.get? L = none := by
    cases q : s.heap.get? L with
    | none => rfl
    | some o => exact absurd (Heap.lt_size q) (Nat.not_lt.mpr Fr.above)
  have hg : ∀ a, s.heap.get? a = none → g.get? a = none := fun a h => by
    cases q : g.get? a with
    | none => rfl
    | some o => exact (live_ne h (F.sub _ _ q)).elim
  have hh : ∀ a, s.heap.get? a = none → (hide (wo.map (·.1)) s.heap).get? a = none := fun a h => by
    rw [get?_hide]; split
    · rfl
    · exact h
  have hin : ∀ p ∈ wo, (hide (wo.map (·.1)) s.heap).get? p.1 = none := fun p hp => by
    rw [get?_hide, if_pos]
    simp only [List.contains_eq_mem, decide_eq_true_eq]
    exact List.mem_map_of_mem hp
  refine wmono (k L g s₁ ?_) fun fl s' ⟨z, g', q1, q2, q3, q4⟩ => ⟨z, g', ⟨q1, q3, q4⟩, q2⟩
  rw [← how]
  refine ⟨⟨keepsOf (Ext.trans hide_ext Fr.keep) hs₁.rest, fun _ _ e => e, Ext.trans F.sub Fr.keep, fun _ _ e => .inl e⟩, F.cx, ⟨m, Fr.ns, fun p hp => ?_⟩, ⟨hh _ hL, hg _ hL⟩, fun p hp => ?_, fun p hp => ?_, ?_, fun p hp => (nomatch hp)⟩
  · obtain ⟨v, h1, h2⟩ := hdv.ok p hp
    exact ⟨v, hm _ h1, h2⟩
  · rcases List.mem_append.mp hp with hp | hp
    · obtain ⟨⟨o, e, q⟩, h1, h2⟩ := hw.at_ p hp
      refine ⟨⟨o, Fr.keep _ _ e, q⟩, fun q => ?_, hin p hp, h1⟩
      have q' : p.1 = L := q
      rw [← q', e] at hL; cases hL
    · obtain ⟨⟨P, h1, h2⟩, _⟩ := (hdo L).ok p hp
      obtain ⟨⟨o, e, q⟩, h3, h4⟩ := hs₁.news _ h1
      exact ⟨⟨o, e, h2 o q⟩, h3, hh _ h4, hg _ h4⟩
  · rcases List.mem_append.mp hp with hp | hp
    · exact (hw.at_ p hp).2.2
    · exact ((hdo L).ok p hp).2
  · rw [List.map_append]
    refine List.nodup_append.mpr ⟨hw.nodup, by rw [(hdo L).names]; exact hs₁.nodup, fun a ha b hb e => ?_⟩
    subst e
    obtain ⟨p, hp, rfl⟩ := List.mem_map.mp ha
    obtain ⟨q, hq, e⟩ := List.mem_map.mp hb
    obtain ⟨⟨P, h1, h2⟩, _⟩ := (hdo L).ok q hq
    obtain ⟨_, _, h4⟩ := hs₁.news _ h1
    obtain ⟨⟨o, e', _⟩, _⟩ := hw.at_ p hp
    have h4' : s.heap.get? q.1 = none := h4
    rw [e, e'] at h4'
    first | cases h4' using Reps.eNil | cases h4' using Rep.eInt | cases h4' using Rep.eRaw | cases h4' using Rep.eNone | cases h4' using Rep.eStr | cases h4' using Rep.eBool | cases h4'
theorem RmN.under_tc {n : Nat} (h : RmN (n + 1) A) {a : Addr} {r : List Value} {kw : List (PySem.Str × Value)} : RmN n (A.under (.builtin "type.__call__" ⟨.ref a :: r, kw⟩)) := by
  have e1 : (Code.builtin "type.__call__" ⟨.ref a :: r, kw⟩).weight ≤ 1 := Nat.le_of_ble_eq_true (by kernel_rfl)
  have e2 : (Code.builtin "type.__call__" ⟨.ref a :: r, kw⟩).cUnits ≤ 3 := Nat.le_of_ble_eq_true (by kernel_rfl)
  exact ⟨h.handled, by have := h.depth; show A.depth + _ + n ≤ 400; (first | lia | omega), by have := h.units; show A.units + _ + 3 * n ≤ 1000; (first | lia | omega)⟩
theorem fnW_make {cls fI : Addr} {n : Nat} {ds : List D} {fs : Fs} (hm : makesIn K cls = true) (hi : findIn K (.ref cls) "__init__" = some (some (.ref fI))) (hf : isFn K (.ref fI) = true)
    (h : ∀ x dx, FnW prog w K n (.ref fI) (.sp (IsInst cls x dx) :: ds) [(dx, OInst [])] (fun _ : Unit => [(dx, OInst fs)]) (fun _ => .none)) :
    FnW prog w K (n + 1) (.ref cls) ds [] (fun z : Addr × Addr => [(z.2, OInst fs)]) (fun z => .sp (IsInst cls z.1 z.2)) := fun A hA g s vs F r _ => by
  obtain ⟨hp, gn, dr, t, os⟩ := s
  have X := (F.cx.ext F.sub).X
  refine make_core (makes_of X hm) (looks_findIn X hi) (fun self => bind_fn X self (beq_iff_eq.mp hf)) (.inl rfl) ?_
  have n1 : hp.get? hp.objs.size = none := new_none
  have n2 : hp.get? (hp.objs.size + 1) = none := by
    cases q : hp.get? (hp.objs.size + 1) with
    | none => rfl
    | some o => exact absurd (Heap.lt_size q) (Nat.not_lt.mpr (Nat.le_succ _))
  have k₁ : Ext hp ((hp.push emptyDict).push (instObj cls hp.objs.size)) := fun b o e => Heap.get?_push_of_some _ (Heap.get?_push_of_some _ e)
  have o1 : ((hp.push emptyDict).push (instObj cls hp.objs.size)).get? hp.objs.size = some emptyDict := Heap.get?_push_of_some _ (Heap.get?_push_size _ rfl)
  have o2 : ((hp.push emptyDict).push (instObj cls hp.objs.size)).get? (hp.objs.size + 1) = some (instObj cls hp.objs.size) := by
    have := Heap.get?_push_size (hp.push emptyDict) (o := instObj cls hp.objs.size) rfl
    rwa [Heap.size_push] at this
  have sub : Ext g hp := F.sub
  have mx := Gr.max (g := g) (s := ⟨hp, gn, dr, t, os⟩) (s' := ⟨(hp.push emptyDict).push (instObj cls hp.objs.size), gn, dr, t, os⟩) sub ⟨_, _, rfl, k₁⟩
  have ne : hp.objs.size + 1 ≠ hp.objs.size := Nat.succ_ne_self _
  have e₁ : Ext g (hide [hp.objs.size] (grow g ⟨hp, gn, dr, t, os⟩ ⟨(hp.push emptyDict).push (instObj cls hp.objs.size), gn, dr, t, os⟩)) := fun b o e => by
    rw [get?_hide, if_neg]
    · exact mx.ext _ _ e
    · intro q
      have q' : b = hp.objs.size := by simpa using q
      rw [q'] at e
      exact live_ne n1 (sub _ _ e)
  have hx : (hide [hp.objs.size] (grow g ⟨hp, gn, dr, t, os⟩ ⟨(hp.push emptyDict).push (instObj cls hp.objs.size), gn, dr, t, os⟩)).get? (hp.objs.size + 1) = some (instObj cls hp.objs.size) := by
    rw [get?_hide, if_neg (by simp)]
    exact grow_new n2 o2
  have hd : (hide [hp.objs.size] (grow g ⟨hp, gn, dr, t, os⟩ ⟨(hp.push emptyDict).push (instObj cls hp.objs.size), gn, dr, t, os⟩)).get? hp.objs.size = none := by
    rw [get?_hide, if_pos (by simp)]
  have rx : Rep (hide [hp.objs.size] (grow g ⟨hp, gn, dr, t, os⟩ ⟨(hp.push emptyDict).push (instObj cls hp.objs.size), gn, dr, t, os⟩)) (.ref (hp.objs.size + 1)) (.sp (IsInst cls (hp.objs.size + 1) hp.objs.size)) := .sp ⟨rfl, hx⟩ IsInst.mono
  refine codeAny_mono (h (hp.objs.size + 1) hp.objs.size _ hA.under_tc _ ⟨(hp.push emptyDict).push (instObj cls hp.objs.size), gn, dr, t, os⟩ _ ⟨Ext.trans hide_ext mx.sub, F.cx.ext e₁⟩ (.cons rx (r.ext e₁)) ⟨fun p hp' => ?_, by simp⟩) fun r' s' hr => ?_
  · obtain rfl := List.mem_singleton.mp hp'
    refine ⟨⟨emptyDict, o1, [], 0, rfl, Nat.le_refl _, fun e he => by simp at he, fun p hp => by simp at hp⟩, hd, OInst.mono⟩
  · rcases r' with e | (v | _ | _ | _) <;> first | exact hr.elim | skip
    obtain ⟨_, g', y, rn⟩ := hr
    first | cases rn using Reps.eNil | cases rn using Rep.eInt | cases rn using Rep.eRaw | cases rn using Rep.eNone | cases rn using Rep.eStr | cases rn using Rep.eBool | cases rn
    refine ⟨rfl, (hp.objs.size + 1, hp.objs.size), g', ⟨⟨keepsOf (fun a o e => keepsExt y.gr.keeps _ _ ?_) (keepsRest (a := hideS [hp.objs.size] ⟨(hp.push emptyDict).push (instObj cls hp.objs.size), gn, dr, t, os⟩) y.gr.keeps), Ext.trans e₁ y.gr.ext, y.gr.sub, fun a o e => ?_⟩, y.st, fun p hp' => ?_⟩, rx.ext y.gr.ext⟩
    · have e' : hp.get? a = some o := hide_ext _ _ e
      show (hide [hp.objs.size] _).get? a = some o
      rw [get?_hide, if_neg]
      · exact k₁ _ _ e'
      · intro q
        have q' : a = hp.objs.size := by simpa using q
        rw [q'] at e'
        exact live_ne n1 e'
    · have nn : hp.get? a = none → (hide [] hp).get? a = none := fun h => by
        rw [get?_hide, if_neg (by simp)]; exact h
      rcases y.gr.new a o e with q | q
      · rcases mx.new a o (hide_ext _ _ q) with q | q
        · exact .inl q
        · exact .inr (nn q)
      · right
        refine nn ?_
        cases z : hp.get? a with
        | none => rfl
        | some o' =>
          have q' : (hide [hp.objs.size] ((hp.push emptyDict).push (instObj cls hp.objs.size))).get? a = none := q
          rw [get?_hide, if_neg] at q'
          · exact (live_ne q' (k₁ _ _ z)).elim
          · intro q2
            have q2' : a = hp.objs.size := by simpa using q2
            rw [q2'] at z
            exact live_ne n1 z
    · obtain rfl := List.mem_singleton.mp hp'
      show (hide [] hp).get? hp.objs.size = none
      rw [get?_hide, if_neg (by simp)]; exact n1
end
end Mine
end
section
open PySem PySem.W PyProof.Rows PySem.Calls PySem.SeqAt
set_option Elab.async false
set_option linter.unusedVariables false
namespace Mine
section
variable {C : Cc} {vars vars'' : DVars} {own own' own'' : DOwn} {Q R : Flow → Shared → Prop} {d d₁ d₂ : D} {ds es : List D} {rest : List Stmt} {e l r value slice test body orelse : Expr} {args : List Expr} {pos p' p : Pos} {x : PySem.Str} {fv : Value} {g g' : Heap} {s s' : Shared} {cs ct : List Nat}
end
end Mine
end
section
open PySem PySem.W PyProof.Rows PySem.Calls PySem.SeqAt
set_option Elab.async false
set_option linter.unusedVariables false
namespace Mine
noncomputable def IsDec (prog : Program) (w : World) (K : Frag) (L : Heap → Prop) (v₁ v₂ : Value) (T : Prop) : Prop := ∀ A s, K.In s.heap → L s.heap → wpAny (model prog w) A (compareOp .Is v₁ v₂) (fun v s' => ∃ b, v = .bool b ∧ s' = s ∧ (b = true → T)) Ff s
section
variable {prog : Program} {w : World} {K : Frag}
theorem IsDec.nothing {v : Value} (h : v ≠ .none) : IsDec prog w K (fun _ => True) v .none False := fun A s _ _ => by
  show wpAny _ A (do return Value.bool (← isSame v .none)) _ _ s
  rw [isSame_none]
  refine wpAny_bind (wpAny_pure (wpAny_pure ⟨_, rfl, rfl, fun q => h (by simpa using q)⟩))
end
section
variable {C : Cc} {vars vars' vars'' : DVars} {own own' own'' : DOwn} {Q R : Flow → Shared → Prop} {d d₁ d₂ : D} {ds es : List D} {rest body orelse : List Stmt} {e l r value slice test : Expr} {args : List Expr} {pos p' p : Pos} {x : PySem.Str} {fv : Value} {g g' : Heap} {s s' : Shared} {cs ct : List Nat}
theorem x_ifIs {v₁ v₂ : Value} {T : Prop} (h1 : Ev C vars own l (.raw v₁)) (h2 : Ev C vars own r (.raw v₂)) {L : Heap → Prop} (hd : IsDec C.prog C.w C.K L v₁ v₂ T) (hl : ∀ g s, At2 C vars own g s → L s.heap) (hb : behindInMarks .Is r = false)
    (k1 : T → Ex C vars own body (ContC C rest Q)) (k2 : Ex C vars own orelse (ContC C rest Q)) : Ex2 C vars own (.If (.Compare l [.Is] [r] p) body orelse pos) rest Q := fun g s hs =>
  wpAny_If (wpAny_isTrue_Compare1 (h1.run hs fun u₁ g₁ s₁ x₁ a₁ r₁ => h2.run a₁ fun u₂ g₂ s₂ x₂ a₂ r₂ => by
    cases r₁; cases r₂
    refine wmono (hd C.A s₂ (a₂.cxg.ext a₂.sub).X (hl g₂ s₂ a₂)) fun v s' ⟨b, e1, e2, e3⟩ => ?_
    subst e1 e2
    refine wpAny_truthy_bool ?_
    cases b with
    | true => rw [if_pos rfl]; exact k1 (e3 rfl) g₂ _ a₂
    | false => rw [if_neg (by simp)]; exact k2 g₂ _ a₂) hb)
end
end Mine
end
section
open PySem PySem.W PyProof.Rows PySem.Calls PySem.SeqAt
set_option Elab.async false
set_option linter.unusedVariables false
namespace Mine
structure ItOkT (C : Cc) (dss : List (List D)) (g : Heap) (s : Shared) (g₂ : Heap) (s₂ : Shared) (I : Addr) (fp wr : List Addr) (P : Nat → Array Value → Prop) (St : Nat → Heap → Prop) (Mid : Nat → Addr → Heap → Prop) : Prop where
  W : WalksT C.prog C.w C.A I fp wr dss.length P St Mid
  gr : Gr g s g₂ s₂
  item : ∀ i vs ds, dss[i]? = some ds → P i vs → Reps g₂ vs.toList ds
  st : St 0 s₂.heap
  fpn : ∀ b ∈ fp, (∃ o, g₂.get? b = some o) ∨ s.heap.get? b = none
  fpl : ∀ b ∈ fp, ∃ o, s₂.heap.get? b = some o
  wrn : ∀ b ∈ wr, g₂.get? b = none ∧ s.heap.get? b = none
  live : ∀ i h, St i h → ∀ b ∈ wr, ∃ o, h.get? b = some o
noncomputable def EvItT (C : Cc) (vars : DVars) (own : DOwn) (e : Expr) (dss : List (List D)) : Prop := ∀ g s, At2 C vars own g s → wpAny (model C.prog C.w) C.A (eval e C.env) (fun v s₁ => wpAny (model C.prog C.w) C.A (pyIter v) (fun it s₂ => ∃ g₂ I fp wr P St Mid, it = .ref I ∧ ItOkT C dss g s g₂ s₂ I fp wr P St Mid) Ff s₁) Ff s
noncomputable def AsgTup (C : Cc) (vars : DVars) (own : DOwn) (t : Expr) (ds : List D) (vars' : DVars) (own' : DOwn) : Prop := ∀ g s T vs, At2 C vars own g s → IsTup s.heap T vs → Reps g vs.toList ds → wpAny (model C.prog C.w) C.A (assign t C.env (.ref T)) (fun _ s' => ∃ g', Ext g g' ∧ At2 C vars' own' g' s') Ff s
noncomputable def TurnT (C : Cc) (vars : DVars) (own : DOwn) (t : Expr) (ds : List D) (body : List Stmt) (Q : Flow → Shared → Prop) : Prop := ∃ tv to, AsgTup C vars own t ds tv to ∧ Ex C tv to body Q
section
variable {C : Cc} {vars vars' vars'' : DVars} {own own' own'' : DOwn} {Q : Flow → Shared → Prop} {d d₁ d₂ : D} {ds : List D} {rest : List Stmt} {e l r : Expr} {pos p' : Pos} {x : PySem.Str} {cs : List Nat}
theorem TurnT.mk {t : Expr} {body : List Stmt} (h : AsgTup C vars own t ds vars' own') (k : Ex C vars' own' body Q) : TurnT C vars own t ds body Q := ⟨vars', own', h, k⟩
theorem AsgTup.of {elts : List Expr} {kk : Nat} {ts : List (Value → Sem Unit)} (hh : C.A.handled = none) (h1 : (assignEach elts C.env).map (·.2) = ts) (h2 : (assignEach elts C.env).findIdx? (·.1) = none) (h3 : (assignEach elts C.env).length = ds.length) (k : AsgAll C vars own ts ds vars' own') : AsgTup C vars own (.Tuple elts kk pos) ds vars' own' := fun g s T vs hs ht hr => by
  refine assign_Tuple_tuple hh ht (by rw [h3, ← hr.length]; simp) h2 fun h' hx => ?_
  rw [h1]
  have y : Gr g s g { s with heap := h' } := Gr.same hs.sub ⟨h', s.toks, rfl, extNew hx⟩
  exact k g _ _ (hs.grow y) hr
theorem x_forT {σ : Type} {elts : List Expr} {kk : Nat} {tp : Pos} {iter : Expr} {body : List Stmt} {dss : List (List D)} (hit : EvItT C vars own iter dss) (vs : Nat → σ → DVars) (os : Nat → σ → DOwn) (F : Nat → σ → Prop) (z₀ : σ)
    (h0 : F 0 z₀) (hv : ∀ p ∈ vs 0 z₀, p ∈ vars) (ho : DW own (os 0 z₀))
    (turn : ∀ s₀ gb, Sub C { C with s₀ := s₀, gb := gb } → ∀ i z ds, dss[i]? = some ds → F i z → TurnT { C with s₀ := s₀, gb := gb } (vs i z) (os i z) (.Tuple elts kk tp) ds body (TurnD { C with s₀ := s₀, gb := gb } (vs (i + 1)) (os (i + 1)) (F (i + 1)) (ContC C rest Q)))
    (k : ∀ z, F dss.length z → Ex C (vs dss.length z) (os dss.length z) rest Q) (hf : ∀ x, foldedSetIterable iter C.env x = pure x) :
    Ex2 C vars own (.For (.Tuple elts kk tp) iter body [] pos) rest Q := fun g s hs => by
  refine wpAny_For (wpAny_mono (hit g s hs) (fun v s₁ h₁ => wpAny_mono h₁ (fun it s₂ h₂ => ?_) fun _ _ x => x.elim) fun _ _ x => x.elim) hf
  obtain ⟨g₂, I, fp, wr, P, St, Mid, rfl, X⟩ := h₂
  have hs₁ := hs.weak ho
  have hs₂ : At2 C (vs 0 z₀) (os 0 z₀) g₂ s₂ := (hs₁.grow X.gr).forget hv
  have wr0 : ∀ b ∈ wr, C.s₀.heap.get? b = none := fun b hb => by
    cases q : C.s₀.heap.get? b with
    | none => rfl
    | some o => exact (live_ne (X.wrn b hb).2 (keepsExt hs.gr.keeps _ _ q)).elim
  have fp0 : ∀ b ∈ fp, b ≠ C.env.locals ∧ b ∉ (os 0 z₀).map (·.1) := fun b hb => by
    constructor
    · intro q
      rcases X.fpn b hb with ⟨o, e⟩ | h
      · rw [q] at e; exact live_ne hs₂.frn.2 e
      · obtain ⟨o, e⟩ := hs.L_live
        rw [q] at h; exact live_ne h e
    · intro q
      obtain ⟨p, hp, rfl⟩ := List.mem_map.mp q
      rcases X.fpn p.1 hb with ⟨o, e⟩ | h
      · exact live_ne (hs₂.news p hp).2.2.2 e
      · obtain ⟨⟨o, e, _⟩, _⟩ := hs₁.news p hp
        exact live_ne h e
  refine codeAny_forLoop_any (fun k s' => ∃ i z g', k = dss.length - i ∧ i ≤ dss.length ∧ F i z ∧ At2 C (vs i z) (os i z) g' s' ∧ Ext g₂ g' ∧ St i s'.heap ∧ (∀ b ∈ fp, b ≠ C.env.locals ∧ b ∉ (os i z).map (·.1) ∧ ∃ o, s'.heap.get? b = some o) ∧ (∀ b ∈ wr, g'.get? b = none)) ?_ (dss.length - 0)
    ⟨0, z₀, g₂, rfl, Nat.zero_le _, h0, hs₂, fun _ _ e => e, X.st, fun b hb => ⟨(fp0 b hb).1, (fp0 b hb).2, X.fpl b hb⟩, fun b hb => (X.wrn b hb).1⟩
  rintro k s' ⟨i, z, g', rfl, hi, hF, hs', he, hst, hfp, hwr⟩
  have hwr' : ∀ b ∈ wr, C.s₀.heap.get? b = none ∧ g'.get? b = none ∧ b ≠ C.env.locals ∧ b ∉ (os i z).map (·.1) := fun b hb => ⟨wr0 b hb, hwr b hb, (hfp b (X.W.sub b hb)).1, (hfp b (X.W.sub b hb)).2.1⟩
  by_cases hlt : i < dss.length
  · refine ff (X.W.item i s' _ Ff hlt hst fun T vals h₁ tk hv hT0 hT hmid hk₁ => ?_)
    have hTw := X.W.apart _ _ _ hmid
    refine ff (X.W.go elts kk tp i T _ _ _ hmid fun h' hst' hk₂ => ?_)
    have hk' : ∀ b o, b ∉ wr → s'.heap.get? b = some o → h'.get? b = some o := fun b o hb e => hk₂ b o hb (hk₁ b o hb e)
    have a₁ : At2 C (vs i z) (os i z) g' { s' with heap := h', toks := tk } := hs'.hid hk' hwr'
    have hTt : IsTup h' T vals := by
      obtain ⟨o, e, q⟩ := hT
      exact ⟨o, hk₂ _ _ hTw e, q⟩
    have hd : dss[i]? = some dss[i] := List.getElem?_eq_getElem hlt
    have hr : Reps g' vals.toList dss[i] := (X.item i vals _ hd hv).ext he
    have hlive : ∀ b ∈ fp, ∃ o, h'.get? b = some o := fun b hb => by
      by_cases q : b ∈ wr
      · exact X.live _ _ hst' b q
      · obtain ⟨_, _, o, e⟩ := hfp b hb
        exact ⟨o, hk' b o q e⟩
    obtain ⟨tv, to, ha, hx⟩ := turn _ _ a₁.subC i z _ hd hF
    refine wpAny_mono (ha g' _ T vals a₁.reb hTt hr) (fun _ s₃ h₃ => ?_) fun _ _ x => x.elim
    obtain ⟨g₃, x₃, a₃⟩ := h₃
    refine wpAny_mono (hx g₃ s₃ a₃) (fun f s₄ h₄ => ?_) fun _ _ x => x.elim
    have fin : ∀ z' g₄, F (i + 1) z' → At2 { C with s₀ := Mine.reb C (os i z) g' { s' with heap := h', toks := tk }, gb := g' } (vs (i + 1) z') (os (i + 1) z') g₄ s₄ → ∃ m, m < dss.length - i ∧ ∃ i z g', m = dss.length - i ∧ i ≤ dss.length ∧ F i z ∧ At2 C (vs i z) (os i z) g' s₄ ∧ Ext g₂ g' ∧ St i s₄.heap ∧ (∀ b ∈ fp, b ≠ C.env.locals ∧ b ∉ (os i z).map (·.1) ∧ ∃ o, s₄.heap.get? b = some o) ∧ (∀ b ∈ wr, g'.get? b = none) := fun z' g₄ hF' a₄ => by
      have lv : ∀ b ∈ fp, ∀ o, h'.get? b = some o → (Mine.reb C (os i z) g' { s' with heap := h', toks := tk }).heap.get? b = some o := fun b hb o e => by
        show (hide _ h').get? b = some o
        rw [get?_hide, if_neg]
        · exact e
        · intro q
          have q' : b ∈ C.env.locals :: (os i z).map (·.1) := by simpa using q
          rcases List.mem_cons.mp q' with q' | q'
          · exact (hfp b hb).1 q'
          · exact (hfp b hb).2.1 q'
      refine ⟨dss.length - (i + 1), by (first | lia | omega), i + 1, z', g₄, rfl, hlt, hF', a₁.subC.at2 a₄, Ext.trans he a₄.gr.ext, ?_, fun b hb => ?_, fun b hb => ?_⟩
      · exact X.W.frame _ _ _ hst' fun b hb o e => keepsExt a₄.gr.keeps _ _ (lv b hb o e)
      · obtain ⟨o, e⟩ := hlive b hb
        refine ⟨(hfp b hb).1, fun q => ?_, o, keepsExt a₄.gr.keeps _ _ (lv b hb o e)⟩
        obtain ⟨p, hp, rfl⟩ := List.mem_map.mp q
        exact live_ne (a₄.news p hp).2.2.1 (lv _ hb o e)
      · cases q : g₄.get? b with
        | none => rfl
        | some o =>
          rcases a₄.gr.new b o q with h | h
          · exact (live_ne (hwr b hb) h).elim
          · obtain ⟨o', e'⟩ := hlive b (X.W.sub b hb)
            exact (live_ne h (lv b (X.W.sub b hb) o' e')).elim
    cases f with
    | next => obtain ⟨z', g₄, hF', a₄⟩ := h₄; exact fin z' g₄ hF' a₄
    | cont => obtain ⟨z', g₄, hF', a₄⟩ := h₄; exact fin z' g₄ hF' a₄
    | brk => exact h₄
    | ret v => exact h₄
  · obtain rfl : i = dss.length := by (first | lia | omega)
    refine ff (X.W.done s' _ Ff hst fun h' tk hk' => ?_)
    refine wpAny_execs_nil ?_
    exact k z hF g' _ (hs'.hid hk' hwr')
noncomputable def ItDT (C : Cc) (fv : Value) (d : D) (dss : List (List D)) : Prop := ∀ g s v, Fz C.K g s → Rep g v d → wpAny (model C.prog C.w) C.A (call fv [v]) (fun u s₁ => wpAny (model C.prog C.w) C.A (pyIter u) (fun it s₂ => ∃ g₂ I fp wr P St Mid, it = .ref I ∧ ItOkT C dss g s g₂ s₂ I fp wr P St Mid) Ff s₁) Ff s
theorem EvItT.call {id : PySem.Str} {a : Expr} {fv : Value} {dss : List (List D)} (hf : Callee C vars own (.Name id p') fv) (ha : Ev C vars own a d) (h : ItDT C fv d dss) (he : starEach [a] C.env = [(false, eval a C.env)]) : EvItT C vars own (.Call (.Name id p') [a] [] pos) dss := fun g s hs => by
  refine wpAny_Call_Name_kw (wmono (hf.load g s hs) fun v s₁ h₁ => ?_)
  obtain ⟨rfl, rfl⟩ := h₁
  have h' := (EvArgs.cons (pos := pos) ha EvArgs.nil he) g s₁ hs
  show wpAny _ _ (callWith pos v [] (backTo pos (starEach [a] C.env)) []) _ _ _
  rw [he] at h' ⊢
  refine callWith_of (P := fun h => Kp (model C.prog C.w) h v) rfl (fun _ x => x) (evalArgs_plain (wmono h' fun vs s₂ ⟨g₂, x₂, r₂⟩ => ⟨hf.kp _ _ (hs.grow x₂), ?_⟩))
  cases r₂ using Reps.eCons with
  | cons r₂ rs =>
    first | cases rs using Reps.eNil | cases rs using Rep.eInt | cases rs using Rep.eRaw | cases rs using Rep.eNone | cases rs using Rep.eStr | cases rs using Rep.eBool | cases rs
    have non : ∀ b, s₂.heap.get? b = none → s₁.heap.get? b = none := fun b h => by
      cases q : s₁.heap.get? b with
      | none => rfl
      | some o => exact (live_ne h (keepsExt x₂.keeps _ _ q)).elim
    exact wmono (h g₂ s₂ _ (hs.grow x₂).fz r₂) fun u s₃ h₃ => wmono h₃ fun it s₄ ⟨g₄, I, fp, wr, P, St, Mid, q, X⟩ => ⟨g₄, I, fp, wr, P, St, Mid, q, ⟨X.W, x₂.trans X.gr, X.item, X.st, fun b hb => (X.fpn b hb).imp (fun h => h) (non b), X.fpl, fun b hb => ⟨(X.wrn b hb).1, non b (X.wrn b hb).2⟩, X.live⟩⟩
noncomputable def dEnum (ds : List D) : List (List D) := ds.mapIdx fun i d => [.int i, d]
theorem dEnum_get {ds : List D} {i : Nat} {es : List D} (h : (dEnum ds)[i]? = some es) : ∃ d, ds[i]? = some d ∧ es = [.int i, d] := by
  simp only [dEnum, List.getElem?_mapIdx, Option.map_eq_some_iff] at h
  obtain ⟨d, a, b⟩ := h
  exact ⟨d, a, b.symm⟩
theorem dEnum_len (ds : List D) : (dEnum ds).length = ds.length := by simp [dEnum]
theorem enum_ok {ds : List D} {g : Heap} {s : Shared} {h' : Heap} {fp : List Addr} {P : Nat → Value → Prop} {St : Nat → Heap → Prop} (f : Fz C.K g s) (D : Draws C.prog C.w C.A.in1 s.heap.objs.size fp ds.length P St) (hif : s.heap.objs.size ∈ fp) (hef : s.heap.objs.size + 1 ∉ fp)
    (hi : ∀ i v d, ds[i]? = some d → P i v → Rep g v d) (he : IsEnum h' (s.heap.objs.size + 1) s.heap.objs.size 0 .none) (hst : St 0 h') (hk : Ext s.heap h') (hfn : ∀ b ∈ fp, (∃ o, g.get? b = some o) ∨ s.heap.get? b = none) (hfl : ∀ b ∈ fp, ∃ o, h'.get? b = some o) :
    wpAny (model C.prog C.w) C.A (pyIter (.ref (s.heap.objs.size + 1))) (fun it s₂ => ∃ g₂ I fp wr P St Mid, it = .ref I ∧ ItOkT C (dEnum ds) g s g₂ s₂ I fp wr P St Mid) Ff { s with heap := h' } := by
  refine wpAny_pyIter_enum (s := { s with heap := h' }) he ?_
  have W := WalksT.enumerateD D (s.heap.objs.size + 1) (Nat.succ_ne_self _) hef hif
  rw [← dEnum_len ds] at W
  have n2 : s.heap.get? (s.heap.objs.size + 1) = none := by
    cases q : s.heap.get? (s.heap.objs.size + 1) with
    | none => rfl
    | some o => exact absurd (Heap.lt_size q) (Nat.not_lt.mpr (Nat.le_succ _))
  have gn : ∀ b, s.heap.get? b = none → g.get? b = none := fun b h => by
    cases q : g.get? b with
    | none => rfl
    | some o => exact (live_ne h (f.sub _ _ q)).elim
  refine ⟨g, _, _, _, _, _, _, rfl, W, Gr.same f.sub ⟨h', s.toks, rfl, hk⟩, fun i vs es hd hv => ?_, ⟨⟨.none, he⟩, hst⟩, fun b hb => ?_, fun b hb => ?_, fun b hb => ?_, fun i h st b hb => ?_⟩
  · obtain ⟨t, v, hP, rfl⟩ := hv
    obtain ⟨d, e1, rfl⟩ := dEnum_get hd
    exact .cons (.int _ _) (.cons (hi i v d e1 hP) .nil)
  · rcases List.mem_cons.mp hb with rfl | hb
    · exact .inr n2
    · exact hfn b hb
  · rcases List.mem_cons.mp hb with rfl | hb
    · exact ⟨_, he⟩
    · exact hfl b hb
  · rcases List.mem_cons.mp hb with rfl | hb
    · exact ⟨gn _ n2, n2⟩
    · rw [List.mem_singleton.mp hb]; exact ⟨gn _ new_none, new_none⟩
  · obtain ⟨⟨old, e1⟩, e2⟩ := st
    rcases List.mem_cons.mp hb with rfl | hb
    · exact ⟨_, e1⟩
    · rw [List.mem_singleton.mp hb]; exact D.live _ _ e2
theorem ItDT.enumS (hh : C.A.handled = none) : ItDT C (.type "enumerate") (.str (Ls cs)) (dEnum (dChars cs)) := fun g s v f r => by
  cases r using Rep.eStr with
  | str t =>
  refine call_enumerate_str fun h' he hi hz hk => ?_
  have hlen : (Ls cs).cps.size = (dChars cs).length := by simp [dChars]
  have ok : ∀ St, Draws C.prog C.w C.A.in1 s.heap.objs.size [s.heap.objs.size] (Ls cs).cps.size (fun i v => ∃ c u, (Ls cs).cps[i]? = some c ∧ v = .str ⟨#[c]⟩ u) St → St 0 h' → wpAny (model C.prog C.w) C.A (pyIter (.ref (s.heap.objs.size + 1))) (fun it s₂ => ∃ g₂ I fp wr P St Mid, it = .ref I ∧ ItOkT C (dEnum (dChars cs)) g s g₂ s₂ I fp wr P St Mid) Ff { s with heap := h' } := fun St D st => by
    rw [hlen] at D
    refine enum_ok f D (by simp) (by simp) (fun i v d hd hv => ?_) he st hk (fun b hb => .inr ?_) fun b hb => ?_
    · obtain ⟨c, u, e, rfl⟩ := hv
      simp only [dChars, List.getElem?_map, Option.map_eq_some_iff] at hd
      obtain ⟨c', e', rfl⟩ := hd
      simp only [List.getElem?_toArray] at e
      rw [e] at e'; cases e'
      exact .str _ _
    · rw [List.mem_singleton.mp hb]; exact new_none
    · rw [List.mem_singleton.mp hb]; obtain ⟨o, e, _⟩ := hi; exact ⟨o, e⟩
  unfold strIterType at hi
  split at hi
  · exact ok (fun i h => h.IsStrIter s.heap.objs.size "str_ascii_iterator" (Ls cs) t i) (Draws.strAscii (A := C.A.in1) hh _ _ t) hi
  · exact ok (fun i h => h.IsStrIter s.heap.objs.size "str_iterator" (Ls cs) t i) (Draws.strWide (A := C.A.in1) hh _ _ t) hi
end
end Mine
end
section
set_option linter.unusedVariables false
namespace Mine
structure Good (old : Int → Nat) (i blo bhi : Int) (s0 : St) (done : List Int) (st : St) : Prop where
  row : ∀ x, st.row x = if x ∈ done ∧ blo ≤ x ∧ x < bhi then old (x - 1) + 1 else 0
  ge : ∀ j ∈ done, blo ≤ j → j < bhi → old (j - 1) + 1 ≤ st.bs
  le : s0.bs ≤ st.bs
  best : (st.bi = s0.bi ∧ st.bj = s0.bj ∧ st.bs = s0.bs) ∨ ∃ j ∈ done, blo ≤ j ∧ j < bhi ∧ st.bs = old (j - 1) + 1 ∧ s0.bs < st.bs ∧ st.bi = i - (st.bs : Int) + 1 ∧ st.bj = j - (st.bs : Int) + 1 ∧ ∀ j2 ∈ done, blo ≤ j2 → j2 < bhi → old (j2 - 1) + 1 = st.bs → j ≤ j2
theorem Good.start (old : Int → Nat) (i blo bhi : Int) (s0 : St) : Good old i blo bhi s0 [] (clr s0) :=
  ⟨fun x => by simp, fun j hj => by simp at hj, Nat.le_refl _, .inl ⟨rfl, rfl, rfl⟩⟩
theorem Good.step {old : Int → Nat} {i blo bhi : Int} {s0 st : St} {done : List Int} {j : Int} (g : Good old i blo bhi s0 done st) (hj : ∀ x ∈ done, x < j) : Good old i blo bhi s0 (done ++ [j]) (inSt old i blo bhi st j) := by
  unfold inSt
  by_cases hw : blo ≤ j ∧ j < bhi
  · rw [if_pos hw]
    refine ⟨fun x => ?_, fun x hx h1 h2 => ?_, ?_, ?_⟩
    · dsimp only
      by_cases e : x = j
      · subst e; simp [hw.1, hw.2]
      · rw [if_neg e, g.row x]
        simp [e]
    · dsimp only
      rcases List.mem_append.mp hx with hx | hx
      · have := g.ge x hx h1 h2
        split <;> (first | lia | omega)
      · obtain rfl : x = j := by simpa using hx
        split <;> (first | lia | omega)
    · dsimp only
      have := g.le
      split <;> (first | lia | omega)
    · dsimp only
      by_cases hb : st.bs < old (j - 1) + 1
      · simp only [if_pos hb]
        right
        refine ⟨j, by simp, hw.1, hw.2, by simp, by have := g.le; (first | lia | omega), by simp, by simp, fun j2 hj2 h1 h2 h3 => ?_⟩
        rcases List.mem_append.mp hj2 with hj2 | hj2
        · have := g.ge j2 hj2 h1 h2
          (first | lia | omega)
        · obtain rfl : j2 = j := by simpa using hj2
          exact Int.le_refl _
      · simp only [if_neg hb]
        rcases g.best with h | ⟨q, hq, h1, h2, h3, h4, h5, h6, h7⟩
        · exact .inl h
        · right
          refine ⟨q, List.mem_append_left _ hq, h1, h2, h3, h4, h5, h6, fun j2 hj2 a b c => ?_⟩
          rcases List.mem_append.mp hj2 with hj2 | hj2
          · exact h7 j2 hj2 a b c
          · obtain rfl : j2 = j := by simpa using hj2
            exact Int.le_of_lt (hj q hq)
  · rw [if_neg hw]
    refine ⟨fun x => ?_, fun x hx h1 h2 => ?_, g.le, ?_⟩
    · rw [g.row x]
      by_cases e : x = j
      · subst e; simp [hw]
      · simp [e]
    · rcases List.mem_append.mp hx with hx | hx
      · exact g.ge x hx h1 h2
      · obtain rfl : x = j := by simpa using hx
        exact absurd ⟨h1, h2⟩ hw
    · rcases g.best with h | ⟨q, hq, h1, h2, h3, h4, h5, h6, h7⟩
      · exact .inl h
      · right
        refine ⟨q, List.mem_append_left _ hq, h1, h2, h3, h4, h5, h6, fun j2 hj2 a b c => ?_⟩
        rcases List.mem_append.mp hj2 with hj2 | hj2
        · exact h7 j2 hj2 a b c
        · obtain rfl : j2 = j := by simpa using hj2
          exact absurd ⟨a, b⟩ hw
theorem Good.fold {old : Int → Nat} {i blo bhi : Int} {s0 : St} : ∀ (l done : List Int) (st : St), Good old i blo bhi s0 done st → (∀ x ∈ done, ∀ y ∈ l, x < y) → l.Pairwise (· < ·) → Good old i blo bhi s0 (done ++ l) (l.foldl (inSt old i blo bhi) st)
  | [], done, st, g, _, _ => by simpa using g
  | j :: l, done, st, g, h, hp => by
    have hp' := List.pairwise_cons.mp hp
    have := Good.fold l (done ++ [j]) _ (g.step fun x hx => h x hx j (.head _)) (fun x hx y hy => by
      rcases List.mem_append.mp hx with hx | hx
      · exact h x hx y (.tail _ hy)
      · obtain rfl : x = j := by simpa using hx
        exact hp'.1 y hy) hp'.2
    simpa using this
theorem Good.row_ {blo bhi : Int} {js : Int → List Int} {st : St} {i : Int} (hp : (js i).Pairwise (· < ·)) : Good st.row i blo bhi st (js i) (rowSt blo bhi js st i) := by
  have := Good.fold (js i) [] _ (Good.start st.row i blo bhi st) (fun x hx => by simp at hx) hp
  unfold rowSt
  simpa using this
end Mine
end
section
set_option linter.unusedVariables false
namespace Mine
structure Inv (alo blo bhi : Int) (js : Int → List Int) (n : Nat) (st : St) : Prop where
  r1 : ∀ j, st.row j = 0 ∨ (blo ≤ j ∧ j < bhi ∧ st.row j ≤ n ∧ (st.row j : Int) ≤ j - blo + 1)
  r2 : ∀ j, ∀ t : Nat, t < st.row j → (j - t) ∈ js (alo + n - 1 - t)
  r3 : ∀ j, ∀ k : Nat, k ≤ n → blo ≤ j - k + 1 → j < bhi → (∀ t : Nat, t < k → (j - t) ∈ js (alo + n - 1 - t)) → k ≤ st.row j
  b0 : st.bs = 0 → st.bi = alo ∧ st.bj = blo
  b1 : 0 < st.bs → alo ≤ st.bi ∧ st.bi + st.bs ≤ alo + n ∧ blo ≤ st.bj ∧ st.bj + st.bs ≤ bhi ∧ ∀ t : Nat, t < st.bs → (st.bj + t) ∈ js (st.bi + t)
  b2 : ∀ i j : Int, ∀ k : Nat, alo ≤ i → i + k ≤ alo + n → blo ≤ j → j + k ≤ bhi → (∀ t : Nat, t < k → (j + t) ∈ js (i + t)) → k ≤ st.bs
  b3 : 0 < st.bs → ∀ i j : Int, alo ≤ i → i + st.bs ≤ alo + n → blo ≤ j → j + st.bs ≤ bhi → (∀ t : Nat, t < st.bs → (j + t) ∈ js (i + t)) → st.bi < i ∨ (st.bi = i ∧ st.bj ≤ j)
theorem Inv.start (alo blo bhi : Int) (js : Int → List Int) : Inv alo blo bhi js 0 (allSt alo blo bhi js 0) where
  r1 := fun j => .inl rfl
  r2 := fun j t h => absurd h (Nat.not_lt_zero _)
  r3 := fun j k h _ _ _ => h
  b0 := fun _ => ⟨rfl, rfl⟩
  b1 := fun h => absurd h (Nat.not_lt_zero _)
  b2 := fun i j k h1 h2 _ _ _ => by have : (k : Int) ≤ 0 := by simp at h2; (first | lia | omega)
                                    show k ≤ 0; (first | lia | omega)
  b3 := fun h => absurd h (Nat.not_lt_zero _)
theorem Inv.step {alo blo bhi : Int} {js : Int → List Int} {n : Nat} {st st' : St} (v : Inv alo blo bhi js n st) (g : Good st.row (alo + n) blo bhi st (js (alo + n)) st') : Inv alo blo bhi js (n + 1) st' := by
  have rowin : ∀ x, st'.row x ≠ 0 → x ∈ js (alo + n) ∧ blo ≤ x ∧ x < bhi ∧ st'.row x = st.row (x - 1) + 1 := fun x h => by
    have := g.row x
    by_cases c : x ∈ js (alo + n) ∧ blo ≤ x ∧ x < bhi
    · rw [if_pos c] at this; exact ⟨c.1, c.2.1, c.2.2, this⟩
    · rw [if_neg c] at this; exact absurd this h
  have rowat : ∀ x, x ∈ js (alo + n) → blo ≤ x → x < bhi → st'.row x = st.row (x - 1) + 1 := fun x h1 h2 h3 => by
    rw [g.row x, if_pos ⟨h1, h2, h3⟩]
  have r1' : ∀ j, st'.row j = 0 ∨ (blo ≤ j ∧ j < bhi ∧ st'.row j ≤ n + 1 ∧ (st'.row j : Int) ≤ j - blo + 1) := fun j => by
    by_cases c : st'.row j = 0
    · exact .inl c
    · obtain ⟨h1, h2, h3, h4⟩ := rowin j c
      right
      rcases v.r1 (j - 1) with h | ⟨a, b, c, d⟩
      · refine ⟨h2, h3, ?_, ?_⟩ <;> (first | lia | omega)
      · refine ⟨h2, h3, ?_, ?_⟩ <;> (first | lia | omega)
  have r2' : ∀ j, ∀ t : Nat, t < st'.row j → (j - t) ∈ js (alo + (n + 1 : Nat) - 1 - t) := fun j t h => by
    obtain ⟨h1, h2, h3, h4⟩ := rowin j (by (first | lia | omega))
    cases t with
    | zero =>
      have e1 : j - ((0 : Nat) : Int) = j := by simp
      have e2 : alo + ((n + 1 : Nat) : Int) - 1 - ((0 : Nat) : Int) = alo + n := by (first | lia | omega)
      rw [e1, e2]; exact h1
    | succ t =>
      have := v.r2 (j - 1) t (by (first | lia | omega))
      have e1 : j - ((t + 1 : Nat) : Int) = j - 1 - t := by (first | lia | omega)
      have e2 : alo + ((n + 1 : Nat) : Int) - 1 - ((t + 1 : Nat) : Int) = alo + n - 1 - t := by (first | lia | omega)
      rw [e1, e2]; exact this
  have r3' : ∀ j, ∀ k : Nat, k ≤ n + 1 → blo ≤ j - k + 1 → j < bhi → (∀ t : Nat, t < k → (j - t) ∈ js (alo + (n + 1 : Nat) - 1 - t)) → k ≤ st'.row j := fun j k h1 h2 h3 h4 => by
    cases k with
    | zero => exact Nat.zero_le _
    | succ k =>
      have a := h4 0 (Nat.succ_pos _)
      have e1 : j - ((0 : Nat) : Int) = j := by simp
      have e2 : alo + ((n + 1 : Nat) : Int) - 1 - ((0 : Nat) : Int) = alo + n := by (first | lia | omega)
      rw [e1, e2] at a
      rw [rowat j a (by (first | lia | omega)) h3]
      refine Nat.succ_le_succ (v.r3 (j - 1) k (by (first | lia | omega)) (by (first | lia | omega)) (by (first | lia | omega)) fun t ht => ?_)
      have := h4 (t + 1) (by (first | lia | omega))
      have e1 : j - ((t + 1 : Nat) : Int) = j - 1 - t := by (first | lia | omega)
      have e2 : alo + ((n + 1 : Nat) : Int) - 1 - ((t + 1 : Nat) : Int) = alo + n - 1 - t := by (first | lia | omega)
      rw [e1, e2] at this; exact this
  have last : ∀ i j : Int, ∀ k : Nat, 0 < k → alo ≤ i → i + k = alo + n + 1 → blo ≤ j → j + k ≤ bhi → (∀ t : Nat, t < k → (j + t) ∈ js (i + t)) → (j + k - 1) ∈ js (alo + n) ∧ k ≤ st'.row (j + k - 1) := fun i j k hk h1 h2 h3 h4 h5 => by
    constructor
    · have := h5 (k - 1) (by (first | lia | omega))
      rwa [show j + ((k - 1 : Nat) : Int) = j + k - 1 by (first | lia | omega), show i + ((k - 1 : Nat) : Int) = alo + n by (first | lia | omega)] at this
    · refine r3' _ k (by (first | lia | omega)) (by (first | lia | omega)) (by (first | lia | omega)) fun t ht => ?_
      have := h5 (k - 1 - t) (by (first | lia | omega))
      rwa [show j + ((k - 1 - t : Nat) : Int) = j + k - 1 - t by (first | lia | omega), show i + ((k - 1 - t : Nat) : Int) = alo + ((n + 1 : Nat) : Int) - 1 - t by (first | lia | omega)] at this
  refine ⟨r1', r2', r3', fun h => ?_, fun h => ?_, fun i j k h1 h2 h3 h4 h5 => ?_, fun h i j h1 h2 h3 h4 h5 => ?_⟩
  · have := g.le
    rcases g.best with ⟨a, b, c⟩ | ⟨q, hq, a, b, c, d, _⟩
    · rw [a, b]; exact v.b0 (by (first | lia | omega))
    · (first | lia | omega)
  · rcases g.best with ⟨a, b, c⟩ | ⟨q, hq, a, b, c, d, e1, e2, e3⟩
    · have := v.b1 (by (first | lia | omega))
      rw [a, b, c]
      exact ⟨this.1, by (first | lia | omega), this.2.2.1, this.2.2.2.1, this.2.2.2.2⟩
    · have e := rowat q hq a b
      rcases r1' q with z | ⟨_, _, z1, z2⟩
      · (first | lia | omega)
      · refine ⟨by (first | lia | omega), by (first | lia | omega), by (first | lia | omega), by (first | lia | omega), fun t ht => ?_⟩
        have := r2' q (st'.bs - 1 - t) (by (first | lia | omega))
        rwa [show q - ((st'.bs - 1 - t : Nat) : Int) = st'.bj + t by (first | lia | omega), show alo + ((n + 1 : Nat) : Int) - 1 - ((st'.bs - 1 - t : Nat) : Int) = st'.bi + t by (first | lia | omega)] at this
  · by_cases hk : k = 0
    · (first | lia | omega)
    · by_cases c : i + k ≤ alo + n
      · exact Nat.le_trans (v.b2 i j k h1 c h3 h4 h5) g.le
      · have := last i j k (by (first | lia | omega)) h1 (by (first | lia | omega)) h3 h4 h5
        have r := rowat _ this.1 (by (first | lia | omega)) (by (first | lia | omega))
        have := g.ge _ this.1 (by (first | lia | omega)) (by (first | lia | omega))
        (first | lia | omega)
  · rcases g.best with ⟨a, b, c⟩ | ⟨q, hq, a, b, c, d, e1, e2, e3⟩
    · by_cases c2 : i + st'.bs ≤ alo + n
      · rw [a, b]; rw [c] at h h2 h4 h5 c2; exact v.b3 h i j h1 c2 h3 h4 h5
      · have := v.b1 (by (first | lia | omega))
        left; (first | lia | omega)
    · by_cases c2 : i + st'.bs ≤ alo + n
      · have := v.b2 i j _ h1 c2 h3 h4 h5
        (first | lia | omega)
      · obtain ⟨l1, l2⟩ := last i j _ h h1 (by (first | lia | omega)) h3 h4 h5
        have r := rowat _ l1 (by (first | lia | omega)) (by (first | lia | omega))
        have := g.ge _ l1 (by (first | lia | omega)) (by (first | lia | omega))
        have := e3 _ l1 (by (first | lia | omega)) (by (first | lia | omega)) (by (first | lia | omega))
        right; (first | lia | omega)
theorem Inv.all (alo blo bhi : Int) (js : Int → List Int) (hp : ∀ i, (js i).Pairwise (· < ·)) : ∀ n, Inv alo blo bhi js n (allSt alo blo bhi js n)
  | 0 => Inv.start alo blo bhi js
  | n + 1 => (Inv.all alo blo bhi js hp n).step (Good.row_ (hp _))
end Mine
end
section
set_option linter.unusedVariables false
namespace Mine
section
variable {κ : Type} [DecidableEq κ]
noncomputable def same (P : κ → Bool) (x y : Option κ) : Bool := match x, y with
  | some a, some b => P b && decide (a = b)
  | _, _ => false
noncomputable def backK (P : κ → Bool) (xs ys : List κ) (alo blo : Nat) : Nat → Nat → Nat → Nat × Nat × Nat
  | 0, j, k => (0, j, k)
  | i + 1, j, k => if alo < i + 1 ∧ blo < j ∧ same P xs[i]? ys[j - 1]? = true then backK P xs ys alo blo i (j - 1) (k + 1) else (i + 1, j, k)
noncomputable def fwdK (P : κ → Bool) (xs ys : List κ) (i j ahi bhi : Nat) : Nat → Nat → Nat
  | 0, k => k
  | n + 1, k => if i + k < ahi ∧ j + k < bhi ∧ same P xs[i + k]? ys[j + k]? = true then fwdK P xs ys i j ahi bhi n (k + 1) else k
noncomputable def flmX (S : κ → Bool) (xs ys : List κ) (alo ahi blo bhi : Nat) (i j k : Nat) : Nat × Nat × Nat :=
  let a := backK (fun c => !S c) xs ys alo blo i j k
  let k₁ := fwdK (fun c => !S c) xs ys a.1 a.2.1 ahi bhi (ahi - (a.1 + a.2.2)) a.2.2
  let b := backK S xs ys alo blo a.1 a.2.1 k₁
  (b.1, b.2.1, fwdK S xs ys b.1 b.2.1 ahi bhi (ahi - (b.1 + b.2.2)) b.2.2)
theorem back_inv (P : κ → Bool) (xs ys : List κ) (alo blo : Nat) : ∀ i j k, alo ≤ i → blo ≤ j → let a := backK P xs ys alo blo i j k; alo ≤ a.1 ∧ a.1 ≤ i ∧ blo ≤ a.2.1 ∧ a.2.1 ≤ j ∧ a.1 + a.2.2 = i + k ∧ a.2.1 + a.2.2 = j + k ∧ k ≤ a.2.2 ∧ ∀ t, a.1 ≤ t → t < i → same P xs[t]? ys[a.2.1 + (t - a.1)]? = true
  | 0, j, k, h1, h2 => ⟨h1, Nat.le_refl _, h2, Nat.le_refl _, rfl, rfl, Nat.le_refl _, fun t _ h => absurd h (Nat.not_lt_zero _)⟩
  | i + 1, j, k, h1, h2 => by
    dsimp only
    unfold backK
    by_cases c : alo < i + 1 ∧ blo < j ∧ same P xs[i]? ys[j - 1]? = true
    · rw [if_pos c]
      obtain ⟨a1, a2, a3, a4, a5, a6, a7, a8⟩ := back_inv P xs ys alo blo i (j - 1) (k + 1) (by (first | lia | omega)) (by (first | lia | omega))
      refine ⟨a1, by (first | lia | omega), a3, by (first | lia | omega), by (first | lia | omega), by (first | lia | omega), by (first | lia | omega), fun t h3 h4 => ?_⟩
      by_cases e : t = i
      · subst e
        rw [show (backK P xs ys alo blo t (j - 1) (k + 1)).2.1 + (t - (backK P xs ys alo blo t (j - 1) (k + 1)).1) = j - 1 by (first | lia | omega)]
        exact c.2.2
      · exact a8 t h3 (by (first | lia | omega))
    · rw [if_neg c]
      exact ⟨h1, Nat.le_refl _, h2, Nat.le_refl _, rfl, rfl, Nat.le_refl _, fun t h3 h4 => absurd h4 (by (first | lia | omega))⟩
theorem back_stop {P : κ → Bool} {xs ys : List κ} {alo blo i j k : Nat} (h : alo < i → blo < j → same P xs[i - 1]? ys[j - 1]? = false) : backK P xs ys alo blo i j k = (i, j, k) := by
  cases i with
  | zero => rfl
  | succ i =>
    unfold backK
    rw [if_neg fun c => ?_]
    have := h c.1 c.2.1
    rw [show i + 1 - 1 = i by (first | lia | omega)] at this
    rw [this] at c; cases c.2.2
theorem fwd_stop {P : κ → Bool} {xs ys : List κ} {i j ahi bhi n k : Nat} (h : i + k < ahi → j + k < bhi → same P xs[i + k]? ys[j + k]? = false) : fwdK P xs ys i j ahi bhi n k = k := by
  cases n with
  | zero => rfl
  | succ n =>
    unfold fwdK
    rw [if_neg fun c => ?_]
    have := h c.1 c.2.1
    rw [this] at c; cases c.2.2
theorem same_none (x y : Option κ) : same (fun _ => false) x y = false := by
  unfold same; split <;> simp
end
end Mine
end
section
set_option linter.unusedVariables false
namespace Mine
section
variable {κ : Type} [DecidableEq κ]
noncomputable def idxAdd (l : List (κ × List Int)) (k : κ) (i : Int) : List (κ × List Int) := if k ∈ l.map (·.1) then l.map (fun e => if e.1 = k then (e.1, e.2 ++ [i]) else e) else l ++ [(k, [i])]
noncomputable def idxN (ks : List κ) : Nat → List (κ × List Int)
  | 0 => []
  | n + 1 => match ks[n]? with
    | some k => idxAdd (idxN ks n) k n
    | none => idxN ks n
noncomputable def idxAt (l : List (κ × List Int)) (k : κ) : List Int := ((l.find? fun e => e.1 = k).map (·.2)).getD []
theorem idxAdd_keys (l : List (κ × List Int)) (k : κ) (i : Int) : (idxAdd l k i).map (·.1) = if k ∈ l.map (·.1) then l.map (·.1) else l.map (·.1) ++ [k] := by
  unfold idxAdd
  split
  · rw [List.map_map]
    refine List.map_congr_left fun e _ => ?_
    simp only [Function.comp]
    split <;> rfl
  · simp
theorem idxAdd_nodup {l : List (κ × List Int)} {k : κ} {i : Int} (h : (l.map (·.1)).Nodup) : ((idxAdd l k i).map (·.1)).Nodup := by
  rw [idxAdd_keys]
  split
  · exact h
  · rename_i q
    exact List.nodup_append.mpr ⟨h, by simp, fun a ha b hb e => q (by simp at hb; rw [← hb, ← e]; exact ha)⟩
theorem find_map_upd {l : List (κ × List Int)} {k c : κ} {f : κ × List Int → κ × List Int} (hf : ∀ e, (f e).1 = e.1) : ((l.map f).find? fun e => e.1 = c) = (l.find? fun e => e.1 = c).map f := by
  rw [List.find?_map]
  congr 2
  funext e
  simp [hf]
theorem idxAdd_at {l : List (κ × List Int)} {k c : κ} {i : Int} : idxAt (idxAdd l k i) c = if c = k then idxAt l c ++ [i] else idxAt l c := by
  unfold idxAdd idxAt
  by_cases q : k ∈ l.map (·.1)
  · rw [if_pos q, find_map_upd (k := k) (fun e => by split <;> rfl)]
    obtain ⟨e, he, hk⟩ := List.mem_map.mp q
    cases hf : l.find? (fun e => decide (e.1 = c)) with
    | none =>
      simp only [Option.map_none, Option.getD_none]
      by_cases hc : c = k
      · subst hc
        have := List.find?_eq_none.mp hf e he
        simp [hk] at this
      · rw [if_neg hc]
    | some e' =>
      have hc' : e'.1 = c := by simpa using List.find?_some hf
      simp only [Option.map_some, Option.getD_some]
      by_cases hc : c = k
      · rw [if_pos hc, if_pos (by rw [hc', hc])]
      · rw [if_neg hc, if_neg (by rw [hc']; exact hc)]
  · rw [if_neg q, List.find?_append]
    cases hf : l.find? (fun e => decide (e.1 = c)) with
    | none =>
      simp only [Option.map_none, Option.getD_none, Option.none_or, List.find?_cons, List.find?_nil, List.nil_append]
      by_cases hc : c = k
      · subst hc; simp
      · rw [if_neg hc]
        simp [show (k = c) = False from by simpa using fun e => hc e.symm]
    | some e' =>
      have hc' : e'.1 = c := by simpa using List.find?_some hf
      have hm : e' ∈ l := List.mem_of_find?_eq_some hf
      simp only [Option.map_some, Option.getD_some, Option.some_or]
      rw [if_neg]
      intro hc
      exact q (List.mem_map.mpr ⟨e', hm, by rw [hc', hc]⟩)
theorem idxN_nodup (ks : List κ) : ∀ n, ((idxN ks n).map (·.1)).Nodup
  | 0 => by simp [idxN]
  | n + 1 => by
    unfold idxN
    split
    · exact idxAdd_nodup (idxN_nodup ks n)
    · exact idxN_nodup ks n
noncomputable def jsK (ks : List κ) (c : κ) : List Int := ((List.range ks.length).filter fun n => ks[n]? = some c).map fun n : Nat => (n : Int)
theorem idxN_at (ks : List κ) (c : κ) : ∀ n, n ≤ ks.length → idxAt (idxN ks n) c = ((List.range n).filter fun n => ks[n]? = some c).map fun n : Nat => (n : Int)
  | 0, _ => rfl
  | n + 1, h => by
    have ih := idxN_at ks c n (by (first | lia | omega))
    have hk : ks[n]? = some ks[n] := List.getElem?_eq_getElem h
    unfold idxN
    rw [hk]
    dsimp only
    rw [idxAdd_at, ih, List.range_succ, List.filter_append, List.map_append]
    by_cases q : c = ks[n]
    · rw [if_pos q]
      congr 1
      rw [List.filter_cons_of_pos (by simp [q])]
      rfl
    · rw [if_neg q, List.filter_cons_of_neg (by rw [hk]; simpa using fun e => q e.symm)]
      simp
theorem idxN_all (ks : List κ) (c : κ) : idxAt (idxN ks ks.length) c = jsK ks c := idxN_at ks c _ (Nat.le_refl _)
theorem idxN_len (ks : List κ) : ∀ n, (idxN ks n).length ≤ n
  | 0 => Nat.le_refl _
  | n + 1 => by
    have ih := idxN_len ks n
    unfold idxN
    split
    · unfold idxAdd
      split
      · rw [List.length_map]; (first | lia | omega)
      · rw [List.length_append]; simp; (first | lia | omega)
    · (first | lia | omega)
theorem mem_jsK {ks : List κ} {c : κ} {j : Int} : j ∈ jsK ks c ↔ ∃ n : Nat, j = n ∧ ks[n]? = some c := by
  unfold jsK
  constructor
  · intro h
    obtain ⟨n, h1, h2⟩ := List.mem_map.mp h
    obtain ⟨h3, h4⟩ := List.mem_filter.mp h1
    exact ⟨n, h2.symm, by simpa using h4⟩
  · rintro ⟨n, rfl, h⟩
    refine List.mem_map.mpr ⟨n, List.mem_filter.mpr ⟨List.mem_range.mpr ?_, by simpa using h⟩, rfl⟩
    rcases Nat.lt_or_ge n ks.length with q | q
    · exact q
    · rw [List.getElem?_eq_none q] at h; cases h
theorem jsK_len (ks : List κ) (c : κ) : (jsK ks c).length ≤ ks.length := by
  unfold jsK
  rw [List.length_map]
  exact Nat.le_trans (List.length_filter_le _ _) (by simp)
theorem jsK_asc (ks : List κ) (c : κ) : (jsK ks c).Pairwise (· < ·) := by
  unfold jsK
  rw [List.pairwise_map]
  refine List.Pairwise.filter _ ?_
  exact List.pairwise_lt_range.imp fun h => by (first | lia | omega)
end
end Mine
end
section
open PySem PySem.W PyProof.Rows PySem.Calls PySem.SeqAt
set_option Elab.async false
set_option linter.unusedVariables false
namespace Mine
noncomputable def ODic {prog : Program} {w : World} {κ : Type} [DecidableEq κ] (knd : PySem.KeyKind prog w κ) (kvs : List (κ × Value)) : Heap → Obj → Prop := fun _ o => Dic knd kvs o
theorem ODic.mono {prog : Program} {w : World} {κ : Type} [DecidableEq κ] {knd : PySem.KeyKind prog w κ} {kvs : List (κ × Value)} : Mono (ODic knd kvs) := fun _ _ _ _ h => h
theorem ODic.empty {prog : Program} {w : World} {κ : Type} [DecidableEq κ] {knd : PySem.KeyKind prog w κ} (g : Heap) : ODic knd [] g { cls := .type "dict", data := .dict #[] } := ⟨#[], 0, ⟨rfl, rfl, rfl⟩, rfl, fun e he => by simp at he, .nil, List.nodup_nil⟩
structure Ent (κ : Type) where
  k : κ
  a : Addr
  js : List Int
section
variable {κ : Type} [DecidableEq κ]
noncomputable abbrev entD (z : List (Ent κ)) : List (κ × Value) := z.map fun e => (e.k, .ref e.a)
noncomputable abbrev entO (z : List (Ent κ)) : DOwn := z.map fun e => (e.a, OLst (dInts e.js))
noncomputable abbrev entP (z : List (Ent κ)) : List (κ × List Int) := z.map fun e => (e.k, e.js)
noncomputable abbrev entUp (z : List (Ent κ)) (k : κ) (i : Int) : List (Ent κ) := z.map fun e => if e.k = k then { e with js := e.js ++ [i] } else e
theorem entUp_no {z : List (Ent κ)} {k : κ} {i : Int} (h : k ∉ z.map (·.k)) : entUp z k i = z := by
  induction z with
  | nil => rfl
  | cons e z ih =>
    simp only [List.map_cons, List.mem_cons, not_or] at h
    unfold entUp
    rw [List.map_cons, if_neg (fun q => h.1 q.symm)]
    exact congrArg _ (ih h.2)
theorem entUp_put {tail : DOwn} {i : Int} : ∀ {z : List (Ent κ)}, (z.map (·.k)).Nodup → ∀ e ∈ z, DPut e.a (OLst (dInts e.js ++ [.int i])) (entO z ++ tail) (entO (entUp z e.k i) ++ tail)
  | [], _, e, he => by cases he
  | e0 :: z, hn, e, he => by
    obtain ⟨h1, h2⟩ := List.nodup_cons.mp (by simpa only [List.map_cons] using hn)
    unfold entUp entO
    by_cases q : e0.k = e.k
    · have : e = e0 := by
        rcases List.mem_cons.mp he with rfl | he
        · rfl
        · exact absurd (q ▸ List.mem_map_of_mem he) h1
      subst this
      have hz : (z.map fun x => if x.k = e.k then { x with js := x.js ++ [i] } else x) = z := entUp_no h1
      simp only [List.map_cons, if_true, hz, List.cons_append]
      have e2 : OLst (dInts (e.js ++ [i])) = OLst (dInts e.js ++ [.int i]) := by simp [dInts]
      rw [e2]
      exact .here
    · simp only [List.map_cons, if_neg q, List.cons_append]
      refine .there ?_
      rcases List.mem_cons.mp he with rfl | he
      · exact absurd rfl q
      · exact entUp_put h2 e he
theorem entP_up {z : List (Ent κ)} {k : κ} {i : Int} (h : k ∈ z.map (·.k)) : entP (entUp z k i) = idxAdd (entP z) k i := by
  unfold idxAdd
  rw [if_pos (by rw [List.map_map]; exact h)]
  unfold entP entUp
  rw [List.map_map, List.map_map]
  refine List.map_congr_left fun e _ => ?_
  simp only [Function.comp]
  by_cases q : e.k = k
  · rw [if_pos q, if_pos q]
  · rw [if_neg q, if_neg q]
theorem entP_new {z : List (Ent κ)} {k : κ} {i : Int} {a : Addr} (h : k ∉ z.map (·.k)) : entP (entUp (z ++ [⟨k, a, []⟩]) k i) = idxAdd (entP z) k i := by
  unfold idxAdd
  rw [if_neg (by rw [List.map_map]; exact h)]
  have : entUp (z ++ [⟨k, a, []⟩]) k i = z ++ [⟨k, a, [i]⟩] := by
    have q := entUp_no (z := z) (i := i) h
    unfold entUp at q ⊢
    rw [List.map_append, q]
    simp
  rw [this]
  simp
theorem entD_up {z : List (Ent κ)} {k : κ} {i : Int} : entD (entUp z k i) = entD z := by
  unfold entD entUp
  rw [List.map_map]
  refine List.map_congr_left fun e _ => ?_
  simp only [Function.comp]
  split <;> rfl
end
section
variable {C : Cc} {vars vars' vars'' : DVars} {own own' own'' : DOwn} {Q : Flow → Shared → Prop} {d d₁ d₂ : D} {ds : List D} {rest : List Stmt} {e l r : Expr} {pos p' : Pos} {x : PySem.Str} {cs : List Nat} {g g' : Heap} {s s' : Shared}
variable {κ : Type} [DecidableEq κ] {knd : PySem.KeyKind C.prog C.w κ}
theorem At2.ne_sys {a : Addr} {P : Heap → Obj → Prop} (hs : At2 C vars own g s) (hm : (a, P) ∈ own) (hsys : C.K.lookup sysModules ≠ none) : (a == sysModules) = false := by
  cases q : C.K.lookup sysModules with
  | none => exact absurd q hsys
  | some o' =>
    have := hs.cx.X _ _ q
    cases b : a == sysModules with
    | false => rfl
    | true =>
      have b' : a = sysModules := by simpa using b
      have h0' := (hs.news _ hm).2.2.2
      have h3 := hs.gr.ext _ _ this
      rw [b'] at h0'
      exact (live_ne h0' h3).elim
theorem EvW.perm {σ : Type} {o₁ o₂ : σ → DOwn} {dd : σ → D} (h : EvW C vars own e o₁ dd) (hp : ∀ z, (o₁ z).Perm (o₂ z)) : EvW C vars own e o₂ dd := fun g s hs =>
  wmono (h g s hs) fun v s' ⟨z, g', x, a, r⟩ => ⟨z, g', x, a.permO (hp z), r⟩
theorem EvW.setdef {bd : Addr} {z : List (Ent κ)} {tail : DOwn} {k : κ} {dk : D} {o e1 : Expr} {lp apos : Pos} (m : MethOk C "dict" "dict.setdefault" "setdefault" o [e1, .List [] lp] apos pos) (ho : Ev C vars ((bd, ODic knd (entD z)) :: (entO z ++ tail)) o (.raw (.ref bd)))
    (h1 : Ev C vars ((bd, ODic knd (entD z)) :: (entO z ++ tail)) e1 dk) (hk : ∀ g v, Rep g v dk → knd.is k v = true) (hsys : C.K.lookup sysModules ≠ none) (hz : z.length ≤ 1000000)
    (c4 : backTo pos (starEach [e1, .List [] lp] C.env) = [(false, eval e1 C.env), (false, eval (.List [] lp) C.env)]) :
    EvW C vars ((bd, ODic knd (entD z)) :: (entO z ++ tail)) (.Call (.Attribute o "setdefault" apos) [e1, .List [] lp] [] pos) (fun y : { y : List (Ent κ) × Addr // ((∃ e ∈ z, e.k = k ∧ e.a = y.2) ∧ y.1 = z) ∨ (k ∉ z.map (·.k) ∧ y.1 = z ++ [⟨k, y.2, []⟩]) } => (bd, ODic knd (entD y.1.1)) :: (entO y.1.1 ++ tail)) (fun y => .raw (.ref y.1.2)) := fun g s hs => by
  refine wpAny_Call_method m.c1 m.c2 m.c3 m.pa m.slot m.hty (ho.run hs fun ov g₁ s₁ x₁ a₁ r₁ => ?_)
  first | cases r₁ using Reps.eNil | cases r₁ using Rep.eInt | cases r₁ using Rep.eRaw | cases r₁ using Rep.eNone | cases r₁ using Rep.eStr | cases r₁ using Rep.eBool | cases r₁
  have hd₁ : s₁.heap.DictOf knd bd (entD z) := Dic.to (a₁.news _ (.head _)).1
  refine ⟨hd₁.typeIs, hd₁.mapOf.noDict, ?_⟩
  rw [c4]
  refine method2_meetsIn F.slot_dict_setdefault F.entry_dict_setdefault (h1.run a₁ fun v₂ g₂ s₂ x₂ a₂ r₂ => wmono (EvW.list0 (P := OLst (dInts [])) (fun g => ⟨0, [], rfl, .nil⟩) OLst.mono g₂ s₂ a₂) fun v₃ s₃ ⟨b, g₃, x₃, a₃, r₃⟩ => ?_)
  first | cases r₃ using Reps.eNil | cases r₃ using Rep.eInt | cases r₃ using Rep.eRaw | cases r₃ using Rep.eNone | cases r₃ using Rep.eStr | cases r₃ using Rep.eBool | cases r₃
  have hd₃ : s₃.heap.DictOf knd bd (entD z) := Dic.to (a₃.news _ (.tail _ (.head _))).1
  have hsy : (bd == sysModules) = false := a₃.ne_sys (.tail _ (.head _)) hsys
  refine ⟨hd₃.typeIs, F.args_dict_setdefault_3 _ _ _, _, kt_meets_setdefault knd bd (hk _ _ r₂) hsy (.ref b), entD z, hd₃, by rw [List.length_map]; exact Nat.le_trans hz (by decide), fun v hv => ?_, fun hv h' hd' sb => ?_⟩
  · unfold valueAt at hv
    rw [Option.map_eq_some_iff] at hv
    obtain ⟨kv, hf, rfl⟩ := hv
    obtain ⟨e0, he0, rfl⟩ := List.mem_map.mp (List.mem_of_find?_eq_some hf)
    have hke : e0.k = k := by simpa using List.find?_some hf
    refine ⟨⟨(z, e0.a), .inl ⟨⟨e0, he0, hke, rfl⟩, rfl⟩⟩, g₃, Ext.trans x₁.ext (Ext.trans x₂.ext x₃), ?_, .raw _⟩
    exact (a₃.grow (Gr.tok a₃.sub (s₃.toks + 1))).drop
  · have hno : k ∉ z.map (·.k) := fun hm => by
      obtain ⟨e0, he0, hke⟩ := List.mem_map.mp hm
      unfold valueAt at hv
      rw [Option.map_eq_none_iff, List.find?_eq_none] at hv
      have := hv _ (List.mem_map_of_mem (f := fun e : Ent κ => (e.k, Value.ref e.a)) he0)
      simp [hke] at this
    have hst : stored (entD z) k (.ref b) = entD (z ++ [⟨k, b, []⟩]) := by
      unfold stored
      rw [if_neg]
      · simp
      · rw [List.any_eq_true]
        rintro ⟨kv, hkv, he⟩
        obtain ⟨e0, he0, rfl⟩ := List.mem_map.mp hkv
        exact hno (List.mem_map.mpr ⟨e0, he0, of_decide_eq_true he⟩)
    rw [hst] at hd'
    refine ⟨⟨(z ++ [⟨k, b, []⟩], b), .inr ⟨hno, rfl⟩⟩, g₃, Ext.trans x₁.ext (Ext.trans x₂.ext x₃), ?_, .raw _⟩
    have a₄ := a₃.put (h' := h') (t := s₃.toks + 1) (P' := ODic knd (entD (z ++ [⟨k, b, []⟩]))) (.there .here) (fun c o hc e => (sb.2 c hc).trans e) (Dic.of hd') ODic.mono
    refine a₄.permO ?_
    refine (List.Perm.swap _ _ _).trans (.cons _ ?_)
    show List.Perm ((b, OLst (dInts [])) :: (entO z ++ tail)) (entO (z ++ [⟨k, b, []⟩]) ++ tail)
    have e2 : entO (z ++ [⟨k, b, []⟩]) ++ tail = entO z ++ (b, OLst (dInts [])) :: tail := by simp [entO]
    rw [e2]
    exact List.perm_middle.symm
end
end Mine
end
section
open PySem PySem.W PyProof.Rows PySem.Calls PySem.SeqAt
set_option Elab.async false
set_option linter.unusedVariables false
namespace Mine
noncomputable def fput (name : PySem.Str) (d : D) : Fs → Fs
  | [] => [(name, d)]
  | p :: r => if p.1 == name then (name, d) :: r else p :: fput name d r
theorem fput_names {name : PySem.Str} {d : D} : ∀ {fs : Fs}, (fput name d fs).map (·.1) = if name ∈ fs.map (·.1) then fs.map (·.1) else fs.map (·.1) ++ [name]
  | [] => by simp [fput]
  | p :: r => by
    unfold fput
    by_cases q : (p.1 == name) = true
    · have q' : p.1 = name := by simpa using q
      rw [if_pos q]
      simp [q']
    · have q' : ¬ p.1 = name := by simpa using q
      rw [if_neg q, List.map_cons, fput_names (fs := r), List.map_cons]
      by_cases h : name ∈ r.map (·.1)
      · rw [if_pos h, if_pos (.tail _ h)]
      · rw [if_neg h, if_neg (by simp only [List.mem_cons, not_or]; exact ⟨fun e => q' e.symm, h⟩)]; rfl
theorem fput_nodup {name : PySem.Str} {d : D} {fs : Fs} (h : (fs.map (·.1)).Nodup) : ((fput name d fs).map (·.1)).Nodup := by
  rw [fput_names]
  split
  · exact h
  · rename_i q
    exact List.nodup_append.mpr ⟨h, by simp, fun a ha b hb e => q (by simp at hb; rw [← hb, ← e]; exact ha)⟩
theorem fput_ok {name : PySem.Str} {d : D} : ∀ {fs : Fs}, (fs.map (·.1)).Nodup → FPut name d fs (fput name d fs)
  | [], _ => .nil
  | (x, e) :: r, h => by
    obtain ⟨h1, h2⟩ := List.nodup_cons.mp (by simpa only [List.map_cons] using h)
    unfold fput
    by_cases q : (x == name) = true
    · have q' : x = name := by simpa using q
      rw [if_pos q]
      subst q'
      exact .here (by simp) (by simpa using h1)
    · rw [if_neg q]
      exact .there (by simpa using q) (fput_ok h2)
theorem fput_keep {name : PySem.Str} {d : D} {p : PySem.Str × D} : ∀ {fs : Fs}, p ∈ fs → (p.1 == name) = false → p ∈ fput name d fs
  | q :: r, h, hn => by
    unfold fput
    rcases List.mem_cons.mp h with rfl | h
    · rw [if_neg (by simp [hn])]; exact .head _
    · split
      · exact .tail _ h
      · exact .tail _ (fput_keep h hn)
theorem fput_len {name : PySem.Str} {d : D} : ∀ {fs : Fs}, (fput name d fs).length ≤ fs.length + 1
  | [] => Nat.le_refl _
  | p :: r => by
    unfold fput
    split
    · simp
    · simp only [List.length_cons]; exact Nat.succ_le_succ fput_len
inductive FTell (g : Heap) : Fs → Fs → Prop
  | nil : FTell g [] []
  | cons {x d d' r r'} : (∀ v, Rep g v d → Rep g v d') → FTell g r r' → FTell g ((x, d) :: r) ((x, d') :: r')
theorem FTell.rfl_ {g : Heap} : ∀ {fs : Fs}, FTell g fs fs
  | [] => .nil
  | (_, _) :: _ => .cons (fun _ h => h) FTell.rfl_
theorem FTell.fput {g : Heap} {name : PySem.Str} {d d' : D} {fs fs' : Fs} (h : FTell g fs fs') (hd : ∀ v, Rep g v d → Rep g v d') : FTell g (fput name d fs) (fput name d' fs') := by
  induction h with
  | nil => exact .cons hd .nil
  | @cons x e e' r r' he _ ih =>
    unfold Mine.fput
    by_cases q : (x == name) = true
    · rw [if_pos q, if_pos q]; exact .cons hd (by assumption)
    · rw [if_neg q, if_neg q]; exact .cons he ih
theorem FTell.names {g : Heap} {fs fs' : Fs} (h : FTell g fs fs') : fs'.map (·.1) = fs.map (·.1) := by
  induction h with
  | nil => rfl
  | cons _ _ ih => rw [List.map_cons, List.map_cons, ih]
theorem FTell.back {g : Heap} {fs fs' : Fs} (h : FTell g fs fs') : ∀ p ∈ fs', ∃ d, (p.1, d) ∈ fs ∧ ∀ v, Rep g v d → Rep g v p.2 := by
  induction h with
  | nil => intro p hp; cases hp
  | cons hd _ ih =>
    intro p hp
    rcases List.mem_cons.mp hp with rfl | hp
    · exact ⟨_, .head _, hd⟩
    · obtain ⟨d, a, b⟩ := ih p hp; exact ⟨d, .tail _ a, b⟩
theorem OInst.tell {fs fs' : Fs} {g : Heap} {o : Obj} (h : OInst fs g o) (t : FTell g fs fs') : OInst fs' g o := by
  obtain ⟨es, n, e, h0, h1, h2⟩ := h
  refine ⟨es, n, e, ?_, fun e he => ?_, fun p hp => ?_⟩
  · have := congrArg List.length t.names
    simp only [List.length_map] at this
    (first | lia | omega)
  · obtain ⟨y, tk, a, b⟩ := h1 e he
    exact ⟨y, tk, a, by rw [t.names]; exact b⟩
  · obtain ⟨d, a, b⟩ := t.back p hp
    obtain ⟨v, x, y, z⟩ := h2 _ a
    exact ⟨v, x, y, b _ z⟩
noncomputable def OSet {prog : Program} {w : World} {κ : Type} [DecidableEq κ] (knd : PySem.KeyKind prog w κ) (S : κ → Bool) (n : Nat) : Heap → Obj → Prop := fun _ o => o.SetObjOf knd S n
theorem OSet.mono {prog : Program} {w : World} {κ : Type} [DecidableEq κ] {knd : PySem.KeyKind prog w κ} {S : κ → Bool} {n : Nat} : Mono (OSet knd S n) := fun _ _ _ _ h => h
section
variable {C : Cc} {vars vars' vars'' : DVars} {own own' own'' : DOwn} {Q : Flow → Shared → Prop} {d d₁ d₂ : D} {ds : List D} {rest : List Stmt} {e l r : Expr} {pos p' : Pos} {x : PySem.Str} {cs : List Nat} {g g' : Heap} {s s' : Shared}
variable {κ : Type} [DecidableEq κ] {knd : PySem.KeyKind C.prog C.w κ}
theorem At2.tellG {a : Addr} {P P' : Heap → Obj → Prop} (hs : At2 C vars own g s) (hm : (a, P) ∈ own) (u : DPut a P' own own') (h : ∀ o, P g o → P' g o) (hM : Mono P') : At2 C vars own' g s := by
  obtain ⟨⟨o, e, q⟩, _⟩ := hs.news _ hm
  exact hs.put (h' := s.heap) (t := s.toks) u (fun b o _ e => e) ⟨o, e, h _ q⟩ hM
theorem EvW.set0 {id : PySem.Str} {P : Heap → Obj → Prop} (R : RunC C) (hf : Callee C vars own (.Name id p') (.type "set")) (hP : ∀ g, P g (emptySet C.w)) (hm : Mono P) : EvW C vars own (.Call (.Name id p') [] [] pos) (fun a => (a, P) :: own) (fun a => .raw (.ref a)) := fun g s hs => by
  refine wpAny_Call_Name_kw (wmono (hf.load g s hs) fun v s₁ h₁ => ?_)
  obtain ⟨rfl, rfl⟩ := h₁
  refine callWith_of (P := fun h => Kp (model C.prog C.w) h (.type "set")) rfl (fun _ x => x) (evalArgs_nil3 ⟨hf.kp _ _ hs, ?_⟩)
  have X := (hs.cxg.ext hs.sub).X
  rw [R.K] at X
  have hg := set_new (w := C.w) (s := s₁) X
  rw [← R.prog] at hg
  refine up (wmono hg fun r s' hq => ?_) R.room.handled (by have := R.room.depth; (first | lia | omega)) (by have := R.room.units; (first | lia | omega))
  obtain ⟨kp, m, rfl, n1, n2⟩ := hq
  exact ⟨m, g, fun _ _ e => e, hs.newOwn kp n1 n2 (hP g) hm, .raw _⟩
theorem OSet.fresh (g : Heap) : OSet knd (fun _ => false) 0 g (emptySet C.w) := setObjOf_fresh _
theorem At2.freezeIdx {bd : Addr} {z : List (Ent κ)} {js : κ → List Int} (hs : At2 C vars ((bd, ODic knd (entD z)) :: (entO z ++ own)) g s) (hsys : C.K.lookup sysModules ≠ none) (hj : ∀ k, idxAt (entP z) k = js k) (hz : (z.map (·.k)).Nodup) :
    ∃ g', Ext g g' ∧ At2 C vars own g' s ∧ Rep g' (.ref bd) (.sp (IsIdx knd js)) := by
  have hsy := hs.ne_sys (.head _) hsys
  obtain ⟨g', x, a, h⟩ := At2.freezeAll (L := (bd, ODic knd (entD z)) :: entO z) (by rw [List.cons_append]; exact hs)
  refine ⟨g', x, a, .sp ⟨bd, entD z, rfl, hsy, Dic.to (h _ (.head _)), fun k => ?_⟩ IsIdx.mono⟩
  have hj := hj k
  unfold idxAt at hj
  unfold valueAt
  have e1 : (entD z).find? (fun kv => decide (kv.1 = k)) = (z.find? fun e => decide (e.k = k)).map fun e => (e.k, Value.ref e.a) := by
    rw [List.find?_map]; rfl
  have e2 : (entP z).find? (fun kv => decide (kv.1 = k)) = (z.find? fun e => decide (e.k = k)).map fun e => (e.k, e.js) := by
    rw [List.find?_map]; rfl
  rw [e2] at hj
  rw [e1]
  cases q : z.find? (fun e => decide (e.k = k)) with
  | none =>
    rw [q] at hj
    exact .inl ⟨rfl, hj.symm⟩
  | some e0 =>
    rw [q] at hj
    obtain ⟨o, e, n, vs, rfl, r⟩ := h (e0.a, OLst (dInts e0.js)) (.tail _ (List.mem_map_of_mem (f := fun e : Ent κ => (e.a, OLst (dInts e.js))) (List.mem_of_find?_eq_some q)))
    refine .inr ⟨e0.a, vs, rfl, ⟨n, e⟩, ?_⟩
    have hj' : e0.js = js k := hj
    rw [← hj']; exact r
theorem At2.freezeSet {a : Addr} {S : κ → Bool} {n : Nat} (hs : At2 C vars ((a, OSet knd S n) :: own) g s) (hn : n < scanBound) : ∃ g', Ext g g' ∧ At2 C vars own g' s ∧ Rep g' (.ref a) (.sp (IsSetK knd S)) := by
  obtain ⟨g', x, h, o, e, q⟩ := hs.freezeP
  exact ⟨g', x, h, .sp ⟨a, n, rfl, q.setOf e hn⟩ IsSetK.mono⟩
end
end Mine
end
section
open PySem PySem.W PyProof.Rows PySem.Calls PySem.SeqAt
set_option Elab.async false
set_option linter.unusedVariables false
namespace Mine
section
variable {C : Cc} {vars vars' vars'' : DVars} {own own' own'' : DOwn} {Q : Flow → Shared → Prop} {d d₁ d₂ : D} {ds : List D} {rest : List Stmt} {e l r : Expr} {args : List Expr} {pos p' : Pos} {x : PySem.Str} {cs : List Nat} {g g' : Heap} {s s' : Shared} {fv : Value}
theorem x_forI {σ : Type} {target iter : Expr} {body : List Stmt} {I : Addr} {PI : Heap → Obj → Prop} {k0 : Nat} {dsA : List D} (hi : Ev C vars ((I, PI) :: own) iter (.raw (.ref I)))
    (hW : ∀ g s, At2 C vars ((I, PI) :: own) g s → ∃ l, Walks C.prog C.w C.A I [I, l] [I] ds.length (P := fun i v => ∀ d, ds[i]? = some d → Rep g v d) (fun i h => h.IsListIter I l (i + k0) ∧ ∃ vs, PlainLst h l vs ∧ vs.length = dsA.length ∧ Reps g vs dsA) ∧ s.heap.IsListIter I l (0 + k0) ∧ (∃ vs, PlainLst s.heap l vs ∧ vs.length = dsA.length ∧ Reps g vs dsA) ∧ ∃ o, g.get? l = some o)
    (vs : Nat → σ → DVars) (os : Nat → σ → DOwn) (F : Nat → σ → Prop) (z₀ : σ)
    (h0 : F 0 z₀) (hv : ∀ p ∈ vs 0 z₀, p ∈ vars) (ho : DW own (os 0 z₀))
    (turn : ∀ s₀ gb, Sub C { C with s₀ := s₀, gb := gb } → ∀ i z d, ds[i]? = some d → F i z → Turn1 { C with s₀ := s₀, gb := gb } (vs i z) (os i z) target d body (TurnD { C with s₀ := s₀, gb := gb } (vs (i + 1)) (os (i + 1)) (F (i + 1)) (ContC C rest Q)))
    (k : ∀ z, F ds.length z → Ex C (vs ds.length z) (os ds.length z) rest Q) (hf : ∀ x, foldedSetIterable iter C.env x = pure x) :
    Ex2 C vars ((I, PI) :: own) (.For target iter body [] pos) rest Q := fun g s hs => by
  refine wpAny_For (wpAny_mono (hi g s hs) (fun v s₁ h₁ => ?_) fun _ _ x => x.elim) hf
  obtain ⟨g₁, x₁, r₁⟩ := h₁
  first | cases r₁ using Reps.eNil | cases r₁ using Rep.eInt | cases r₁ using Rep.eRaw | cases r₁ using Rep.eNone | cases r₁ using Rep.eStr | cases r₁ using Rep.eBool | cases r₁
  have hs₁ := hs.grow x₁
  obtain ⟨l, W, hit, hlst, og, hog⟩ := hW g₁ s₁ hs₁
  refine W.self 0 s₁ _ _ ⟨hit, hlst⟩ ?_
  have hI := hs₁.news _ (.head _)
  have hd := hs₁.drop
  have hw := hd.weak ho
  have hs₂ : At2 C (vs 0 z₀) (os 0 z₀) g₁ s₁ := hw.forget hv
  have nd := List.nodup_cons.mp hs₁.nodup
  have Ino : I ∉ (os 0 z₀).map (·.1) := fun q => nd.1 (ho.names.subset q)
  have lno : l ≠ C.env.locals ∧ l ∉ (os 0 z₀).map (·.1) := by
    constructor
    · intro q; rw [q] at hog; exact live_ne hs₂.frn.2 hog
    · intro q
      obtain ⟨p, hp, e⟩ := List.mem_map.mp q
      have := (hs₂.news p hp).2.2.2
      rw [e] at this; exact live_ne this hog
  refine codeAny_forLoop_any (fun k s' => ∃ i z g', k = ds.length - i ∧ i ≤ ds.length ∧ F i z ∧ At2 C (vs i z) (os i z) g' s' ∧ Ext g₁ g' ∧ (s'.heap.IsListIter I l (i + k0) ∧ ∃ vs, PlainLst s'.heap l vs ∧ vs.length = dsA.length ∧ Reps g₁ vs dsA) ∧ (I ≠ C.env.locals ∧ I ∉ (os i z).map (·.1) ∧ l ≠ C.env.locals ∧ l ∉ (os i z).map (·.1)) ∧ g'.get? I = none) ?_ (ds.length - 0)
    ⟨0, z₀, g₁, rfl, Nat.zero_le _, h0, hs₂, fun _ _ e => e, ⟨hit, hlst⟩, ⟨hI.2.1, Ino, lno.1, lno.2⟩, hI.2.2.2⟩
  rintro k s' ⟨i, z, g', rfl, hi', hF, hs', he, hst, ⟨n1, n2, n3, n4⟩, hgI⟩
  have hwr' : ∀ b ∈ [I], C.s₀.heap.get? b = none ∧ g'.get? b = none ∧ b ≠ C.env.locals ∧ b ∉ (os i z).map (·.1) := fun b hb => by
    obtain rfl := List.mem_singleton.mp hb
    exact ⟨hI.2.2.1, hgI, n1, n2⟩
  by_cases hlt : i < ds.length
  · refine ff (W.item i s' _ Ff hlt hst fun v h' tk hv hst' hk' => ?_)
    have cls : ∃ o, h'.get? I = some o ∧ o.cls = .type "list_iterator" := let ⟨o, a, b, _⟩ := hst'.1; ⟨o, a, b⟩
    obtain ⟨oI, eI, cI⟩ := cls
    refine ff (go_plain (s := { s' with heap := h', toks := tk }) eI cI (by decide) ?_)
    have a₁ : At2 C (vs i z) (os i z) g' { s' with heap := h', toks := tk } := hs'.hid hk' hwr'
    have hd : ds[i]? = some ds[i] := List.getElem?_eq_getElem hlt
    have hr : Rep g' v ds[i] := (hv _ hd).ext he
    obtain ⟨tv, to, ha, hx⟩ := turn _ _ a₁.subC i z _ hd hF
    refine wpAny_mono (ha g' _ v a₁.reb hr) (fun _ s₃ h₃ => ?_) fun _ _ x => x.elim
    obtain ⟨g₃, x₃, a₃⟩ := h₃
    refine wpAny_mono (hx g₃ s₃ a₃) (fun f s₄ h₄ => ?_) fun _ _ x => x.elim
    have fin : ∀ z' g₄, F (i + 1) z' → At2 { C with s₀ := Mine.reb C (os i z) g' { s' with heap := h', toks := tk }, gb := g' } (vs (i + 1) z') (os (i + 1) z') g₄ s₄ → ∃ m, m < ds.length - i ∧ ∃ i z g', m = ds.length - i ∧ i ≤ ds.length ∧ F i z ∧ At2 C (vs i z) (os i z) g' s₄ ∧ Ext g₁ g' ∧ (s₄.heap.IsListIter I l (i + k0) ∧ ∃ vs, PlainLst s₄.heap l vs ∧ vs.length = dsA.length ∧ Reps g₁ vs dsA) ∧ (I ≠ C.env.locals ∧ I ∉ (os i z).map (·.1) ∧ l ≠ C.env.locals ∧ l ∉ (os i z).map (·.1)) ∧ g'.get? I = none := fun z' g₄ hF' a₄ => by
      have lv : ∀ b, b ≠ C.env.locals → b ∉ (os i z).map (·.1) → ∀ o, h'.get? b = some o → (Mine.reb C (os i z) g' { s' with heap := h', toks := tk }).heap.get? b = some o := fun b m1 m2 o e => by
        show (hide _ h').get? b = some o
        rw [get?_hide, if_neg]
        · exact e
        · intro q
          have q' : b ∈ C.env.locals :: (os i z).map (·.1) := by simpa using q
          rcases List.mem_cons.mp q' with q' | q'
          · exact m1 q'
          · exact m2 q'
      obtain ⟨vs₀, pl, hl1, hl2⟩ := hst'.2
      obtain ⟨np, epl⟩ := id pl
      refine ⟨ds.length - (i + 1), by (first | lia | omega), i + 1, z', g₄, rfl, hlt, hF', a₁.subC.at2 a₄, Ext.trans he a₄.gr.ext, ?_, ⟨n1, fun q => ?_, n3, fun q => ?_⟩, ?_⟩
      · refine W.frame _ _ _ hst' fun b hb o e => ?_
        rcases List.mem_cons.mp hb with rfl | hb
        · exact keepsExt a₄.gr.keeps _ _ (lv _ n1 n2 o e)
        · obtain rfl := List.mem_singleton.mp hb
          exact keepsExt a₄.gr.keeps _ _ (lv _ n3 n4 o e)
      · obtain ⟨p, hp, e⟩ := List.mem_map.mp q
        have := (a₄.news p hp).2.2.1
        rw [e] at this
        exact live_ne this (lv _ n1 n2 _ eI)
      · obtain ⟨p, hp, e⟩ := List.mem_map.mp q
        have := (a₄.news p hp).2.2.1
        rw [e] at this
        exact live_ne this (lv _ n3 n4 _ epl)
      · cases q : g₄.get? I with
        | none => rfl
        | some o =>
          rcases a₄.gr.new I o q with h | h
          · exact (live_ne hgI h).elim
          · exact (live_ne h (lv _ n1 n2 _ eI)).elim
    cases f with
    | next => obtain ⟨z', g₄, hF', a₄⟩ := h₄; exact fin z' g₄ hF' a₄
    | cont => obtain ⟨z', g₄, hF', a₄⟩ := h₄; exact fin z' g₄ hF' a₄
    | brk => exact h₄
    | ret v => exact h₄
  · obtain rfl : i = ds.length := by (first | lia | omega)
    refine ff (W.done s' _ Ff hst fun h' tk hk' => ?_)
    refine wpAny_execs_nil ?_
    exact k z hF g' _ (hs'.hid hk' hwr')
noncomputable def OIt (ds : List D) : Heap → Obj → Prop := fun g o => ∃ l vs, o.cls = .type "list_iterator" ∧ o.data = .fields #[.ref l, .int 0 0] ∧ PlainLst g l vs ∧ Reps g vs ds
theorem OIt.mono : Mono (OIt ds) := by
  rintro _ _ _ k ⟨l, vs, a, b, c, e⟩
  exact ⟨l, vs, a, b, c.ext k, e.ext k⟩
theorem EvW.iterL {id : PySem.Str} {a : Expr} (hh : C.A.handled = none) (hf : Callee C vars own (.Name id p') (.builtin "iter")) (ha : Ev C vars own a (.lst ds)) (he : starEach [a] C.env = [(false, eval a C.env)]) : EvW C vars own (.Call (.Name id p') [a] [] pos) (fun I => (I, OIt ds) :: own) (fun I => .raw (.ref I)) := fun g s hs => by
  refine wpAny_Call_Name_kw (wmono (hf.load g s hs) fun v s₁ h₁ => ?_)
  obtain ⟨rfl, rfl⟩ := h₁
  have h' := (EvArgs.cons (pos := pos) ha EvArgs.nil he) g s₁ hs
  show wpAny _ _ (callWith pos (.builtin "iter") [] (backTo pos (starEach [a] C.env)) []) _ _ _
  rw [he] at h' ⊢
  refine callWith_of (P := fun h => Kp (model C.prog C.w) h (.builtin "iter")) rfl (fun _ x => x) (evalArgs_plain (wmono h' fun vs s₂ ⟨g₂, x₂, r₂⟩ => ⟨hf.kp _ _ (hs.grow x₂), ?_⟩))
  have a₂ := hs.grow x₂
  cases r₂ using Reps.eCons with
  | cons r₂ rs =>
    first | cases rs using Reps.eNil | cases rs using Rep.eInt | cases rs using Rep.eRaw | cases rs using Rep.eNone | cases rs using Rep.eStr | cases rs using Rep.eBool | cases rs
    cases r₂ using Rep.eLst with
    | @lst l vs pl rr =>
      have pls := pl.ext a₂.sub
      refine call_function_entry (by decide +kernel) (by decide +kernel) kdk_entry_iter (kdk_args_iter _) ?_
      unfold Builtin.«iter»
      refine wpAny_bind (m := someArgs "iter" 1 2 _) (wpAny_of_eq (a := [Value.ref l]) (by first | rfl | kernel_rfl!) ?_)
      show wpAny _ _ (pyIter (.ref l) >>= _) _ _ _
      refine wpAny_bind (wpAny_pyIter_list pls.isList (wpAny_pure ⟨_, rfl, _, g₂, x₂.ext, ?_, .raw _⟩))
      exact a₂.newOwn (P := OIt ds) (o := { cls := .type "list_iterator", data := .fields #[.ref l, .int 0 0] }) (s' := { s₂ with heap := s₂.heap.push { cls := .type "list_iterator", data := .fields #[.ref l, .int 0 0] } }) ⟨_, _, rfl, fun b o e => Heap.get?_push_of_some _ e⟩ new_none (Heap.get?_push_size _ rfl) ⟨l, vs, rfl, rfl, pl, rr⟩ OIt.mono
noncomputable def OTab (p : Pos) (qual : PySem.Str) : Heap → Obj → Prop := fun g o => o = tabObj #[] ∨ ∃ c', o = tabObj #[rawInt p.line, rawInt p.col, .ref c'] ∧ g.CodeRec (.ref c') qual
theorem codeRec_ext {h h' : Heap} {c : Value} {q : PySem.Str} (k : Ext h h') (x : h.CodeRec c q) : h'.CodeRec c q := by
  obtain ⟨c', oc, vs, t, e, ho, hd, hv⟩ := x
  exact ⟨c', oc, vs, t, e, k _ _ ho, hd, hv⟩
theorem OTab.mono {p : Pos} {qual : PySem.Str} : Mono (OTab p qual) := fun _ _ _ k h => h.imp (fun e => e) fun ⟨c', e, r⟩ => ⟨c', e, codeRec_ext k r⟩
noncomputable def IsLam (qual : PySem.Str) (params : Arguments) (body : Expr) (sc : Scope) (cl : List (PySem.Str × Addr)) : Heap → Value → Prop := fun g v => ∃ f pm c' ctv, v = .ref f ∧ g.get? f = some (kla_obj "<lambda>" qual params body sc cl pm c' ctv) ∧ g.CodeRec (.ref c') qual
theorem IsLam.mono {qual : PySem.Str} {params : Arguments} {body : Expr} {sc : Scope} {cl : List (PySem.Str × Addr)} : ∀ g g' v, Ext g g' → IsLam qual params body sc cl g v → IsLam qual params body sc cl g' v := by
  rintro _ _ _ k ⟨f, pm, c', ctv, e, a, b⟩
  exact ⟨f, pm, c', ctv, e, k _ _ a, codeRec_ext k b⟩
noncomputable def hasK (o : Option Obj) (p : Obj → Bool) : Bool := match o with
  | some o => p o
  | none => false
noncomputable def bmIn (K : Frag) (bm : Addr) : Bool := (nsIn K mainGlobals "__builtins__" == some (some (.ref bm))) && bm != builtinsNs && bm != mainGlobals && hasK (K.lookup bm) fun o => o.cls == .type "module" && o.dict == some builtinsNs && (match o.data with | .plain => true | _ => false)
theorem builtinsAt_of {K : Frag} {h : Heap} {bm P : Addr} {mg : PySem.Str → Option Value} (X : K.In h) (G : h.Ns mainGlobals mg) (e : bmIn K bm = true) (hP : bm ≠ P) : h.BuiltinsAt mg P := by
  unfold bmIn hasK at e
  simp only [Bool.and_eq_true, beq_iff_eq, bne_iff_ne, ne_eq] at e
  obtain ⟨⟨⟨e1, e2⟩, e3⟩, e4⟩ := e
  split at e4
  · rename_i o ho
    simp only [Bool.and_eq_true, beq_iff_eq] at e4
    obtain ⟨⟨c1, c2⟩, c3⟩ := e4
    refine ⟨bm, o, mg_of X G e1, e2, e3, hP, X _ _ ho, c1, c2, ?_⟩
    split at c3
    · assumption
    · cases c3
  · cases e4
noncomputable def codeHdIn (K : Frag) (c P : Addr) : Bool := hasK (K.lookup c) fun o => o.cls == .type "code" && (match o.data with
  | .fields vs => vs[11]? == some (.ref P) && vs.getD 11 .none == .ref P && (match vs.getD 18 .none with | .str _ _ => true | _ => false) && (match vs.getD 7 .none with | .int _ _ => true | _ => false) && (match vs.getD 9 .none with | .bool _ => true | _ => false) && (match vs.getD 10 .none with | .int _ _ => true | _ => false)
  | _ => false) && c != P
theorem codeHd_of {K : Frag} {h : Heap} {c P : Addr} (X : K.In h) (e : codeHdIn K c P = true) : CodeHd h c P := by
  unfold codeHdIn hasK at e
  split at e
  · rename_i o ho
    simp only [Bool.and_eq_true, beq_iff_eq, bne_iff_ne, ne_eq] at e
    obtain ⟨⟨e1, e2⟩, e3⟩ := e
    split at e2
    · rename_i vs hvs
      simp only [Bool.and_eq_true, beq_iff_eq] at e2
      obtain ⟨⟨⟨⟨⟨a1, a2⟩, a3⟩, a4⟩, a5⟩, a6⟩ := e2
      split at a3
      · rename_i file tf h3
        split at a4
        · rename_i fl tg h4
          split at a5
          · rename_i inF h5
            split at a6
            · rename_i tx tt h6
              exact ⟨o, vs, file, tf, fl, tg, inF, tx, tt, X _ _ ho, e1, hvs, a1, a2, h3, h4, h5, h6, e3⟩
            · cases a6
          · cases a5
        · cases a4
      · cases a3
    · cases e2
  · cases e
structure LamOk (C : Cc) (params : Arguments) (sc : Scope) (c P bm : Addr) (clos : List (PySem.Str × Addr)) : Prop where
  hdef : defaultsOf params C.env = ([], [])
  hcl : closureFor sc C.env = pure clos
  hg : C.env.globals = mainGlobals
  hc : C.env.code = .ref c
  hh : codeHdIn C.K c P = true
  hb : bmIn C.K bm = true
  hbP : bm ≠ P
theorem EvW.lam {params : Arguments} {body : Expr} {sc : Scope} {c P bm : Addr} {clos : List (PySem.Str × Addr)} (m : LamOk C params sc c P bm clos) :
    EvW C vars ((P, OTab pos (C.env.qual ++ "<lambda>")) :: own) (.Lambda params body sc pos) (fun _ : Unit => (P, OTab pos (C.env.qual ++ "<lambda>")) :: own) (fun _ => .sp (IsLam (C.env.qual ++ "<lambda>") params body sc clos)) := fun g s hs => by
  obtain ⟨⟨o, e, q⟩, hPL, hP0, hPg⟩ := hs.news _ (.head _)
  have X := (hs.cxg.ext hs.sub)
  obtain ⟨p, l, mg, mb, T⟩ := X.T
  have hgP : mainGlobals ≠ P := fun h => by
    obtain ⟨p₀, l₀, mg₀, mb₀, T₀⟩ := hs.cx.T
    obtain ⟨og, _, _, eg, _⟩ := T₀.g
    rw [h] at eg
    exact live_ne hPg (hs.gr.ext _ _ eg)
  have hB := builtinsAt_of (P := P) X.X T.g m.hb m.hbP
  refine kla_eval m.hdef ?_
  rcases q with rfl | ⟨c', rfl, hrec⟩
  · refine kla_makeFunction (mg := mg) m.hcl m.hg T.g m.hc (codeHd_of X.X m.hh) e (by simp [TriplesOk]) rfl hgP hB fun c' ctv h' tk hx hge hlt hrec htb => ?_
    have old : ∀ b o, b ≠ P → s.heap.get? b = some o → (h'.push (kla_obj "<lambda>" (C.env.qual ++ "<lambda>") params body sc clos ((mg "__name__").getD .none) c' ctv)).get? b = some o := fun b o hb e' => Heap.get?_push_of_some _ (hx b o hb e')
    have a₁ := hs.put (h' := h'.push (kla_obj "<lambda>" (C.env.qual ++ "<lambda>") params body sc clos ((mg "__name__").getD .none) c' ctv)) (t := tk) (P' := fun _ o => o = tabObj (#[] ++ #[rawInt pos.line, rawInt pos.col, .ref c'])) .here old ⟨_, Heap.get?_push_of_some _ htb, rfl⟩ (fun _ _ _ _ h => h)
    obtain ⟨cc, oc, vs, tt, ec, hoc, hdc, hvc⟩ := hrec
    cases ec
    have none_of : ∀ b, s.heap.objs.size ≤ b → s.heap.get? b = none := fun b hb => Heap.get?_none_of_le hb
    have hfo : h'.objs.size ≠ c' := Nat.ne_of_gt hlt
    have sz : s.heap.objs.size ≤ h'.objs.size := Nat.le_trans hge (Nat.le_of_lt hlt)
    have hP_lt : P < s.heap.objs.size := Heap.lt_size e
    have nn : ∀ b, s.heap.objs.size ≤ b → C.s₀.heap.get? b = none ∧ g.get? b = none := fun b hb => by
      constructor
      · cases q : C.s₀.heap.get? b with
        | none => rfl
        | some o => exact (live_ne (none_of b hb) (keepsExt hs.gr.keeps _ _ q)).elim
      · cases q : g.get? b with
        | none => rfl
        | some o => exact (live_ne (none_of b hb) (hs.sub _ _ q)).elim
    have hL_lt : C.env.locals < s.heap.objs.size := by obtain ⟨o, e'⟩ := hs.L_live; exact Heap.lt_size e'
    have own_lt : ∀ p ∈ own, p.1 < s.heap.objs.size := fun p hp => by obtain ⟨⟨o, e', _⟩, _⟩ := hs.news p (.tail _ hp); exact Heap.lt_size e'
    -- the code and the function, told as own objects, then frozen
    have hcode : (h'.push (kla_obj "<lambda>" (C.env.qual ++ "<lambda>") params body sc clos ((mg "__name__").getD .none) c' ctv)).get? c' = some oc := Heap.get?_push_of_some _ hoc
    have hfun : (h'.push (kla_obj "<lambda>" (C.env.qual ++ "<lambda>") params body sc clos ((mg "__name__").getD .none) c' ctv)).get? h'.objs.size = some (kla_obj "<lambda>" (C.env.qual ++ "<lambda>") params body sc clos ((mg "__name__").getD .none) c' ctv) := Heap.get?_push_size _ rfl
    have a₂ : At2 C vars ((c', fun _ o => o = oc) :: (h'.objs.size, fun _ o => o = kla_obj "<lambda>" (C.env.qual ++ "<lambda>") params body sc clos ((mg "__name__").getD .none) c' ctv) :: (P, fun _ o => o = tabObj (#[] ++ #[rawInt pos.line, rawInt pos.col, .ref c'])) :: own) g { s with heap := h'.push (kla_obj "<lambda>" (C.env.qual ++ "<lambda>") params body sc clos ((mg "__name__").getD .none) c' ctv), toks := tk } := by
      refine ⟨a₁.gr, a₁.cx, a₁.fr, a₁.frn, fun p hp => ?_, fun p hp => ?_, ?_, a₁.ro⟩
      · rcases List.mem_cons.mp hp with rfl | hp
        · exact ⟨⟨oc, hcode, rfl⟩, Nat.ne_of_gt (Nat.lt_of_lt_of_le hL_lt hge), (nn _ hge).1, (nn _ hge).2⟩
        rcases List.mem_cons.mp hp with rfl | hp
        · exact ⟨⟨_, hfun, rfl⟩, Nat.ne_of_gt (Nat.lt_of_lt_of_le hL_lt sz), (nn _ sz).1, (nn _ sz).2⟩
        · exact a₁.news p hp
      · rcases List.mem_cons.mp hp with rfl | hp
        · exact fun _ _ _ _ h => h
        rcases List.mem_cons.mp hp with rfl | hp
        · exact fun _ _ _ _ h => h
        · exact a₁.mono p hp
      · have ltall : ∀ p ∈ ((P, fun _ o => o = tabObj (#[] ++ #[rawInt pos.line, rawInt pos.col, .ref c'])) :: own : DOwn), p.1 < s.heap.objs.size := fun p hp => by
          rcases List.mem_cons.mp hp with rfl | hp
          · exact hP_lt
          · exact own_lt p hp
        rw [List.map_cons, List.map_cons]
        refine List.nodup_cons.mpr ⟨fun h => ?_, List.nodup_cons.mpr ⟨fun h => ?_, a₁.nodup⟩⟩
        · rcases List.mem_cons.mp h with h | h
          · exact hfo h.symm
          · obtain ⟨p, hp, q⟩ := List.mem_map.mp h
            have := ltall p hp
            rw [q] at this
            exact absurd this (Nat.not_lt.mpr hge)
        · obtain ⟨p, hp, q⟩ := List.mem_map.mp h
          have := ltall p hp
          rw [q] at this
          exact absurd this (Nat.not_lt.mpr sz)
    obtain ⟨g₁, x₁, b₁, o₁, e₁, rfl⟩ := a₂.freezeP
    obtain ⟨g₂, x₂, b₂, o₂, e₂, rfl⟩ := b₁.freezeP
    have hcr : g₂.CodeRec (.ref c') (C.env.qual ++ "<lambda>") := ⟨c', _, vs, tt, rfl, x₂ _ _ e₁, hdc, hvc⟩
    refine ⟨(), g₂, Ext.trans x₁ x₂, b₂.tellG (.head _) .here (fun o q => .inr ⟨c', by rw [q]; rfl, hcr⟩) OTab.mono, .sp ⟨_, _, c', ctv, rfl, e₂, hcr⟩ IsLam.mono⟩
  · have hf : codeAmong pos (#[rawInt pos.line, rawInt pos.col, Value.ref c']).toList = some (.ref c') := by simp [codeAmong, rawInt]
    refine kla_makeFunctionHit (mg := mg) m.hcl m.hg T.g m.hc (codeHd_of X.X m.hh) e (by simp [TriplesOk, rawInt]) hf hB fun ctv h' tk hk hsz => ?_
    have kk : Keeps s { s with heap := h'.push (kla_obj "<lambda>" (C.env.qual ++ "<lambda>") params body sc clos ((mg "__name__").getD .none) c' ctv), toks := tk } := ⟨_, _, rfl, fun b o e' => Heap.get?_push_of_some _ (hk b o e')⟩
    have a₁ := hs.newOwn (P := fun _ o => o = kla_obj "<lambda>" (C.env.qual ++ "<lambda>") params body sc clos ((mg "__name__").getD .none) c' ctv) kk (Heap.get?_none_of_le hsz) (Heap.get?_push_size _ rfl) rfl (fun _ _ _ _ h => h)
    obtain ⟨g₁, x₁, b₁, o₁, e₁, rfl⟩ := a₁.freezeP
    exact ⟨(), g₁, x₁, b₁, .sp ⟨_, _, c', ctv, rfl, e₁, codeRec_ext x₁ hrec⟩ IsLam.mono⟩
end
end Mine
end
section
open PySem PySem.W PyProof.Rows PySem.Calls PySem.SeqAt
set_option Elab.async false
set_option linter.unusedVariables false
namespace Mine
section
variable {prog : Program} {w : World} {A : Around} {s : Shared} {K : Frag} {g : Heap}
noncomputable abbrev lamC (prog : Program) (w : World) (K : Frag) (A : Around) (s : Shared) (g : Heap) (qual : PySem.Str) (sc : Scope) (L f c' : Addr) (cl : List (PySem.Str × Addr)) (ro : DOwn) : Cc :=
  ⟨prog, w, K, A.deeper (envX qual sc L f (.ref c') cl), s, g, envX qual sc L f (.ref c') cl, ro⟩
theorem lam_call {qual : PySem.Str} {params : Arguments} {body : Expr} {sc : Scope} {cl : List (PySem.Str × Addr)} {v : Value} {args : List Value} {binds : List (PySem.Str × Value)} {n : Nat} {ro : DOwn} {dv : DVars} {d : D}
    (hA : RmN n A) (F : Fz K g s) (hv : IsLam qual params body sc cl g v) (hro : StandR ro g s) (hbind : ∀ pm cdv ctv, bindArgs (kla_fn "<lambda>" qual params body sc cl pm cdv ctv) ⟨args, []⟩ = pure binds) (hloc : (binds.all fun y => sc.names.lookup y.1 == some .local) = true)
    (hfl : (sc.isCoroutine || sc.isGenerator || !(sc.kind == .function)) = false) (hcell : (sc.names.all fun x => x.2 != .cell) = true) (hdv : ∀ p ∈ dv, ∃ u, binds.reverse.lookup p.1 = some u ∧ Rep g u p.2)
    (k : ∀ L f c', Ev (lamC prog w K A s g qual sc L f c' cl ro) dv [] body d) : wpAny (model prog w) A (call v args) (Mine.Gives d g s) Ff s := by
  obtain ⟨f, pm, c', ctv, rfl, hf, hrec⟩ := hv
  simp only [Bool.or_eq_false_iff, Bool.not_eq_false'] at hfl
  obtain ⟨⟨hco, hgen⟩, hk⟩ := hfl
  have hk' : sc.kind = .function := by simpa using hk
  have X := F.cx.ext F.sub
  refine wpAny_call (kla_callFunE (Nat.lt_of_le_of_lt (Nat.le_trans (Nat.le_add_right _ _) hA.depth) (by decide)) (F.sub _ _ hf) rfl hco hgen rfl (codeRec_ext F.sub hrec) ?_)
  rw [hbind]
  refine wpAny_pure (wpAny_newFunctionEnv (fun x hx => by have := List.all_eq_true.mp hcell x hx; simpa using this) (fun y hy => by have := List.all_eq_true.mp hloc y hy; simpa using this) (fun h₁ hns hsb => ⟨X.lim.fresh _ hsb, ?_⟩) hk')
  show codeAny _ _ (.expr body (envX qual sc s.heap.objs.size f (.ref c') cl)) _ _
  have hk₁ : Ext s.heap h₁ := fun b o e => hsb.extBut b o (Nat.ne_of_lt (Heap.lt_size e)) (Heap.get?_push_of_some _ e)
  have kp : Keeps s { s with heap := h₁, toks := s.toks + binds.length } := ⟨_, _, rfl, hk₁⟩
  have hg : g.get? s.heap.objs.size = none := by
    cases q : g.get? s.heap.objs.size with
    | none => rfl
    | some o => exact (live_ne new_none (F.sub _ _ q)).elim
  have hat : At2 (lamC prog w K A s g qual sc s.heap.objs.size f c' cl ro) dv [] g { s with heap := h₁, toks := s.toks + binds.length } :=
    ⟨Gr.same F.sub kp, F.cx, ⟨_, hns, hdv⟩, ⟨new_none, hg⟩, fun p hp => (nomatch hp), fun p hp => (nomatch hp), List.nodup_nil, hro⟩
  refine kla_codeExpr (wpAny_mono (k s.heap.objs.size f c' g _ hat) (fun u s' h => ?_) fun _ _ y => y.elim)
  exact h.after (Gr.same F.sub kp)
end
section
variable {C : Cc} {vars vars' vars'' : DVars} {own own' own'' : DOwn} {Q : Flow → Shared → Prop} {d d₁ d₂ : D} {ds : List D} {rest body orelse : List Stmt} {e l r : Expr} {args : List Expr} {pos p' p : Pos} {x : PySem.Str} {cs : List Nat} {g g' : Heap} {s s' : Shared} {fv : Value}
theorem At2.standRo (x : At2 C vars own g s) : StandR C.ro g s := fun p hp => ⟨x.known (.inr hp), (x.ro p hp).2⟩
theorem kp_func {M : Model} {h : Heap} {f : Addr} {o : Obj} {fd : FuncData} (e : h.get? f = some o) (hd : o.data = .func fd) : Kp M h (.ref f) := by
  obtain ⟨c, dd, da, sl⟩ := o
  subst hd
  exact ⟨.frame, .inl rfl, (Looks.ld (part := none) e).andThen .now⟩
theorem IsLam.kp {qual : PySem.Str} {params : Arguments} {b : Expr} {sc : Scope} {cl : List (PySem.Str × Addr)} {v : Value} {M : Model} (h : IsLam qual params b sc cl g v) (k : Ext g s.heap) : Kp M s.heap v := by
  obtain ⟨f, pm, c', ctv, rfl, hf, _⟩ := h
  exact kp_func (k _ _ hf) rfl
structure FnV (prog : Program) (w : World) (K : Frag) (n : Nat) (P : Heap → Value → Prop) (ds : List D) (ro : DOwn) (d : D) : Prop where
  run : ∀ A, RmN n A → ∀ g s v vs, Fz K g s → P g v → Reps g vs ds → StandR ro g s → wpAny (model prog w) A (call v vs) (Gives d g s) Ff s
  kp : ∀ g s v, Fz K g s → P g v → Kp (model prog w) s.heap v
theorem Ev.callV {id : PySem.Str} {a : Expr} {n m : Nat} {P : Heap → Value → Prop} (hf : Ev C vars own (.Name id p') (.sp P)) (ha : EvArgs C vars own pos (a :: args) ds) (o : FnV C.prog C.w C.K n P ds C.ro d) (hA : RmN m C.A) (hm : n ≤ m)
    (he : starEach (a :: args) C.env = (false, eval a C.env) :: starEach args C.env) (hp : (backTo pos (starEach args C.env)).any (·.1) = false) : Ev C vars own (.Call (.Name id p') (a :: args) [] pos) d := fun g s hs => by
  refine wpAny_Call_Name_kw (hf.run hs fun v g₁ s₁ x₁ a₁ r₁ => ?_)
  cases r₁ using Rep.eSp with
  | sp hP hM =>
    have h := ha g₁ s₁ a₁
    show wpAny _ _ (callWith pos v [] (backTo pos (starEach (a :: args) C.env)) []) _ _ _
    rw [he] at h ⊢
    refine callWith_of (P := fun h => Kp (model C.prog C.w) h v) (by show ((false || (backTo pos (starEach args C.env)).any (·.1)) || false) = false; rw [hp]; rfl) (fun _ x => x) (evalArgs_plain (wmono h fun vs s₂ ⟨g₂, x₂, r₂⟩ => ⟨o.kp _ _ _ (a₁.grow x₂).fz (hM _ _ _ x₂.ext hP), ?_⟩))
    exact wmono (o.run C.A (hA.le hm) g₂ s₂ v vs (a₁.grow x₂).fz (hM _ _ _ x₂.ext hP) r₂ (a₁.grow x₂).standRo) fun v s' h => h.after (x₁.trans x₂)
theorem Ev.callR {id : PySem.Str} {a : Expr} {n m : Nat} {ro : DOwn} (hf : Callee C vars own (.Name id p') fv) (ha : EvArgs C vars own pos (a :: args) ds) (o : FnR C.prog C.w C.K n fv ds ro d) (hA : RmN m C.A) (hm : n ≤ m) (hro : ∀ g s, At2 C vars own g s → StandR ro g s)
    (he : starEach (a :: args) C.env = (false, eval a C.env) :: starEach args C.env) (hp : (backTo pos (starEach args C.env)).any (·.1) = false) : Ev C vars own (.Call (.Name id p') (a :: args) [] pos) d := fun g s hs => by
  refine wpAny_Call_Name_kw (wmono (hf.load g s hs) fun v s₁ h₁ => ?_)
  obtain ⟨rfl, rfl⟩ := h₁
  have h := ha g s₁ hs
  show wpAny _ _ (callWith pos v [] (backTo pos (starEach (a :: args) C.env)) []) _ _ _
  rw [he] at h ⊢
  refine callWith_of (P := fun h => Kp (model C.prog C.w) h v) (by show ((false || (backTo pos (starEach args C.env)).any (·.1)) || false) = false; rw [hp]; rfl) (fun _ x => x) (evalArgs_plain (wmono h fun vs s₂ ⟨g₂, x₂, r₂⟩ => ⟨hf.kp _ _ (hs.grow x₂), ?_⟩))
  exact wmono (o C.A (hA.le hm) g₂ s₂ vs (hs.grow x₂).fz r₂ (hro _ _ (hs.grow x₂))) fun v s' h => h.after x₂
theorem EvW.callLam {id : PySem.Str} {a : Expr} {n m : Nat} {ro : DOwn} {d₀ : D} (hf : ∀ own, Callee C vars own (.Name id p') fv) (h1 : EvW C vars own l (fun _ : Unit => own) (fun _ => d₀)) (ha : EvArgs C vars own pos (a :: args) ds) (o : FnR C.prog C.w C.K n fv (d₀ :: ds) ro d) (hA : RmN m C.A) (hm : n ≤ m) (hro : ∀ g s, At2 C vars own g s → StandR ro g s)
    (he : starEach (l :: a :: args) C.env = (false, eval l C.env) :: starEach (a :: args) C.env) (hp : (backTo pos (starEach (a :: args) C.env)).any (·.1) = false) : EvW C vars own (.Call (.Name id p') (l :: a :: args) [] pos) (fun _ : Unit => own) (fun _ => d) := fun g s hs => by
  refine wpAny_Call_Name_kw (wmono ((hf own).load g s hs) fun v s₁ h₁ => ?_)
  obtain ⟨rfl, rfl⟩ := h₁
  have h : wpAny (model C.prog C.w) C.A (spliced (backTo pos (starEach (l :: a :: args) C.env))) (fun vs s' => ∃ g', Ext g g' ∧ At2 C vars own g' s' ∧ Reps g' vs (d₀ :: ds)) Ff s₁ :=
    wpAny_items_cons (wmono (h1 g s₁ hs) fun u s₂ ⟨_, g₂, x₂, a₂, r₂⟩ => wmono (ha g₂ s₂ a₂) fun vs s₃ ⟨g₃, x₃, r₃⟩ => ⟨g₃, Ext.trans x₂ x₃.ext, a₂.grow x₃, .cons (r₂.ext x₃.ext) r₃⟩) he
  show wpAny _ _ (callWith pos v [] (backTo pos (starEach (l :: a :: args) C.env)) []) _ _ _
  rw [he] at h ⊢
  refine callWith_of (P := fun h => Kp (model C.prog C.w) h v) (by show ((false || (backTo pos (starEach (a :: args) C.env)).any (·.1)) || false) = false; rw [hp]; rfl) (fun _ x => x) (evalArgs_plain (wmono h fun vs s₂ ⟨g₂, x₂, a₂, r₂⟩ => ⟨(hf own).kp _ _ a₂, ?_⟩))
  exact wmono (o C.A (hA.le hm) g₂ s₂ vs a₂.fz r₂ (hro _ _ a₂)) fun v s' ⟨g₃, x₃, r₃⟩ => ⟨(), g₃, Ext.trans x₂ x₃.ext, a₂.grow x₃, r₃⟩
theorem Ev.globV {y : PySem.Str} (e : nsIn C.K mainGlobals y = some (some fv)) (hk : (C.env.scope.kind == .function) = true) (hl : C.env.kindOf y = some .globalImplicit) (hd : (y == ("__debug__" : PySem.Str)) = false) (hg : C.env.globals = mainGlobals) : Ev C vars own (.Name y pos) (.raw fv) := fun g s hs => by
  have X := hs.cxg
  obtain ⟨p, l, mg, mb, T⟩ := X.T
  exact Name_function_global (by simpa using hk) hl (loadGlobal_global (by rw [hg]; exact T.g.keeps hs.sub) (mg_of X.X T.g e) ⟨g, Gr.refl hs.sub, .raw _⟩) hd
end
end Mine
end
section
open PySem PySem.W PyProof.Rows PySem.Calls PySem.SeqAt
set_option Elab.async false
set_option linter.unusedVariables false
set_option maxRecDepth 100000
namespace Mine
theorem tuple_getitem_inst (l : Addr) (cls dx : Addr) (items : Array Value) (n : Nat) (i : Int) (u : Tok) (k : Nat) (y : Value) (hlo : -2 ^ 63 ≤ i) (hhi : i < 2 ^ 63) (hk : seqIndex? i items.size = some k) (hy : items[k]? = some y) :
    Meets (Builtin.«tuple.__getitem__» ⟨[.ref l, .int i u], []⟩)
      (fun _ R s => s.heap.get? l = some ⟨.ref cls, some dx, .seq items n, #[]⟩ ∧ R (.ok (.ret y)) s) :=
  .of_wp fun prog w A R s h => by
    obtain ⟨hp, g, d, tk, os⟩ := s; obtain ⟨hl, h⟩ := h
    have f1 := PySem.AutoSeq1.idx_int
    have hf : ¬ (decide (i < -2 ^ 63) || decide (i ≥ 2 ^ 63)) = true := by simp; (first | lia | omega)
    wp_walk using wpAny_loadPart' hl
    simp only [hk, hy, Option.bind_some]
    refine wpAny_ite_false (by simp; (first | lia | omega)) ?_
    wp_walk
    exact ⟨_, rfl, h⟩
structure MatK (K : Frag) (cls : Addr) : Prop where
  hs : findIn K (.ref cls) "__getitem__" = some (some (.builtin "tuple.__getitem__"))
  hq : (seqItemTypes.all fun n => subIn K (.ref cls) (.type n) == some false) = true
  ht : subIn K (.ref cls) (.type "tuple") = some true
section
variable {prog : Program} {w : World} {A : Around} {E : Value → Shared → Prop} {s : Shared} {K : Frag} {Q : Value → Shared → Prop}
theorem getItem_inst {m cls dx : Addr} {items : Array Value} {n : Nat} {i : Int} {u : Tok} {k : Nat} {y : Value} (X : K.In s.heap) (M : MatK K cls) (hm : s.heap.get? m = some ⟨.ref cls, some dx, .seq items n, #[]⟩) (hlo : -2 ^ 63 ≤ i) (hhi : i < 2 ^ 63) (hk : seqIndex? i items.size = some k) (hy : items[k]? = some y) (h : Q y s) :
    wpAny (model prog w) A (getItem (.ref m) (.int i u)) Q E s := by
  have T1 : Looks (model prog w) s.heap (typeOf (.ref m)) (.ref cls) := (Looks.ld (part := none) hm).andThen .now
  unfold getItem sequenceKey
  refine wpAny_holding (wpAny_bind (wpAny_bind (T1.here ?_)))
  refine wpAny_bind ((anyM_none X M.hq).here ?_)
  rw [if_pos (show (!false) = true from rfl)]
  refine wpAny_pure (wpAny_bind ?_)
  have hi : Looks (model prog w) s.heap (isInstance (.ref m) (.type "tuple")) true := T1.andThen (looks_subIn X M.ht)
  have call : wpAny (model prog w) A (PySem.call (.builtin "tuple.__getitem__") [.ref m, .int i u]) Q E s :=
    wpAny_call (codeAny_call_builtin slot_tuple_getitem.plain entry_tuple_getitem (@check_slot (model prog w) _ _ s "tuple.__getitem__" "tuple" "__getitem__" (.ref m) [.int i u] [] _ (by decide +kernel) (by decide +kernel) hi (args_tuple_getitem _ _)
      (tuple_getitem_inst m cls dx items n i u k y hlo hhi hk hy prog w A (wants Q E) s ⟨hm, h⟩)))
  refine wpAny_bind (wpAny_bind (T1.here ((looks_findIn X M.hs).here (wpAny_holding (wpAny_bind ?_)))))
  rw [slot_tuple_getitem.bind]
  exact wpAny_pure (wpAny_bind (wpAny_mono call (fun _ _ z => wpAny_pure (wpAny_pure z)) fun _ _ z => z))
theorem tail_inst {m cls : Addr} {o : Obj} {value slice : Expr} {i : Value} (X : K.In s.heap) (M : MatK K cls) (hm : s.heap.get? m = some o) (hc : o.cls = .ref cls) (hg : wpAny (model prog w) A (getItem (.ref m) i) Q E s)
    (hs : subscripted slice false (.ref m) i = operate [.ref m, i] (getItem (.ref m) i)) : wpAny (model prog w) A (subscriptTail value slice (.ref m) i) Q E s := by
  have T1 : Looks (model prog w) s.heap (typeOf (.ref m)) (.ref cls) := hc ▸ (Looks.ld (part := none) hm).andThen .now
  unfold subscriptTail getitemInPython
  refine wpAny_bind (wpAny_bind (wpAny_bind (T1.here ((looks_findIn X M.hs).here ?_))))
  refine wpAny_pure ?_
  rw [hs]
  exact wpAny_bind (wpAny_operating (wpAny_mono hg (fun r s₃ h₃ => wpAny_bind (wpAny_letTemporaryGo (wpAny_pure h₃))) fun _ _ x => x))
end
section
variable {C : Cc} {vars : DVars} {own : DOwn} {value slice : Expr} {pos : Pos} {cls : Addr} {i j k : Int}
theorem Ev.matItem {n : Nat} {y : Int} (M : MatK C.K cls) (hv : Ev C vars own value (.sp (IsMat cls i j k))) (hi : Ev C vars own slice (.int n)) (hy : [i, j, k][n]? = some y) (hs : ∀ o i, subscripted slice false o i = operate [o, i] (getItem o i)) : Ev C vars own (.Subscript value slice pos) (.int y) := fun g s a =>
  Subscript_ (hv.run a fun v₁ g₁ s₁ x₁ a₁ r₁ => hi.run a₁ fun v₂ g₂ s₂ x₂ a₂ r₂ => by
    cases r₁ using Rep.eSp with
    | sp hP _ =>
      obtain ⟨m, dx, t, u, q, rfl, hm⟩ := hP
      cases r₂ using Rep.eInt with
      | int tk =>
      have hm' := a₂.sub _ _ (x₂.ext _ _ hm)
      have X := (a₂.cxg.ext a₂.sub).X
      have hn : n < 3 := by
        rcases Nat.lt_or_ge n 3 with h | h
        · exact h
        · rw [List.getElem?_eq_none (by simpa using h)] at hy; cases hy
      have fin : ∀ (z : Value), #[Value.int i t, .int j u, .int k q][n]? = some z → Rep g₂ z (.int y) → wpAny (model C.prog C.w) C.A (subscriptTail value slice (.ref m) (.int n tk)) (Gives (.int y) g s) Ff s₂ := fun z hz hr => by
        refine tail_inst X M hm' rfl (getItem_inst X M hm' (by (first | lia | omega)) (by (first | lia | omega)) (k := n) ?_ hz ?_) (hs _ _)
        · unfold seqIndex?
          show (if _ then _ else _) = _
          split <;> rename_i q <;> simp_all <;> (first | lia | omega)
        · exact ⟨g₂, x₁.trans x₂, hr⟩
      match n, hn with
      | 0, _ => cases hy; exact fin _ rfl (.int _ _)
      | 1, _ => cases hy; exact fin _ rfl (.int _ _)
      | 2, _ => cases hy; exact fin _ rfl (.int _ _))
end
end Mine
end
section
open PySem PySem.W PyProof.Rows PySem.Calls PySem.SeqAt
set_option Elab.async false
set_option linter.unusedVariables false
namespace Mine
section
variable {prog : Program} {w : World} {A : Around} {E : Value → Shared → Prop} {s : Shared} {K : Frag} {g : Heap}
end
section
variable {C : Cc} {vars vars' vars'' : DVars} {own own' own'' : DOwn} {Q : Flow → Shared → Prop} {d : D} {ds : List D} {rest : List Stmt} {e value : Expr} {args : List Expr} {pos p' : Pos} {fv : Value}
end
end Mine
end
section
open PySem PySem.W PyProof.Rows PySem.Calls PySem.SeqAt
set_option Elab.async false
set_option linter.unusedVariables false
namespace Mine
section
variable {prog : Program} {w : World} {A : Around} {E : Value → Shared → Prop} {s : Shared} {K : Frag} {g : Heap}
end
end Mine
end
section
open PySem PySem.W PyProof.Rows PySem.Calls PySem.W.X
set_option Elab.async false
set_option linter.unusedVariables false
set_option maxRecDepth 100000
set_option maxHeartbeats 0
namespace Mine
end Mine
end
section
open PySem PySem.W PyProof.Rows PySem.Calls PySem.SeqAt
set_option Elab.async false
set_option linter.unusedVariables false
namespace Mine
section
variable {α : Type} {a b c d e f x : α} {l l' : List α}
theorem mem1 : x ∈ a :: x :: l := .tail _ (.head _)
theorem mem2 : x ∈ a :: b :: x :: l := .tail _ mem1
theorem mem3 : x ∈ a :: b :: c :: x :: l := .tail _ mem2
theorem mem4 : x ∈ a :: b :: c :: d :: x :: l := .tail _ mem3
theorem mem5 : x ∈ a :: b :: c :: d :: e :: x :: l := .tail _ mem4
theorem mem6 (h : x ∈ l) : x ∈ a :: b :: c :: d :: e :: f :: l := .tail _ (.tail _ (.tail _ (.tail _ (.tail _ (.tail _ h)))))
theorem sub_nil : ∀ p ∈ ([] : List α), p ∈ l' := fun _ h => nomatch h
theorem sub_cons (h : a ∈ l') (k : ∀ p ∈ l, p ∈ l') : ∀ p ∈ a :: l, p ∈ l' := List.forall_mem_cons.mpr ⟨h, k⟩
end
section
variable {C : Cc} {vars vars' vars'' : DVars} {own own₁ own' own'' : DOwn} {Q : Flow → Shared → Prop} {d d₁ d₂ : D} {ds : List D} {rest body orelse : List Stmt} {e l r value : Expr} {args : List Expr} {pos p p' : Pos} {fv : Value} {i j k : Int}
end
end Mine
end
section
open PySem PySem.W PyProof.Rows PySem.Calls PySem.SeqAt
set_option Elab.async false
set_option linter.unusedVariables false
namespace Mine
section
variable {C : Cc}
theorem lt1 (a b : Nat) : decide (([a] : List Nat) < [b]) = decide (a < b) := by
  apply decide_eq_decide.mpr
  constructor
  · intro h
    cases h with
    | rel h => exact h
    | cons h => cases h
  · intro h; exact .rel h
theorem Cmp.ltLs1 {a b : Nat} : Cmp C .Lt (.str (Ls [a])) (.str (Ls [b])) (.bool (decide (a < b))) := fun g s v₁ v₂ f r₁ r₂ => by
  cases r₁ using Rep.eStr with
  | str t =>
  cases r₂ using Rep.eStr with
  | str u =>
  refine PySem.P.lt_str ?_
  have e : decide ((Ls [a]).cps.toList < (Ls [b]).cps.toList) = decide (a < b) := lt1 a b
  rw [e]
  exact ⟨g, Gr.refl f.sub, .bool _⟩
theorem Cmp.eqBool {a b : Bool} : Cmp C .Eq (.bool a) (.bool b) (.bool (a == b)) := fun g s v₁ v₂ f r₁ r₂ => by
  cases r₁ using Rep.eBool
  cases r₂ using Rep.eBool
  exact RcAt.bool_bool a b _ _ _ _ ⟨g, Gr.refl f.sub, .bool _⟩
end
end Mine
end
section
set_option linter.unusedVariables false
namespace Mine
end Mine
end
section
set_option linter.unusedVariables false
namespace Mine
noncomputable def abcd : List Nat := [97, 98, 99, 100]
noncomputable abbrev oth (kinds c : Nat) : List Nat := (abcd.take kinds).filter fun a => decide (a ≠ c)
end Mine
end
section
set_option linter.unusedVariables false
namespace Mine
noncomputable def letsOf (kinds n : Nat) (σ : Nat → Int) : List Nat := (List.range n).map fun p => abcd.getD ((σ p).fmod kinds).toNat 0
structure Txts where
  cut : Nat
  base : List Nat
  word : List Nat
  text : List Nat
end Mine
end
section
set_option linter.unusedVariables false
namespace Mine
end Mine
end
section
set_option linter.unusedVariables false
namespace Mine
noncomputable def kN (ns : List Int) : Nat := (2 + ns.sum.fmod 3).toNat
theorem kN_eq (ns : List Int) : 2 + ns.sum.fmod 3 = (kN ns : Int) ∧ 2 ≤ kN ns ∧ kN ns ≤ 4 := by
  have h0 : (0 : Int) ≤ ns.sum.fmod 3 := Int.fmod_nonneg_of_pos _ (by (first | lia | omega))
  have h1 : ns.sum.fmod 3 < 3 := Int.fmod_lt_of_pos _ (by (first | lia | omega))
  unfold kN
  (first | lia | omega)
theorem flatten3_len (l : List Nat) : ((List.replicate 3 l).flatten).length = 3 * l.length := by simp; (first | lia | omega)
end Mine
end
section
set_option linter.unusedVariables false
namespace Mine
noncomputable def word6 (lets : List Nat) : List Nat := lets ++ [98]
noncomputable def cut6 (lets : List Nat) (sum : Int) : Nat := ((sum.fdiv 3 + 2).fmod (2 * ((word6 lets).length : Int) + 1)).toNat
noncomputable def text6 (lets : List Nat) (sum : Int) : List Nat := ((List.replicate 3 (word6 lets)).flatten).take ((word6 lets).length + cut6 lets sum)
theorem cut6_eq (lets : List Nat) (sum : Int) : (sum.fdiv 3 + 2).fmod (2 * ((word6 lets).length : Int) + 1) = (cut6 lets sum : Int) ∧ cut6 lets sum ≤ 2 * (word6 lets).length := by
  have h0 : (0 : Int) ≤ (sum.fdiv 3 + 2).fmod (2 * ((word6 lets).length : Int) + 1) := Int.fmod_nonneg_of_pos _ (by (first | lia | omega))
  have h1 : (sum.fdiv 3 + 2).fmod (2 * ((word6 lets).length : Int) + 1) < 2 * ((word6 lets).length : Int) + 1 := Int.fmod_lt_of_pos _ (by (first | lia | omega))
  unfold cut6
  generalize (sum.fdiv 3 + 2).fmod (2 * ((word6 lets).length : Int) + 1) = v at h0 h1 ⊢
  (first | lia | omega)
theorem word6_len (lets : List Nat) : (word6 lets).length = lets.length + 1 := by unfold word6; rw [List.length_append]; rfl
theorem text6_len (lets : List Nat) (sum : Int) : (text6 lets sum).length = (word6 lets).length + cut6 lets sum := by
  unfold text6
  rw [List.length_take, flatten3_len]
  have := (cut6_eq lets sum).2
  (first | lia | omega)
theorem letsOf_mem {kinds n : Nat} {σ : Nat → Int} (h1 : 1 ≤ kinds) (h4 : kinds ≤ 4) {c : Nat} (h : c ∈ letsOf kinds n σ) : 97 ≤ c ∧ c ≤ 100 := by
  obtain ⟨p, _, rfl⟩ := List.mem_map.mp h
  have h0 : (0 : Int) ≤ (σ p).fmod kinds := Int.fmod_nonneg_of_pos _ (by (first | lia | omega))
  have h1 : (σ p).fmod kinds < kinds := Int.fmod_lt_of_pos _ (by (first | lia | omega))
  generalize (σ p).fmod kinds = v at h0 h1 ⊢
  obtain ⟨m, rfl⟩ := Int.eq_ofNat_of_zero_le h0
  have hm : m < 4 := by (first | lia | omega)
  rcases m with _ | _ | _ | _ | m <;> first | decide | (first | lia | omega)
theorem text6_mem {lets : List Nat} {sum : Int} (h : ∀ c ∈ lets, 97 ≤ c ∧ c ≤ 100) {c : Nat} (hc : c ∈ text6 lets sum) : 97 ≤ c ∧ c ≤ 100 := by
  have h1 := List.mem_of_mem_take hc
  obtain ⟨l, hl, hcl⟩ := List.mem_flatten.mp h1
  rw [(List.mem_replicate.mp hl).2] at hcl
  rcases List.mem_append.mp hcl with q | q
  · exact h c q
  · rw [List.mem_singleton.mp q]; decide
end Mine
end
section
open PySem PySem.W
namespace Mine
noncomputable abbrev iSM : Nat := 5
noncomputable abbrev aSM : Addr := 242
noncomputable abbrev aMatch : Addr := 135
noncomputable abbrev aInit : Addr := 160
noncomputable abbrev aSeqs : Addr := 167
noncomputable abbrev aSeq1 : Addr := 174
noncomputable abbrev aSeq2 : Addr := 181
noncomputable abbrev aChain : Addr := 188
noncomputable abbrev aFlm : Addr := 196
noncomputable abbrev tBlo : Tok := 465
noncomputable abbrev aMissing : Addr := 247
noncomputable abbrev iReduce : Nat := 8
noncomputable abbrev aReduce : Addr := 255
noncomputable abbrev oInit (P : Params) : Obj := o_160 P
noncomputable abbrev oSeqs (P : Params) : Obj := o_167 P
noncomputable abbrev oSeq1 (P : Params) : Obj := o_174 P
noncomputable abbrev oSeq2 (P : Params) : Obj := o_181 P
noncomputable abbrev oChain (P : Params) : Obj := o_188 P
noncomputable abbrev oFlm (P : Params) : Obj := o_196 P
noncomputable abbrev oReduce (P : Params) : Obj := o_255 P
theorem K_sys (P : Params) : (K P).lookup sysModules ≠ none := by
  have h : ((K P).lookup sysModules).isSome = true := by kernel_rfl
  intro e; rw [e] at h; cases h
end Mine
end
section
open PySem PySem.W PyProof.Rows PySem.Calls PySem.W.X
set_option Elab.async false
set_option linter.unusedVariables false
set_option maxRecDepth 100000
set_option maxHeartbeats 0
namespace Mine
theorem tuple_new_ga {w : World} {s : Shared} {tk : Tok} (X : (K w.params).In s.heap) :
    wpAny (model pw_ w) A0 (call (.builtin "type.__getattribute__") [.type "tuple", .str (S "__new__") tk]) (fun r s' => Keeps s s' ∧ r = .builtin "tuple.__new__") Ff s := by
  x_run
theorem mat_make {w : World} {s : Shared} {a : Addr} {n : Nat} {x y z : Value} (X : (K w.params).In s.heap) (hm : s.heap.get? a = some ⟨.type "tuple", none, .seq #[x, y, z] n, #[]⟩) :
    wpAny (model pw_ w) A0 (call (.builtin "tuple.__new__") [.ref 135, .ref a]) (fun r s' => Keeps s s' ∧ ∃ m dx, r = .ref m ∧ s.heap.get? m = none ∧ s'.heap.get? m = some (matchObj dx x y z)) Ff s := by
  x_run
end Mine
end
section
open PySem PySem.W PyProof.Rows PySem.Calls PySem.SeqAt Builtin
set_option Elab.async false
set_option linter.unusedVariables false
set_option maxRecDepth 100000
namespace Mine
theorem tl_type_ga : typeLookup (.type "type") "__getattribute__" = pure (some (.builtin "type.__getattribute__")) := by rw [typeLookup_type, builtinLookup_eq_fast]; kernel_rfl
theorem bind_type_ga (self : Value) : bindSpecial (.builtin "type.__getattribute__") self = pure (.builtin "type.__getattribute__", [self]) := by kernel_rfl
theorem getAttr_type {M : Model} {A : Around} {E : Value → Shared → Prop} {s : Shared} {v : Value} {name : PySem.Str} {b : Bool} {Q : Value → Shared → Prop} (hT : ∀ s' : Shared, s'.heap = s.heap → s'.TypeIs v "type")
    (h : ∀ tk, wpAny M A (call (.builtin "type.__getattribute__") [v, .str name tk]) (fun r s' => handedOut r = pure r ∧ Q r s') Ff { s with toks := s.toks + 1 }) : wpAny M A (getAttr v name b) Q E s := by
  unfold getAttr
  refine wpAny_bind (wpAny_mkText ?_)
  unfold getAttrBy
  refine wpAny_holding (wpAny_bind (wpAny_typeOf (s := { s with toks := s.toks + 1 }) (hT _ rfl) ?_))
  refine wpAny_bind (wpAny_of_eq tl_type_ga ?_)
  dsimp only
  rw [if_neg (by simp [onTheHeap])]
  unfold getAttrByItsOwn
  refine wpAny_bind (wpAny_of_eq (show hookBefore (.type "type") = pure none from rfl) ?_)
  refine wpAny_bind (wpAny_attempt (wpAny_holding ?_))
  have e : callGetattribute v (.str name s.toks) (.builtin "type.__getattribute__") b = boundAndCalled (.builtin "type.__getattribute__") v (.str name s.toks) := by
    unfold callGetattribute
    rw [if_neg (by cases b <;> simp [onTheHeap])]
  rw [e]
  unfold boundAndCalled
  refine wpAny_bind (wpAny_of_eq (bind_type_ga v) ?_)
  refine ff (wpAny_mono (h s.toks) (fun r s' hq => ?_) fun _ _ x => x)
  exact wpAny_of_eq hq.1 hq.2
theorem made_none {K : Frag} {M : Model} {h : Heap} (X : K.In h) {C : Addr} {oc : Value} {od : Option Addr} {cd : ClassData} {sl : Array (Option Value)} (ho : K.lookup C = some ⟨oc, od, .cls cd, sl⟩) (e : cd.mro.isEmpty = false) (e3 : (sl.toList[4]?).join = some .none) : Looks M h (Bind.madeBy (.ref C)) none := by
  intro A Q E s k q
  have hc : clsIn K C = some cd := by unfold clsIn; rw [ho]
  have hm : Looks M h (mroOf (.ref C)) cd.mro := (looks_clsIn X hc).andThen .now
  obtain ⟨c, l, hl⟩ : ∃ c l, cd.mro = c :: l := by cases q : cd.mro with | nil => rw [q] at e; cases e | cons c l => exact ⟨c, l, rfl⟩
  unfold Bind.madeBy
  refine wpAny_bind (hm A _ E s k ?_)
  rw [hl, List.forIn_cons]
  refine wpAny_bind (wpAny_bind (wpAny_bind (wpAny_bind (wpAny_loadPart (k _ _ (X _ _ ho)) (wpAny_pure ?_)))))
  dsimp only
  rw [← Array.getElem?_toList, e3]
  exact wpAny_pure (wpAny_pure (wpAny_pure q))
theorem oi4_args (a b c d : Value) : argsOk "object.__init__" ⟨[a, b, c, d], []⟩ := by unfold argsOk; kernel_rfl
theorem mat_init {w : World} {A : Around} {s : Shared} {m dx : Addr} {x y z a b c : Value} {E : Value → Shared → Prop} {Q : Value → Shared → Prop} (X : (K w.params).In s.heap) (hm : s.heap.get? m = some (matchObj dx x y z)) (hQ : Q .none s) :
    wpAny (model pw_ w) A (call (.builtin "object.__init__") [.ref m, a, b, c]) Q E s := by
  have ht : Looks (model pw_ w) s.heap (typeOf (.ref m)) (.ref 135) := (Looks.ld hm).andThen .now
  have hn : Looks (model pw_ w) s.heap (Bind.madeBy (.ref 135)) none := made_none X (show (K w.params).lookup 135 = some (o_135 w.params) by kernel_rfl) rfl rfl
  have hs : Looks (model pw_ w) s.heap (isInstance (.ref m) (.type "object")) true := ht.andThen (looks_mroIn X (by kernel_rfl))
  refine wpAny_call (codeAny_call_builtin oi_plain entry_oi (@check_slot (model pw_ w) _ _ s "object.__init__" "object" "__init__" (.ref m) [a, b, c] [] _ oi_kind oi_split hs (oi4_args (.ref m) a b c) ?_))
  unfold Builtin.«object.__init__»
  dsimp only
  rw [if_pos (show (![a, b, c].isEmpty || !([] : List (PySem.Str × Value)).isEmpty) = true from rfl)]
  refine wpAny_bind (ht.here ?_)
  refine wpAny_bind ((looks_findIn (r := some (.builtin "object.__init__")) X (by kernel_rfl)).here ?_)
  refine wpAny_bind (hn.here ?_)
  rw [if_neg (by decide), if_neg (by decide)]
  exact wpAny_pure hQ
section
variable {w : World} {A : Around} {s : Shared} {i j k : Int} {t u v : Tok}
theorem match_new {Q : Value → Shared → Prop} (X : (K w.params).In s.heap) (hA : A.handled = none) (hd : A.depth + 1 ≤ 400) (hu : A.units + 3 ≤ 1000)
    (h : ∀ s₁ : Shared, Keeps s s₁ → wpAny (model pw_ w) (A.under (.builtin "type.__call__" ⟨[.ref 135, .int i t, .int j u, .int k v], []⟩)) (call (.ref 82) [.ref 135, .int i t, .int j u, .int k v])
      (fun r s' => ∃ m dx x y z, r = .ref m ∧ s'.heap.get? m = some (matchObj dx x y z) ∧ (K w.params).In s'.heap ∧ ∀ s'', Keeps s' s'' → Q r s'') Ff s₁) :
    wpAny (model pw_ w) A (call (.ref 135) [.int i t, .int j u, .int k v]) Q Ff s := by
  refine wpAny_call (codeAny_of_tree ?_)
  show wpAny _ _ (callAny (.ref 135) _) _ _ _
  refine nd_load (X _ _ (show (K w.params).lookup 135 = some (o_135 w.params) by kernel_rfl)) ?_
  show wpAny _ _ (callAny.viaDunder (.ref 135) _) _ _ _
  unfold callAny.viaDunder
  refine wpAny_bind ((looks_specialIn (r := some (.builtin "type.__call__")) X (by kernel_rfl)).here ?_)
  dsimp only
  rw [tc_bind]
  refine wpAny_bind (wpAny_pure (wpAny_bind (wpAny_pure ?_)))
  refine wpAny_pure (a := PySem.Fin.again (.call (.builtin "type.__call__") ⟨.ref 135 :: [.int i t, .int j u, .int k v], []⟩)) (And.intro rfl ?_)
  refine codeAny_call_builtin_at (Code.quiet_builtin _ (by decide +kernel)) entry_typeCall (check_slot tc_kind tc_split (looks_instIn (r := true) X (by kernel_rfl)) (tc_args _ _ _) ?_)
  unfold Builtin.«type.__call__»
  have hc : (clsIn (K w.params) 135).map (·.mro) = some [.ref 135, .type "tuple", .type "object"] := by kernel_rfl
  obtain ⟨cd, hc, hr⟩ := Option.map_eq_some_iff.mp hc
  have hm : Looks (model pw_ w) s.heap (mroOf (.ref 135)) [.ref 135, .type "tuple", .type "object"] := by
    rw [← hr]; exact (looks_clsIn X hc).andThen .now
  have hn : Looks (model pw_ w) s.heap (Bind.madeBy (.ref 135)) none := made_none X (show (K w.params).lookup 135 = some (o_135 w.params) by kernel_rfl) rfl rfl
  have a1 : (A.under (.builtin "type.__call__" ⟨[.ref 135, .int i t, .int j u, .int k v], []⟩)).handled = none := hA
  have a2 : (A.under (.builtin "type.__call__" ⟨[.ref 135, .int i t, .int j u, .int k v], []⟩)).depth ≤ 400 := by
    have e1 : (Code.builtin "type.__call__" ⟨[.ref 135, .int i t, .int j u, .int k v], []⟩).weight ≤ 1 := Nat.le_of_ble_eq_true (by kernel_rfl)
    exact Nat.le_trans (Nat.add_le_add_left e1 _) hd
  have a3 : (A.under (.builtin "type.__call__" ⟨[.ref 135, .int i t, .int j u, .int k v], []⟩)).units ≤ 1000 := by
    have e2 : (Code.builtin "type.__call__" ⟨[.ref 135, .int i t, .int j u, .int k v], []⟩).cUnits ≤ 3 := Nat.le_of_ble_eq_true (by kernel_rfl)
    exact Nat.le_trans (Nat.add_le_add_left e2 _) hu
  dsimp only
  refine wpAny_bind (hm.here ?_)
  refine wpAny_bind (hn.here ?_)
  dsimp only
  refine wpAny_bind (cls_bind (mc := .type "type") X (by kernel_rfl) (show findCls (K w.params) (.ref 135) (.type "type") (S "__new__") = some (.get (.builtin "staticmethod.__get__") (.ref 136) .none (.ref 135)) by kernel_rfl) (wpAny_call (sm_get (s := { s with toks := s.toks + 1 }) X (p := 136) (f := .ref 82) (rest := []) (by kernel_rfl) (handed_on rfl ?_))))
  refine wpAny_bind (wpAny_holding (ff (wpAny_mono (h _ (keepsTok s _)) (fun r s₂ hq => ?_) fun _ _ x => x)))
  obtain ⟨m, dx, x, y, z, rfl, e2, X2, hQ⟩ := hq
  refine wpAny_bind ?_
  have ht : Looks (model pw_ w) s₂.heap (typeOf (.ref m)) (.ref 135) := (Looks.ld e2).andThen .now
  have hi : Looks (model pw_ w) s₂.heap (isInstance (.ref m) (.ref 135)) true := ht.andThen (looks_mroIn X2 (by kernel_rfl))
  refine hi.here ?_
  simp only [Bool.not_true, Bool.false_eq_true, if_false]
  refine wpAny_bind ?_
  unfold callSpecial? specialOf
  refine wpAny_holding (wpAny_bind (wpAny_bind ?_))
  refine ht.here ?_
  refine (looks_findIn (r := some (.builtin "object.__init__")) X2 (by kernel_rfl)).here ?_
  dsimp only
  refine wpAny_holding (wpAny_bind (wpAny_of_eq (oi_bind _) ?_))
  refine wpAny_bind (mat_init X2 e2 ?_)
  exact wpAny_pure (wpAny_pure (hQ _ (keepsRefl _)))
end
end Mine
end
section
set_option linter.unusedVariables false
namespace Mine
noncomputable def Lss (g : Nat → Nat) (n : Nat) (t : Bool) (i j : Nat) : Prop :=
  ∃ L, (∀ k, k < L → g (i + k) = g (j + k)) ∧ j + L < n ∧ (i + L = n ∨ (i + L < n ∧ if t then g (j + L) < g (i + L) else g (i + L) < g (j + L)))
section
variable {g : Nat → Nat} {n : Nat} {t : Bool} {i j k : Nat}
theorem Lss.asym (h : Lss g n t i j) (h' : Lss g n t j i) : False := by
  obtain ⟨L, a, b, c⟩ := h
  obtain ⟨M, a', b', c'⟩ := h'
  rcases Nat.lt_trichotomy L M with q | rfl | q
  · have e := a' L q
    rcases c with c | ⟨c1, c2⟩
    · (first | lia | omega)
    · rw [e] at c2; cases t <;> simp at c2
  · rcases c with c | ⟨c1, c2⟩
    · (first | lia | omega)
    · rcases c' with c' | ⟨c3, c4⟩
      · (first | lia | omega)
      · cases t <;> simp at c2 c4 <;> (first | lia | omega)
  · have e := a M q
    rcases c' with c' | ⟨c1, c2⟩
    · (first | lia | omega)
    · rw [e] at c2; cases t <;> simp at c2
theorem Lss.trans (h : Lss g n t i j) (h' : Lss g n t j k) : Lss g n t i k := by
  obtain ⟨L, a, b, c⟩ := h
  obtain ⟨M, a', b', c'⟩ := h'
  rcases Nat.lt_trichotomy L M with q | rfl | q
  · refine ⟨L, fun x hx => (a x hx).trans (a' x (by (first | lia | omega))), by (first | lia | omega), ?_⟩
    rcases c with c | ⟨c1, c2⟩
    · exact .inl c
    · rw [a' L q] at c2; exact .inr ⟨c1, c2⟩
  · refine ⟨L, fun x hx => (a x hx).trans (a' x hx), b', ?_⟩
    rcases c with c | ⟨c1, c2⟩
    · exact .inl c
    · refine .inr ⟨c1, ?_⟩
      rcases c' with c' | ⟨c3, c4⟩
      · (first | lia | omega)
      · cases t <;> simp at c2 c4 ⊢ <;> (first | lia | omega)
  · refine ⟨M, fun x hx => (a x (by (first | lia | omega))).trans (a' x hx), b', ?_⟩
    rcases c' with c' | ⟨c1, c2⟩
    · rcases c with c | ⟨c1, _⟩ <;> (first | lia | omega)
    · rw [← a M q] at c2
      refine .inr ⟨?_, c2⟩
      rcases c with c | ⟨c1, _⟩ <;> (first | lia | omega)
noncomputable def Top (g : Nat → Nat) (n : Nat) (t : Bool) (c : Nat) : Prop := c < n ∧ ∀ j, j < n → j ≠ c → Lss g n t j c
noncomputable def Per (g : Nat → Nat) (n r : Nat) : Prop := ∀ p, p + r < n → g p = g (p + r)
noncomputable def Loc (g : Nat → Nat) (n c r : Nat) : Prop := ∀ p, c ≤ p + r → p < c → p + r < n → g p = g (p + r)
theorem Per.loc {r c : Nat} (h : Per g n r) : Loc g n c r := fun p _ _ h3 => h p h3
theorem Top.long {c r : Nat} (T : Top g n t c) (hr : 1 ≤ r) (h : Loc g n c r) : c < r := by
  refine Nat.lt_of_not_le fun hc => ?_
  have hcn := T.1
  have m := T.2 (c - r) (by (first | lia | omega)) (by (first | lia | omega))
  by_cases q : r ≤ n - c
  · obtain ⟨L, a, b, d⟩ := m
    have d' : c - r + L < n ∧ if t then g (c + L) < g (c - r + L) else g (c - r + L) < g (c + L) := by
      rcases d with d | d
      · (first | lia | omega)
      · exact d
    have hL : r ≤ L := by
      refine Nat.le_of_not_lt fun hL => ?_
      have e := h (c - r + L) (by (first | lia | omega)) (by (first | lia | omega)) (by (first | lia | omega))
      have e2 : c - r + L + r = c + L := by (first | lia | omega)
      rw [e2] at e
      rw [e] at d'
      have := d'.2
      cases t <;> simp at this
    have m2 := T.2 (c + r) (by (first | lia | omega)) (by (first | lia | omega))
    refine m2.asym ⟨L - r, fun k hk => ?_, by (first | lia | omega), .inr ⟨by (first | lia | omega), ?_⟩⟩
    · have e := a (k + r) (by (first | lia | omega))
      have e1 : c - r + (k + r) = c + k := by (first | lia | omega)
      have e2 : c + (k + r) = c + r + k := by (first | lia | omega)
      rw [e1, e2] at e; exact e
    · have e1 : c + r + (L - r) = c + L := by (first | lia | omega)
      have e2 : c + (L - r) = c - r + L := by (first | lia | omega)
      rw [e1, e2]; exact d'.2
  · refine m.asym ⟨n - c, fun k hk => ?_, by (first | lia | omega), .inl (by have := T.1; (first | lia | omega))⟩
    have e := h (c - r + k) (by (first | lia | omega)) (by (first | lia | omega)) (by (first | lia | omega))
    have e2 : c - r + k + r = c + k := by (first | lia | omega)
    rw [e2] at e; exact e.symm
theorem critical {c c' r : Nat} (T : Top g n t c) (T' : Top g n (!t) c') (hcc : c' ≤ c) (hr : 1 ≤ r) (h : Loc g n c r) : Per g n r := by
  have hlt := T.long hr h
  intro p
  induction p using Nat.strongRecOn with
  | ind p ih =>
    intro hp
    by_cases hpc : p < c
    · exact h p (by (first | lia | omega)) hpc hp
    · refine Classical.byContradiction fun hne => ?_
      have m1 := T.2 (c + r) (by (first | lia | omega)) (by (first | lia | omega))
      have m2 := T'.2 (c' + r) (by (first | lia | omega)) (by (first | lia | omega))
      have first : ∀ {u : Bool} {x : Nat}, x ≤ p → Lss g n u (x + r) x → (if u then g p < g (p + r) else g (p + r) < g p) := by
        intro u x hx ⟨L, a, b, d⟩
        have eq : ∀ k, k < p - x → g (x + r + k) = g (x + k) := fun k hk => by
          have := ih (x + k) (by (first | lia | omega)) (by (first | lia | omega))
          rw [this]; congr 1; (first | lia | omega)
        have hL : L = p - x := by
          rcases Nat.lt_trichotomy L (p - x) with q | q | q
          · exfalso
            rcases d with d | ⟨d1, d2⟩
            · (first | lia | omega)
            · rw [eq L q] at d2; cases u <;> simp at d2
          · exact q
          · exfalso
            have := a (p - x) q
            apply hne
            have e1 : x + r + (p - x) = p + r := by (first | lia | omega)
            have e2 : x + (p - x) = p := by (first | lia | omega)
            rw [e1, e2] at this; exact this.symm
        subst hL
        have e1 : x + r + (p - x) = p + r := by (first | lia | omega)
        have e2 : x + (p - x) = p := by (first | lia | omega)
        rw [e1, e2] at d
        rcases d with d | d
        · (first | lia | omega)
        · exact d.2
      have f1 := first (by (first | lia | omega)) m1
      have f2 := first (by (first | lia | omega)) m2
      cases t <;> simp at f1 f2 <;> (first | lia | omega)
end
end Mine
end
section
set_option linter.unusedVariables false
namespace Mine
noncomputable def lcpG (g : Nat → Nat) (n : Nat) : Nat → Nat → Nat → Nat
  | 0, _, _ => 0
  | f + 1, i, j => if i < n ∧ j < n ∧ g i = g j then lcpG g n f (i + 1) (j + 1) + 1 else 0
noncomputable def lcpN (g : Nat → Nat) (n i j : Nat) : Nat := lcpG g n n i j
theorem lcpG_spec (g : Nat → Nat) (n : Nat) : ∀ f i j, (∀ k, k < lcpG g n f i j → i + k < n ∧ j + k < n ∧ g (i + k) = g (j + k)) ∧
    (n ≤ j + f → ¬ (i + lcpG g n f i j < n ∧ j + lcpG g n f i j < n ∧ g (i + lcpG g n f i j) = g (j + lcpG g n f i j)))
  | 0, i, j => ⟨fun k hk => absurd hk (Nat.not_lt_zero _), fun h ⟨_, b, _⟩ => by simp only [lcpG] at b; (first | lia | omega)⟩
  | f + 1, i, j => by
    by_cases q : i < n ∧ j < n ∧ g i = g j
    · rw [lcpG, if_pos q]
      obtain ⟨a, b⟩ := lcpG_spec g n f (i + 1) (j + 1)
      refine ⟨fun k hk => ?_, fun h => ?_⟩
      · cases k with
        | zero => exact q
        | succ k =>
          have := a k (by (first | lia | omega))
          rwa [Nat.add_assoc, Nat.add_comm 1 k, Nat.add_assoc, Nat.add_comm 1 k] at this
      · have := b (by (first | lia | omega))
        rwa [Nat.add_assoc, Nat.add_comm 1, Nat.add_assoc, Nat.add_comm 1] at this
    · rw [lcpG, if_neg q]
      exact ⟨fun k hk => absurd hk (Nat.not_lt_zero _), fun _ => q⟩
noncomputable def laterN (g : Nat → Nat) (n : Nat) (t : Bool) (one two : Nat) : Nat :=
  if two + lcpN g n one two = n then one
  else if (decide (g (one + lcpN g n one two) < g (two + lcpN g n one two)) == t) = true then one else two
noncomputable def cutN (g : Nat → Nat) (n : Nat) (t : Bool) : Nat → Nat
  | 0 => 0
  | k + 1 => laterN g n t (cutN g n t k) (k + 1)
section
variable {g : Nat → Nat} {n : Nat} {t : Bool}
theorem laterN_spec {one two : Nat} (h : one < two) (h2 : two < n) :
    (laterN g n t one two = one ∧ Lss g n t two one) ∨ (laterN g n t one two = two ∧ Lss g n t one two) := by
  obtain ⟨a, b⟩ := lcpG_spec g n n one two
  have b := b (by (first | lia | omega))
  have hle : two + lcpN g n one two ≤ n := by
    rcases Nat.lt_or_ge 0 (lcpN g n one two) with q | q
    · have := a (lcpN g n one two - 1) (by unfold lcpN at *; (first | lia | omega)); (first | lia | omega)
    · (first | lia | omega)
  unfold laterN
  generalize hL : lcpN g n one two = L at *
  have hL' : lcpG g n n one two = L := hL
  rw [hL'] at a b
  by_cases q : two + L = n
  · rw [if_pos q]
    exact .inl ⟨rfl, L, fun k hk => (a k hk).2.2.symm, by (first | lia | omega), .inl q⟩
  · rw [if_neg q]
    have hne : g (one + L) ≠ g (two + L) := fun e => b ⟨by (first | lia | omega), by (first | lia | omega), e⟩
    by_cases q2 : (decide (g (one + L) < g (two + L)) == t) = true
    · rw [if_pos q2]
      refine .inl ⟨rfl, L, fun k hk => (a k hk).2.2.symm, by (first | lia | omega), .inr ⟨by (first | lia | omega), ?_⟩⟩
      cases t <;> simp at q2 ⊢ <;> (first | lia | omega)
    · rw [if_neg q2]
      refine .inr ⟨rfl, L, fun k hk => (a k hk).2.2, by (first | lia | omega), .inr ⟨by (first | lia | omega), ?_⟩⟩
      cases t <;> simp at q2 ⊢ <;> (first | lia | omega)
theorem cutN_spec : ∀ k, k < n → cutN g n t k ≤ k ∧ ∀ j, j ≤ k → j ≠ cutN g n t k → Lss g n t j (cutN g n t k)
  | 0, _ => ⟨Nat.le_refl _, fun j h1 h2 => absurd (Nat.le_zero.mp h1) h2⟩
  | k + 1, h => by
    obtain ⟨h1, h2⟩ := cutN_spec k (by (first | lia | omega))
    rw [cutN]
    rcases laterN_spec (g := g) (t := t) (one := cutN g n t k) (two := k + 1) (by (first | lia | omega)) h with ⟨e, q⟩ | ⟨e, q⟩
    · rw [e]
      refine ⟨by (first | lia | omega), fun j hj hne => ?_⟩
      by_cases z : j = k + 1
      · rw [z]; exact q
      · exact h2 j (by (first | lia | omega)) hne
    · rw [e]
      refine ⟨Nat.le_refl _, fun j hj hne => ?_⟩
      by_cases z : j = cutN g n t k
      · rw [z]; exact q
      · exact (h2 j (by (first | lia | omega)) z).trans q
theorem cutN_top (hn : 1 ≤ n) : Top g n t (cutN g n t (n - 1)) := by
  obtain ⟨h1, h2⟩ := cutN_spec (g := g) (n := n) (t := t) (n - 1) (by (first | lia | omega))
  exact ⟨by (first | lia | omega), fun j hj hne => h2 j (by (first | lia | omega)) hne⟩
theorem law6 {q : Nat} (hn : 1 ≤ n) (hq : 1 ≤ q) (P : Per g n q) (least : ∀ r, 1 ≤ r → r < q → ¬ Per g n r) :
    max (cutN g n false (n - 1)) (cutN g n true (n - 1)) < q ∧ Loc g n (max (cutN g n false (n - 1)) (cutN g n true (n - 1))) q ∧
      ∀ r, 1 ≤ r → r < q → ¬ Loc g n (max (cutN g n false (n - 1)) (cutN g n true (n - 1))) r := by
  have T1 := cutN_top (g := g) (t := false) hn
  have T2 := cutN_top (g := g) (t := true) hn
  rcases Nat.le_total (cutN g n true (n - 1)) (cutN g n false (n - 1)) with c | c
  · rw [Nat.max_eq_left c]
    exact ⟨T1.long hq P.loc, P.loc, fun r h1 h2 h3 => least r h1 h2 (critical T1 T2 c h1 h3)⟩
  · rw [Nat.max_eq_right c]
    exact ⟨T2.long hq P.loc, P.loc, fun r h1 h2 h3 => least r h1 h2 (critical T2 T1 c h1 h3)⟩
end
end Mine
end
section
set_option linter.unusedVariables false
namespace Mine
theorem allSt_junk (alo blo bhi : Int) : ∀ n, (allSt alo blo bhi (fun _ => []) n).bi = alo ∧ (allSt alo blo bhi (fun _ => []) n).bj = blo ∧ (allSt alo blo bhi (fun _ => []) n).bs = 0
  | 0 => ⟨rfl, rfl, rfl⟩
  | n + 1 => allSt_junk alo blo bhi n
section
variable {κ : Type} [DecidableEq κ] {S : κ → Bool} {ks : List κ} {g : Nat → Nat} {f : Nat → κ} {i j : Nat}
theorem same_junk (hS : ∀ k ∈ ks, S k = true) (hk : ∀ p, p < ks.length → ks[p]? = some (f (g p))) (hf : ∀ a b, f a = f b → a = b) {p q : Nat} (hp : p < ks.length) (hq : q < ks.length) :
    same S ks[p]? ks[q]? = decide (g p = g q) := by
  rw [hk p hp, hk q hq]
  have h1 : S (f (g q)) = true := hS _ (List.mem_of_getElem? (hk q hq))
  show (S (f (g q)) && decide (f (g p) = f (g q))) = _
  rw [h1, Bool.true_and]
  exact decide_eq_decide.mpr ⟨hf _ _, fun e => by rw [e]⟩
theorem fwdK_lcp (hS : ∀ k ∈ ks, S k = true) (hk : ∀ p, p < ks.length → ks[p]? = some (f (g p))) (hf : ∀ a b, f a = f b → a = b) :
    ∀ n k, fwdK S ks ks i j ks.length ks.length n k = k + lcpG g ks.length n (i + k) (j + k)
  | 0, k => by rw [fwdK, lcpG, Nat.add_zero]
  | n + 1, k => by
    rw [fwdK, lcpG]
    by_cases c : i + k < ks.length ∧ j + k < ks.length ∧ g (i + k) = g (j + k)
    · rw [if_pos ⟨c.1, c.2.1, by rw [same_junk hS hk hf c.1 c.2.1]; exact decide_eq_true c.2.2⟩, if_pos c, fwdK_lcp hS hk hf n (k + 1)]
      rw [Nat.add_assoc i, Nat.add_assoc j]; (first | lia | omega)
    · rw [if_neg fun d => c ⟨d.1, d.2.1, by have e := d.2.2; rw [same_junk hS hk hf d.1 d.2.1] at e; exact of_decide_eq_true e⟩, if_neg c]
      rfl
theorem lcpG_fuel {n : Nat} : ∀ a b i j, n ≤ i + a ∨ n ≤ j + a → n ≤ i + b ∨ n ≤ j + b → lcpG g n a i j = lcpG g n b i j
  | 0, 0, _, _, _, _ => rfl
  | 0, b + 1, i, j, h, _ => by rw [lcpG, lcpG, if_neg (by (first | lia | omega))]
  | a + 1, 0, i, j, _, h => by rw [lcpG, lcpG, if_neg (by (first | lia | omega))]
  | a + 1, b + 1, i, j, h, h' => by
    rw [lcpG, lcpG]
    split
    · rw [lcpG_fuel a b (i + 1) (j + 1) (by (first | lia | omega)) (by (first | lia | omega))]
    · rfl
theorem flmX_junk (hS : ∀ k ∈ ks, S k = true) (hk : ∀ p, p < ks.length → ks[p]? = some (f (g p))) (hf : ∀ a b, f a = f b → a = b) :
    flmX S ks ks i ks.length j ks.length i j 0 = (i, j, lcpN g ks.length i j) := by
  have no : ∀ x y : Option κ, (∀ c, y = some c → c ∈ ks) → same (fun c => !S c) x y = false := fun x y h => by
    cases x with
    | none => rfl
    | some a =>
      cases y with
      | none => rfl
      | some c =>
        show ((!S c) && _) = false
        rw [hS c (h c rfl)]; rfl
  have h1 : backK (fun c => !S c) ks ks i j i j 0 = (i, j, 0) := back_stop fun h _ => absurd h (Nat.lt_irrefl _)
  have h2 : ∀ n, fwdK (fun c => !S c) ks ks i j ks.length ks.length n 0 = 0 := fun n => fwd_stop fun _ _ => no _ _ fun c e => List.mem_of_getElem? e
  have h3 : backK S ks ks i j i j 0 = (i, j, 0) := back_stop fun h _ => absurd h (Nat.lt_irrefl _)
  unfold flmX
  simp only [h1, h2, h3, Nat.add_zero]
  rw [fwdK_lcp hS hk hf, Nat.zero_add, Nat.add_zero, Nat.add_zero]
  rw [lcpG_fuel _ ks.length i j (by (first | lia | omega)) (by (first | lia | omega))]
  rfl
end
theorem per_iff {g : Nat → Nat} {n r : Nat} (hr : r ≤ n) : Per g n r ↔ lcpN g n 0 r = n - r := by
  obtain ⟨a, b⟩ := lcpG_spec g n n 0 r
  have b := b (by (first | lia | omega))
  have e : lcpG g n n 0 r = lcpN g n 0 r := rfl
  rw [e] at a b
  constructor
  · intro h
    refine Nat.le_antisymm ?_ ?_
    · rcases Nat.lt_or_ge 0 (lcpN g n 0 r) with q | q
      · have := a (lcpN g n 0 r - 1) (by (first | lia | omega)); (first | lia | omega)
      · (first | lia | omega)
    · refine Nat.le_of_not_lt fun q => b ⟨by (first | lia | omega), by (first | lia | omega), ?_⟩
      have := h (0 + lcpN g n 0 r) (by (first | lia | omega))
      rw [this]; congr 1; (first | lia | omega)
  · intro h p hp
    have := a p (by (first | lia | omega))
    rw [Nat.zero_add] at this
    rw [this.2.2]; congr 1; (first | lia | omega)
theorem lcpG_comm {g : Nat → Nat} {n : Nat} : ∀ f i j, lcpG g n f i j = lcpG g n f j i
  | 0, _, _ => rfl
  | f + 1, i, j => by
    rw [lcpG, lcpG, lcpG_comm f (i + 1) (j + 1)]
    by_cases c : i < n ∧ j < n ∧ g i = g j
    · rw [if_pos c, if_pos ⟨c.2.1, c.1, c.2.2.symm⟩]
    · rw [if_neg c, if_neg fun d => c ⟨d.2.1, d.1, d.2.2.symm⟩]
end Mine
end
section
open PySem PySem.W PyProof.Rows PySem.Calls PySem.SeqAt
set_option Elab.async false
set_option linter.unusedVariables false
namespace Mine
section
variable {C : Cc} {vars vars' : DVars} {own own' : DOwn} {Q : Flow → Shared → Prop} {d : D} {ds : List D} {rest body : List Stmt} {pos p' : Pos} {I : Addr}
theorem x_try {h₀ : ExceptHandler} {hs : List ExceptHandler} (k : Ex C vars own body (ContC C rest Q)) : Ex2 C vars own (.Try body (h₀ :: hs) [] [] pos) rest Q := fun g s a => by
  refine wpAny_Try_except (ff (wpAny_mono (k g s a) (fun f s₁ h => ?_) fun _ _ x => x))
  cases f <;> first | exact wpAny_execs_nil h | exact h
noncomputable def OItN (ds : List D) (n : Nat) : Heap → Obj → Prop := fun g o => ∃ l vs, o.cls = .type "list_iterator" ∧ o.data = .fields #[.ref l, .int n 0] ∧ PlainLst g l vs ∧ Reps g vs ds
theorem OItN.mono {n : Nat} : Mono (OItN ds n) := by
  rintro _ _ _ k ⟨l, vs, a, b, c, e⟩
  exact ⟨l, vs, a, b, c.ext k, e.ext k⟩
theorem OItN.walks {I : Addr} {n : Nat} (hh : C.A.handled = none) (hn : n ≤ ds.length) (g : Heap) (s : Shared) (hs : At2 C vars ((I, OItN ds n) :: own) g s) : ∃ l, Walks C.prog C.w C.A I [I, l] [I] (ds.drop n).length (P := fun i v => ∀ d, (ds.drop n)[i]? = some d → Rep g v d) (fun i h => h.IsListIter I l (i + n) ∧ ∃ vs, PlainLst h l vs ∧ vs.length = ds.length ∧ Reps g vs ds) ∧ s.heap.IsListIter I l (0 + n) ∧ (∃ vs, PlainLst s.heap l vs ∧ vs.length = ds.length ∧ Reps g vs ds) ∧ ∃ o, g.get? l = some o := by
  obtain ⟨⟨o, e, l, vs, c1, c2, pl, rr⟩, _, _, hgI⟩ := hs.news _ (.head _)
  have pls := pl.ext hs.sub
  have hne : l ≠ I := fun q => by obtain ⟨n, e'⟩ := pl; rw [q] at e'; exact live_ne hgI e'
  have hlen : (ds.drop n).length = ds.length - n := List.length_drop ..
  have W := Walks.list (prog := C.prog) (w := C.w) hh I l hne vs.toArray
  refine ⟨l, ⟨W.sub, fun i h h' st hk => ?_, fun i s Q E hi st hQ => ?_, fun s Q E st hQ => ?_, fun i s Q E st hQ => ?_⟩, ⟨o, e, c1, by rw [Nat.zero_add]; exact c2⟩, ⟨vs, pls, rr.length, rr⟩, let ⟨n, e'⟩ := pl; ⟨_, e'⟩⟩
  · obtain ⟨a, vs', b, c, d⟩ := st
    exact ⟨a.at fun o e => hk I (by simp) o e, vs', let ⟨n, e'⟩ := b; ⟨n, hk l (by simp) _ e'⟩, c, d⟩
  · obtain ⟨a, vs', b, c, d⟩ := st
    have W' := Walks.list (prog := C.prog) (w := C.w) hh I l hne vs'.toArray
    rw [show vs'.toArray.size = ds.length by rw [List.size_toArray, c]] at W'
    refine W'.item (i + n) s Q E (by (first | lia | omega)) ⟨a, b.isList⟩ fun v h' tk hv hst hk => hQ v h' tk (fun d' hd' => ?_) ⟨by have := hst.1; rwa [Nat.add_right_comm] at this, vs', ?_, c, d⟩ hk
    · rw [List.getElem?_drop, Nat.add_comm] at hd'
      obtain ⟨v', e1, r1⟩ := d.get hd'
      have hv' : vs'.toArray[i + n]? = some v := hv
      simp only [List.getElem?_toArray] at hv'
      rw [hv'] at e1; cases e1
      exact r1
    · obtain ⟨n, e'⟩ := b
      exact ⟨n, hk l _ (by simpa using hne) e'⟩
  · obtain ⟨a, vs', b, c, d⟩ := st
    have W' := Walks.list (prog := C.prog) (w := C.w) hh I l hne vs'.toArray
    rw [show vs'.toArray.size = ds.length by rw [List.size_toArray, c]] at W'
    exact W'.done s Q E ⟨by rw [hlen, show ds.length - n + n = ds.length by (first | lia | omega)] at a; exact a, b.isList⟩ hQ
  · obtain ⟨a, vs', b, c, d⟩ := st
    have W' := Walks.list (prog := C.prog) (w := C.w) hh I l hne vs'.toArray
    exact W'.self (i + n) s Q E ⟨a, b.isList⟩ hQ
theorem EvW.next1 {id : PySem.Str} {a : Expr} (hf : Callee C vars ((I, OIt (d :: ds)) :: own) (.Name id p') (.builtin "next")) (ha : Ev C vars ((I, OIt (d :: ds)) :: own) a (.raw (.ref I))) (he : starEach [a] C.env = [(false, eval a C.env)]) :
    EvW C vars ((I, OIt (d :: ds)) :: own) (.Call (.Name id p') [a] [] pos) (fun _ : Unit => (I, OItN (d :: ds) 1) :: own) (fun _ => d) := fun g s hs => by
  refine wpAny_Call_Name_kw (wmono (hf.load g s hs) fun v s₁ h₁ => ?_)
  obtain ⟨rfl, rfl⟩ := h₁
  have h' := (EvArgs.cons (pos := pos) ha EvArgs.nil he) g s₁ hs
  show wpAny _ _ (callWith pos (.builtin "next") [] (backTo pos (starEach [a] C.env)) []) _ _ _
  rw [he] at h' ⊢
  refine callWith_of (P := fun h => Kp (model C.prog C.w) h (.builtin "next")) rfl (fun _ x => x) (evalArgs_plain (wmono h' fun vs s₂ ⟨g₂, x₂, r₂⟩ => ⟨hf.kp _ _ (hs.grow x₂), ?_⟩))
  have a₂ := hs.grow x₂
  cases r₂ using Reps.eCons with
  | cons r₂ rs =>
  cases rs using Reps.eNil
  cases r₂ using Rep.eRaw
  obtain ⟨⟨o, ho, l, ws, hc, hd, pl, rr⟩, _, _, hgI⟩ := a₂.news _ (.head _)
  have hit : s₂.heap.IsListIter I l 0 := ⟨o, ho, hc, hd⟩
  have pls := pl.ext a₂.sub
  obtain ⟨ol, hol, _, nl, hdl⟩ := pls.isList
  cases rr using Reps.eCons with
  | @cons x xs rx rxs =>
  refine call_function_entry (by decide +kernel) (by decide +kernel) kdk_entry_next (kdk_args_next _) ?_
  unfold Builtin.«next»
  refine wpAny_bind (m := someArgs "next" 1 2 _) (wpAny_of_eq (a := [Value.ref I]) (by first | rfl | kernel_rfl!) ?_)
  dsimp only
  refine wpAny_bind (wpAny_specialOf (name := PySem.Str.ofString "__next__") hit.typeIs slot_listiter_next.lookup ?_)
  refine wpAny_ite_split (fun hab => absurd hab (by decide)) (fun _ => ?_)
  refine wpAny_bind (wpAny_callSpecial?_slot (name := PySem.Str.ofString "__next__") hit.typeIs slot_listiter_next
    (wpAny_call_entry slot_listiter_next hit.typeIs entry_listiter_next ?_ (args_listiter_next _)))
  show wpAny _ _ (field (.ref I) 0 >>= _) _ _ s₂
  refine wpAny_bind (wpAny_field ho hd (x := .ref l) rfl ?_)
  show wpAny _ _ (if (Value.ref l == Value.none) = true then _ else _) _ _ s₂
  rw [if_neg (show ¬ ((Value.ref l == Value.none) = true) from Bool.false_ne_true)]
  show wpAny _ _ (field (.ref I) 1 >>= _) _ _ s₂
  refine wpAny_bind (wpAny_field ho hd (x := .int 0 0) rfl ?_)
  show wpAny _ _ (seqItems? (.ref l) >>= _) _ _ s₂
  refine wpAny_bind (wpAny_seqItems hol hdl ?_)
  have hx : (x :: xs).toArray[(0 : Int).toNat]? = some x := rfl
  simp only [hx]
  refine wpAny_bind (wpAny_setField ho hd (by simp) (wpAny_pure ⟨x, rfl, wpAny_pure ⟨_, rfl, (), g₂, x₂.ext, ?_, rx⟩⟩))
  refine a₂.put .here (fun b o hb e => (Heap.get?_update_other _ _ (Ne.symm hb)).trans e) ⟨_, Heap.get?_update_self _ ho (Obj.isFreed_of_fields (Obj.data_mapFields hd _)), l, x :: xs, (Obj.cls_mapFields ..).trans hc, ?_, pl, .cons rx rxs⟩ OItN.mono
  rw [Obj.data_mapFields hd]; simp [rawInt]
end
end Mine
end
section
open PySem PySem.W PyProof.Rows PySem.Calls PySem.SeqAt
set_option Elab.async false
set_option linter.unusedVariables false
namespace Mine
section
variable {C : Cc}
theorem Reps.mkOf {g : Heap} : ∀ {vs : List Value} {ds : List D}, vs.length = ds.length → (∀ (i : Nat) v d, vs[i]? = some v → ds[i]? = some d → Rep g v d) → Reps g vs ds
  | [], [], _, _ => .nil
  | v :: vs, d :: ds, h, k => .cons (k 0 v d rfl rfl) (Reps.mkOf (by simpa using h) fun i v d h1 h2 => k (i + 1) v d h1 h2)
theorem FnC.listRng {b : Int} (hh : C.A.handled = none) (h0 : 0 ≤ b) (hb : b ≤ 1000000) : FnC C (.type "list") [dRng 0 b] (.lst (dInts (rangeI 0 b))) := fun g s vs f r => by
  cases r using Reps.eCons with
  | cons r rs =>
  cases rs using Reps.eNil
  cases r using Rep.eSp with
  | sp hP hM =>
  obtain ⟨a, t, u, q, rfl, hr⟩ := hP
  have hlen : (rangeI 0 b).length = (b - 0).toNat := rangeI_len 0 b
  refine call_list_range (n := (rangeI 0 b).length) hh (f.sub _ _ hr) (small_one (by (first | lia | omega)) (by (first | lia | omega)) (by (first | lia | omega)) (by (first | lia | omega))) (by rw [rangeSize_one, hlen]; split <;> (first | lia | omega)) (by rw [hlen]; (first | lia | omega)) fun h' tk acc c' hk hS hacc => ?_
  have kp : Keeps s { s with heap := h', toks := tk } := ⟨_, _, rfl, hk⟩
  refine ⟨grow g s { s with heap := h', toks := tk }, Gr.max f.sub kp, .lst (vs := acc.toList) ⟨c', ?_⟩ (Reps.mkOf ?_ fun i v d h1 h2 => ?_)⟩
  · exact grow_new new_none (by rw [Array.toArray_toList]; exact hS)
  · rw [Array.length_toList, hacc.1, List.length_map]
  · rw [dInts, List.getElem?_map, Option.map_eq_some_iff] at h2
    obtain ⟨x, h2, rfl⟩ := h2
    obtain ⟨t', rfl⟩ := hacc.2 i v (by rw [← Array.getElem?_toList]; exact h1)
    unfold rangeI at h2
    rw [List.getElem?_map, Option.map_eq_some_iff] at h2
    obtain ⟨k, hk2, rfl⟩ := h2
    have e : k = i := by
      rw [List.getElem?_eq_some_iff] at hk2
      obtain ⟨_, e⟩ := hk2
      rw [List.getElem_range] at e
      exact e.symm
    subst e
    rw [Int.mul_one]
    exact .int _ _
end
end Mine
end
section
open PySem
set_option linter.unusedVariables false
namespace Mine
theorem eraseIdx_perm {α : Type} : ∀ {l : List α} {i : Nat} {x : α}, l[i]? = some x → l.Perm (x :: l.eraseIdx i)
  | [], i, x, h => by simp at h
  | y :: l, 0, x, h => by simp at h; subst h; exact List.Perm.refl _
  | y :: l, i + 1, x, h => by
    rw [List.getElem?_cons_succ] at h
    rw [List.eraseIdx_cons_succ]
    exact ((eraseIdx_perm h).cons y).trans (List.Perm.swap ..)
theorem pickGo_perm {α : Type} (next : Nat → Nat) : ∀ (n k : Nat) (left : List α) (out : Array α), n = left.length → (pickOrder.go next n k left out).toList.Perm (out.toList ++ left)
  | 0, k, left, out, h => by
    rw [List.length_eq_zero_iff.mp h.symm, List.append_nil]
    exact List.Perm.refl _
  | n + 1, k, left, out, h => by
    unfold pickOrder.go
    have hlt : next k % left.length < left.length := Nat.mod_lt _ (by (first | lia | omega))
    have hx : left[next k % left.length]? = some left[next k % left.length] := List.getElem?_eq_getElem hlt
    rw [hx]
    refine (pickGo_perm next n (k + 1) _ _ (by rw [List.length_eraseIdx, if_pos hlt]; (first | lia | omega))).trans ?_
    rw [Array.toList_push, List.append_assoc]
    exact (eraseIdx_perm hx).symm.append_left _
theorem pickOrder_perm {α : Type} (next : Nat → Nat) (xs : Array α) : (pickOrder next xs).toList.Perm xs.toList := by
  have := pickGo_perm next xs.size 0 xs.toList #[] (by rw [Array.length_toList])
  exact this
section
variable {prog : Program} {w : World} {A : Around} {E : Value → Shared → Prop} {s : Shared}
end
end Mine
end
section
open PySem PySem.W PyProof.Rows PySem.Calls PySem.SeqAt
set_option Elab.async false
set_option linter.unusedVariables false
namespace Mine
theorem relaid_led {t t' : SetTable} {hs : Array Int} {n : Nat} {order : Array Nat} (h : t.relaid hs n = some (t', order)) : t'.led = t.led ∧ t'.plain = t.plain := by
  unfold SetTable.relaid SetTable.laid at h
  cases q : SetTable.layClean (SetTable.sizeAbove n - 1) hs with
  | none => rw [q] at h; cases h
  | some owner => rw [q] at h; cases h; exact ⟨rfl, rfl⟩
theorem orStandIn_led (t : SetTable) (n : Nat) : (t.orStandIn n).led = t.led ∧ (t.plain = false → (t.orStandIn n).plain = false) := by
  unfold SetTable.orStandIn
  split
  · exact ⟨rfl, id⟩
  · exact ⟨rfl, fun _ => rfl⟩
theorem layNew_led (t : SetTable) (es : Array (Int × Value)) (h : Int) (x : Value) : (layNew t es h x).2.1.led = t.led := by
  unfold layNew
  split
  · exact (orStandIn_led _ _).1
  · rfl
theorem relayAll_led (t : SetTable) (es : Array (Int × Value)) (n : Nat) : (relayAll t es n).2.1.led = t.led ∧ (t.plain = false → (relayAll t es n).2.1.plain = false) := by
  unfold relayAll
  split
  · rename_i t' order q
    dsimp only
    obtain ⟨q1, q2⟩ := relaid_led q
    split
    · exact ⟨q1, fun h => q2.trans h⟩
    · exact ⟨rfl, fun _ => rfl⟩
  · exact ⟨rfl, fun _ => rfl⟩
section
variable {prog : Program} {w : World} {κ : Type} [DecidableEq κ] (knd : PySem.KeyKind prog w κ)
inductive KeysL : List (Int × Value) → List κ → Prop
  | nil : KeysL [] []
  | cons {e l k ks} : knd.is k e.2 = true → e.1 = knd.hash k → e.2.scannable = true → KeysL l ks → KeysL (e :: l) (k :: ks)
variable {knd}
theorem KeysL.perm {l l' : List (Int × Value)} (p : l.Perm l') : ∀ {ks : List κ}, KeysL knd l ks → ∃ ks', KeysL knd l' ks' ∧ ks.Perm ks' := by
  induction p with
  | nil => intro ks h; exact ⟨ks, h, .refl _⟩
  | cons x _ ih =>
    intro ks h
    cases h with
    | cons h1 h2 h3 h =>
      obtain ⟨ks', h', p⟩ := ih h
      exact ⟨_, .cons h1 h2 h3 h', p.cons _⟩
  | swap x y l =>
    intro ks h
    cases h with
    | cons h1 h2 h3 h =>
      cases h with
      | cons g1 g2 g3 h => exact ⟨_, .cons g1 g2 g3 (.cons h1 h2 h3 h), .swap ..⟩
  | trans _ _ ih1 ih2 =>
    intro ks h
    obtain ⟨k1, h1, p1⟩ := ih1 h
    obtain ⟨k2, h2, p2⟩ := ih2 h1
    exact ⟨k2, h2, p1.trans p2⟩
theorem KeysL.push {l : List (Int × Value)} {ks : List κ} {k : κ} {x : Value} (h : KeysL knd l ks) (hk : knd.is k x = true) (hx : x.scannable = true) : KeysL knd (l ++ [(knd.hash k, x)]) (ks ++ [k]) := by
  induction h with
  | nil => exact .cons hk rfl hx .nil
  | cons h1 h2 h3 _ ih => exact .cons h1 h2 h3 ih
theorem KeysL.len {l : List (Int × Value)} {ks : List κ} (h : KeysL knd l ks) : l.length = ks.length := by
  induction h with
  | nil => rfl
  | cons _ _ _ _ ih => simp [ih]
theorem KeysL.elems {l : List (Int × Value)} {ks : List κ} (h : KeysL knd l ks) : ElemsOf knd l := by
  induction h with
  | nil => intro e he; cases he
  | @cons e l k ks h1 h2 h3 _ ih =>
    intro e' he
    rcases List.mem_cons.mp he with rfl | he
    · exact ⟨⟨k, h1, h2⟩, h3⟩
    · exact ih e' he
theorem KeysL.mem {l : List (Int × Value)} {ks : List κ} (h : KeysL knd l ks) (k : κ) : k ∈ ks ↔ ∃ e ∈ l, knd.is k e.2 = true := by
  induction h with
  | nil => simp
  | @cons e l k' ks h1 h2 h3 _ ih =>
    rw [List.mem_cons, ih]
    constructor
    · rintro (rfl | ⟨e', he, q⟩)
      · exact ⟨e, .head _, h1⟩
      · exact ⟨e', .tail _ he, q⟩
    · rintro ⟨e', he, q⟩
      rcases List.mem_cons.mp he with rfl | he
      · exact .inl (knd.inj _ _ _ q h1)
      · exact .inr ⟨e', he, q⟩
theorem KeysL.get {l : List (Int × Value)} {ks : List κ} (h : KeysL knd l ks) {i : Nat} {e : Int × Value} (he : l[i]? = some e) : ∃ k, ks[i]? = some k ∧ knd.is k e.2 = true := by
  induction h generalizing i with
  | nil => cases he
  | @cons e' l k ks h1 h2 h3 _ ih =>
    cases i with
    | zero => simp at he; subst he; exact ⟨k, rfl, h1⟩
    | succ i => simp at he; simpa using ih he
noncomputable def SetT (ks : List κ) (o : Obj) : Prop := o.ExactSet ∧ ∃ es ep t ks', o.data = .set es ep t ∧ KeysL knd es.toList ks' ∧ ks'.Perm ks ∧ t.fits es.size = true ∧ (!w.params.followText "set-order") = t.led ∧ (ks ≠ [] → t.plain = false)
theorem SetT.setOf {h : Heap} {a : Addr} {o : Obj} {ks : List κ} (x : SetT (knd := knd) ks o) (ho : h.get? a = some o) (hb : ks.length < scanBound) : h.SetOf knd a (fun k => decide (k ∈ ks)) ks.length := by
  obtain ⟨hx, es, ep, t, ks', hd, hk, hp, hf, _, _⟩ := x
  have hl : es.size = ks.length := by rw [← Array.length_toList, hk.len, hp.length_eq]
  exact ⟨o, es, ep, t, ho, hx, hd, hk.elems, fun k => by rw [decide_eq_true_eq, ← hp.mem_iff, hk.mem], by (first | lia | omega), hf, hl⟩
noncomputable def OSetT (knd : PySem.KeyKind prog w κ) (ks : List κ) : Heap → Obj → Prop := fun _ o => SetT (knd := knd) ks o
theorem OSetT.mono {ks : List κ} : Mono (OSetT knd ks) := fun _ _ _ _ h => h
theorem OSetT.fresh (g : Heap) : OSetT knd [] g (emptySet w) := ⟨⟨rfl, rfl, rfl⟩, #[], 0, _, [], rfl, .nil, .refl _, rfl, rfl, fun h => (h rfl).elim⟩
variable {A : Around} {E : Value → Shared → Prop} {s : Shared}
theorem setT_store {h : Heap} {a : Addr} {o : Obj} {es : Array (Int × Value)} {ep : Nat} {t : SetTable} (ho : h.get? a = some o) (hd : o.data = .set es ep t) (es' : Array (Int × Value)) (t' : SetTable) :
    (h.update a (Obj.putSet es' t')).get? a = some { o with data := .set es' (ep + 1) t' } := by
  have := Heap.get?_update_self (Obj.putSet es' t') ho (by rw [putSet_of es' t' hd]; rfl)
  rwa [putSet_of es' t' hd] at this
theorem add_stores {a : Addr} {o : Obj} {es es1 : Array (Int × Value)} {ep : Nat} {t t1 : SetTable} {ks ks0 : List κ} {m2 : Bool → Sem Unit} {R : Option Bool → Shared → Prop} {again : Bool}
    (hm2 : ∀ (b : Bool) (s₁ : Shared) (Q' : Unit → Shared → Prop), Q' () s₁ → wpAny (model prog w) A (m2 b) Q' E s₁)
    (ho : s.heap.get? a = some o) (hx : o.ExactSet) (hd : o.data = .set es ep t) (hk : KeysL knd es1.toList ks0) (hp : ks0.Perm ks) (hf : t1.fits es1.size = true) (hl : (!w.params.followText "set-order") = t1.led) (hpl : t1.plain = false) (hb : ks.length < scanBound)
    (h : ∀ h', Heap.SameBut a s.heap h' → (∃ o', h'.get? a = some o' ∧ SetT (knd := knd) ks o') → R (some true) { s with heap := h' }) :
    wpAny (model prog w) A (do
        storeSet a es1 t1
        if again = true then do
            m2 (relayAll t1 es1 (SetTable.grown es1.size)).2.2
            storeSet a (relayAll t1 es1 (SetTable.grown es1.size)).1 (relayAll t1 es1 (SetTable.grown es1.size)).2.1
            pure (some true)
          else pure (some true)) R E s := by
  have hsz : es1.size = ks.length := by rw [← Array.length_toList, hk.len, hp.length_eq]
  have fits : es1.size ≤ sizeLine := fits_of_scanBound (by (first | lia | omega))
  refine wpAny_bind (wpAny_storeSet_of ho hd ?_ fits)
  have ho1 := setT_store ho hd es1 t1
  cases again with
  | false => exact wpAny_pure (h _ (Heap.SameBut.update s.heap a _) ⟨_, ho1, hx, es1, _, t1, ks0, rfl, hk, hp, hf, hl, fun _ => hpl⟩)
  | true =>
    rw [if_pos rfl]
    refine wpAny_bind (hm2 _ _ _ ?_)
    have hp2 := relayAll_perm t1 es1 (SetTable.grown es1.size)
    obtain ⟨ks2, hk2, p2⟩ := KeysL.perm hp2.symm hk
    have hsz2 : (relayAll t1 es1 (SetTable.grown es1.size)).1.size = es1.size := by rw [← Array.length_toList, hp2.length_eq, Array.length_toList]
    refine wpAny_bind (wpAny_storeSet_of ho1 rfl ?_ (by rw [hsz2]; exact fits))
    have ho2 := setT_store ho1 rfl (relayAll t1 es1 (SetTable.grown es1.size)).1 (relayAll t1 es1 (SetTable.grown es1.size)).2.1
    obtain ⟨l1, l2⟩ := relayAll_led t1 es1 (SetTable.grown es1.size)
    exact wpAny_pure (h _ ((Heap.SameBut.update s.heap a _).trans (Heap.SameBut.update _ a _)) ⟨_, ho2, hx, _, _, _, ks2, rfl, hk2, p2.symm.trans hp, relayAll_fits t1 es1 _, hl.trans l1.symm, fun _ => l2 hpl⟩)
theorem wpAny_setAddT {a : Addr} {o : Obj} {ks : List κ} {k : κ} {x : Value} {Q : Bool → Shared → Prop} (hkey : knd.is k x = true) (hsc : x.scannable = true) (hnp : plainKind x = false) (ho : s.heap.get? a = some o) (hS : SetT (knd := knd) ks o) (hroom : ks.length + 1 < scanBound)
    (h : ∀ b h', Heap.SameBut a s.heap h' → (∃ o', h'.get? a = some o' ∧ SetT (knd := knd) (if k ∈ ks then ks else ks ++ [k]) o') → Q b { s with heap := h' }) :
    wpAny (model prog w) A (setAddHashed a x (knd.hash k)) Q E s := by
  obtain ⟨hx, es, ep, t, ks', hd, hk, hp, hf, hl, hpl⟩ := id hS
  have hsz : es.size = ks.length := by rw [← Array.length_toList, hk.len, hp.length_eq]
  have hb : es.size < scanBound := by (first | lia | omega)
  unfold setAddHashed setAddHashedIn
  refine wpAny_holding (wpAny_bind (wpAny_setState_of ho hd hf ?_))
  dsimp only
  rw [byScan_of hsc hb hk.elems, if_pos rfl]
  unfold setAddByScan
  refine wpAny_bind (wpAny_bind (wpAny_rule (wpAny_bind (wpAny_setScan_of hkey ho hd hf hk.elems ?_))))
  cases hr : List.findIdx? (fun e => knd.is k e.2) es.toList with
  | some j =>
    obtain ⟨hj, hpj, _⟩ := List.findIdx?_eq_some_iff_getElem.mp hr
    have hin : k ∈ ks := hp.mem_iff.mp ((hk.mem k).mpr ⟨_, List.getElem_mem hj, hpj⟩)
    have := h false s.heap (Heap.SameBut.refl a s.heap) ⟨o, ho, by rw [if_pos hin]; exact hS⟩
    exact wpAny_pure (wpAny_pure this)
  | none =>
    have hno : k ∉ ks := fun hin => by
      obtain ⟨e, he, q⟩ := (hk.mem k).mp (hp.mem_iff.mpr hin)
      have := List.findIdx?_eq_none_iff.mp hr e he
      rw [q] at this; cases this
    have hperm := layNew_perm t es (knd.hash k) x
    have hfits := layNew_fits t es (knd.hash k) x
    have hled := layNew_led t es (knd.hash k) x
    generalize layNew t es (knd.hash k) x = L at hperm hfits hled
    obtain ⟨es1, t1, wd, gave⟩ := L
    dsimp only at hperm hfits hled ⊢
    rw [Array.toList_push] at hperm
    obtain ⟨ks1, hk1, p1⟩ := KeysL.perm hperm.symm (hk.push hkey hsc)
    have hg : ∀ (b : Bool) (s₁ : Shared) (Q' : Unit → Shared → Prop), Q' () s₁ → wpAny (model prog w) A (match b with | true => rule "set.scan.the-table-gave-way" | false => pure ()) Q' E s₁ :=
      fun b s₁ Q' hq => by cases b <;> first | exact wpAny_pure hq | exact wpAny_rule hq
    have hend : ∀ (t2 : SetTable), t2.fits es1.size = true → t2.led = t1.led → t2.plain = false → wpAny (model prog w) A (do
        storeSet a es1 t2
        if (!wd && t2.tooFull) = true then do
            (fun b : Bool => match b with | true => rule "set.scan.the-table-gave-way" | false => pure ()) (relayAll t2 es1 (SetTable.grown es1.size)).2.2
            storeSet a (relayAll t2 es1 (SetTable.grown es1.size)).1 (relayAll t2 es1 (SetTable.grown es1.size)).2.1
            pure (some true)
          else pure (some true)) (fun r s' => wpAny (model prog w) A (match r with | some added => pure added | none => setAddHashedIn a x (knd.hash k) 99999) Q E s') E s := fun t2 f2 l2 pl2 =>
      add_stores (knd := knd) (ks := ks ++ [k]) (ks0 := ks1) hg ho hx hd hk1 (p1.symm.trans (hp.append_right _)) f2 (hl.trans (hled.symm.trans l2.symm)) pl2 (by rw [List.length_append]; exact hroom) fun h' sb hS' => by
        refine wpAny_pure (h true h' sb ?_)
        rw [if_neg hno]; exact hS'
    refine wpAny_bind (hg _ _ _ ?_)
    cases hp1 : t1.plain with
    | true =>
      rw [if_pos rfl]
      refine wpAny_bind ?_
      rw [hashByValue_scannable 8 hsc, hnp]
      refine wpAny_pure ?_
      exact hend { t1 with plain := false } (SetTable.fits_plain_off hfits) rfl rfl
    | false =>
      rw [if_neg (by simp)]
      refine wpAny_bind (wpAny_pure ?_)
      exact hend t1 hfits rfl hp1
end
section
variable {prog : Program} {w : World} {κ : Type} [DecidableEq κ] {knd : PySem.KeyKind prog w κ} {A : Around} {E : Value → Shared → Prop} {s : Shared}
theorem call_addT {a : Addr} {o : Obj} {ks : List κ} {k : κ} {key : Value} {Q : Value → Shared → Prop} (hkey : knd.is k key = true) (hsc : key.scannable = true) (hnp : plainKind key = false) (ho : s.heap.get? a = some o) (hS : SetT (knd := knd) ks o) (hroom : ks.length + 1 < scanBound)
    (h : ∀ h', Heap.SameBut a s.heap h' → (∃ o', h'.get? a = some o' ∧ SetT (knd := knd) (if k ∈ ks then ks else ks ++ [k]) o') → Q .none { s with heap := h', toks := s.toks + 1 }) :
    wpAny (model prog w) A (call (.builtin "set.add") [.ref a, key]) Q E s := by
  refine wpAny_call_entry F.slot_set_add ⟨o, ho, hS.1.1⟩ F.entry_set_add ?_ (F.args_set_add_2 _ _)
  unfold Builtin.«set.add» Builtin.Frozenset.oneOther
  simp only [List.isEmpty_nil, bind_assoc]
  unfold Builtin.Frozenset.addrOf setAdd
  refine wpAny_bind (wpAny_pure (wpAny_bind (wpAny_pure (wpAny_bind (wpAny_holding (wpAny_bind (knd.pyHash hkey ?_)))))))
  refine wpAny_setAddT (s := { s with toks := s.toks + 1 }) hkey hsc hnp ho hS hroom fun b h' sb hS' => ?_
  exact wpAny_pure ⟨_, rfl, h h' sb hS'⟩
end
section
variable {C : Cc} {vars vars' vars'' : DVars} {own own' own'' : DOwn} {Q : Flow → Shared → Prop} {d : D} {rest : List Stmt} {e : Expr} {pos p' : Pos}
variable {κ : Type} [DecidableEq κ] {knd : PySem.KeyKind C.prog C.w κ}
theorem x_addT {o : Expr} {apos : Pos} {a : Addr} {ks : List κ} {k : κ} (m : MethOk C "set" "set.add" "add" o [e] apos p') (ho : Ev C vars own o (.raw (.ref a))) (hm : (a, OSetT knd ks) ∈ own) (hv : Ev C vars own e d) (hk : ∀ g v, Rep g v d → knd.is k v = true ∧ v.scannable = true ∧ plainKind v = false)
    (u : DPut a (OSetT knd (if k ∈ ks then ks else ks ++ [k])) own own') (hl : ks.length + 1 < scanBound) (kk : Ex C vars own' rest Q)
    (he : starEach [e] C.env = [(false, eval e C.env)]) (hi : interactive C.env = false) (hw : swapsWith (.Call (.Attribute o "add" apos) [e] [] p') none pos.line C.env = pure false) :
    Ex2 C vars own (.Expr (.Call (.Attribute o "add" apos) [e] [] p') pos) rest Q := fun g s hs => by
  refine wpAny_Expr (wpAny_Call_method m.c1 m.c2 m.c3 m.pa m.slot m.hty (ho.run hs fun ov g₁ s₁ x₁ a₁ r₁ => ?_)) hi hw
  cases r₁ using Rep.eRaw
  obtain ⟨o₁, e₁, q₁⟩ := a₁.known (.inl hm)
  refine ⟨⟨_, e₁, q₁.1.1⟩, fun a q => by cases q; exact ⟨_, e₁, q₁.1.2.1⟩, wpAny_args a₁ (EvArgs.cons hv EvArgs.nil he) he rfl fun ws g₂ s₂ x₂ a₂ r₂ => ?_⟩
  cases r₂ using Reps.eCons with
  | cons r₂ rs =>
    cases rs using Reps.eNil
    obtain ⟨o₂, e₂, q₂⟩ := a₂.known (.inl hm)
    obtain ⟨k1, k2, k3⟩ := hk _ _ r₂
    refine call_addT k1 k2 k3 e₂ q₂ hl fun h' sb hS' => ?_
    exact kk g₂ _ (a₂.put (t := s₂.toks + 1) u (fun b o hb e => (sb.2 b hb).trans e) hS' OSetT.mono)
end
end Mine
end
section
open PySem PySem.W PyProof.Rows PySem.Calls PySem.SeqAt
set_option Elab.async false
set_option linter.unusedVariables false
namespace Mine
structure Wk (prog : Program) (w : World) (A : Around) (I : Addr) (fp wr : List Addr) (n : Nat) (P : Nat → Value → Prop) (St : Nat → Heap → Prop) : Prop where
  sub : ∀ b ∈ wr, b ∈ fp
  item : ∀ i (s : Shared) (Q : Option Value → Shared → Prop) (E : Value → Shared → Prop), i < n → St i s.heap →
    (∀ v h' tk, P i v → St (i + 1) h' → (∀ b o, b ∉ wr → s.heap.get? b = some o → h'.get? b = some o) → Q (some v) { s with heap := h', toks := tk }) → wpAny (model prog w) A (pyNext (.ref I)) Q E s
  done : ∀ (s : Shared) (Q : Option Value → Shared → Prop) (E : Value → Shared → Prop), St n s.heap →
    (∀ h' tk, (∀ b o, b ∉ wr → s.heap.get? b = some o → h'.get? b = some o) → Q none { s with heap := h', toks := tk }) → wpAny (model prog w) A (pyNext (.ref I)) Q E s
structure ItOkO (C : Cc) (bd : Addr) (ob : Obj) (ds : List D) (g : Heap) (s : Shared) (g₂ : Heap) (s₂ : Shared) (I : Addr) (fp wr : List Addr) (P : Nat → Value → Prop) (It : Nat → Heap → Prop) : Prop where
  W : Wk C.prog C.w C.A I (bd :: fp) wr ds.length P (fun i h => It i h ∧ h.get? bd = some ob)
  frame : ∀ i h h', It i h → (∀ b ∈ fp, ∀ o, h.get? b = some o → h'.get? b = some o) → It i h'
  bdw : bd ∉ wr
  gr : Gr g s g₂ s₂
  item : ∀ i v d, ds[i]? = some d → P i v → Rep g₂ v d
  st : It 0 s₂.heap
  fpn : ∀ b ∈ fp, (∃ o, g₂.get? b = some o) ∨ s.heap.get? b = none
  fpl : ∀ b ∈ fp, ∃ o, s₂.heap.get? b = some o
  wrn : ∀ b ∈ wr, g₂.get? b = none ∧ s.heap.get? b = none
  live : ∀ i h, It i h → ∀ b ∈ wr, ∃ o, h.get? b = some o
  go : ∀ target i s' v (Q' : Unit → Shared → Prop), It i s'.heap → Q' () s' → wpAny (model C.prog C.w) C.A (letOwnedTupleGo target (.ref I) v) Q' Ff s'
noncomputable abbrev Just (ob : Obj) : Heap → Obj → Prop := fun _ o => o = ob
section
variable {C : Cc} {vars vars' vars'' : DVars} {own own' own'' : DOwn} {Q : Flow → Shared → Prop} {d d₁ d₂ : D} {ds : List D} {rest : List Stmt} {e l r : Expr} {pos p' : Pos} {x : PySem.Str} {g g' : Heap} {s s' : Shared}
theorem x_forO {α σ : Type} {target iter : Expr} {body : List Stmt} {bd : Addr} {PO : Heap → Obj → Prop} (da : α → List D) (ok : α → Prop) (hPO : Mono PO) (hfree : ∀ g g' o, PO g o → PO g' o)
    (hit : ∀ ob g s, At2 C vars ((bd, Just ob) :: own) g s → PO g ob → wpAny (model C.prog C.w) C.A (eval iter C.env) (fun v s₁ => wpAny (model C.prog C.w) C.A (pyIter v) (fun it s₂ => ∃ a g₂ I fp wr P It, ok a ∧ it = .ref I ∧ ItOkO C bd ob (da a) g s g₂ s₂ I fp wr P It) Ff s₁) Ff s)
    (vs : α → Nat → σ → DVars) (os : α → Nat → σ → DOwn) (F : α → Nat → σ → Prop) (z₀ : σ)
    (h0 : ∀ a, ok a → F a 0 z₀) (hv : ∀ a, ∀ p ∈ vs a 0 z₀, p ∈ vars) (ho : ∀ a, DW own (os a 0 z₀))
    (turn : ∀ ob s₀ gb, Sub C { C with s₀ := s₀, gb := gb } → ∀ a, ok a → ∀ i z d, (da a)[i]? = some d → F a i z → Turn1 { C with s₀ := s₀, gb := gb } (vs a i z) ((bd, Just ob) :: os a i z) target d body (TurnD { C with s₀ := s₀, gb := gb } (vs a (i + 1)) (fun z => (bd, Just ob) :: os a (i + 1) z) (F a (i + 1)) (ContC C rest Q)))
    (k : ∀ a, ok a → ∀ z, F a (da a).length z → Ex C (vs a (da a).length z) ((bd, PO) :: os a (da a).length z) rest Q) (hf : ∀ x, foldedSetIterable iter C.env x = pure x) :
    Ex2 C vars ((bd, PO) :: own) (.For target iter body [] pos) rest Q := fun g s hs => by
  obtain ⟨ob, hob, qob⟩ := (hs.news _ (.head _)).1
  have hsJ : At2 C vars ((bd, Just ob) :: own) g s := hs.put (h' := s.heap) (t := s.toks) .here (fun _ _ _ e => e) ⟨ob, hob, rfl⟩ (fun _ _ _ _ h => h)
  refine wpAny_For (wmono (hit ob g s hsJ qob) fun v s₁ h₁ => wmono h₁ fun it s₂ h₂ => ?_) hf
  obtain ⟨a, g₂, I, fp, wr, P, It, hok, rfl, X⟩ := h₂
  have hs₁ := hsJ.weak (.same (ho a))
  have hs₂ : At2 C (vs a 0 z₀) ((bd, Just ob) :: os a 0 z₀) g₂ s₂ := (hs₁.grow X.gr).forget (hv a)
  have wsub : ∀ b ∈ wr, b ∈ fp := fun b hb => by
    rcases List.mem_cons.mp (X.W.sub b hb) with rfl | h
    · exact absurd hb X.bdw
    · exact h
  have wr0 : ∀ b ∈ wr, C.s₀.heap.get? b = none := fun b hb => by
    cases q : C.s₀.heap.get? b with
    | none => rfl
    | some o => exact (live_ne (X.wrn b hb).2 (keepsExt hs.gr.keeps _ _ q)).elim
  have fp0 : ∀ b ∈ fp, b ≠ C.env.locals ∧ b ∉ ((bd, Just ob) :: os a 0 z₀).map (·.1) := fun b hb => by
    constructor
    · intro q
      rcases X.fpn b hb with ⟨o, e⟩ | h
      · rw [q] at e; exact live_ne hs₂.frn.2 e
      · obtain ⟨o, e⟩ := hs.L_live
        rw [q] at h; exact live_ne h e
    · intro q
      obtain ⟨p, hp, rfl⟩ := List.mem_map.mp q
      rcases X.fpn p.1 hb with ⟨o, e⟩ | h
      · exact live_ne (hs₂.news p hp).2.2.2 e
      · obtain ⟨⟨o, e, _⟩, _⟩ := hs₁.news p hp
        exact live_ne h e
  have here : ∀ {own g s}, At2 C vars own g s → True := fun _ => trivial
  have bdat : ∀ {C' : Cc} {vars own g s}, At2 C' vars ((bd, Just ob) :: own) g s → s.heap.get? bd = some ob := fun h => by
    obtain ⟨⟨o, e, q⟩, _⟩ := h.news _ (.head _)
    have q' : o = ob := q
    rw [← q']; exact e
  refine codeAny_forLoop_any (fun k s' => ∃ i z g', k = (da a).length - i ∧ i ≤ (da a).length ∧ F a i z ∧ At2 C (vs a i z) ((bd, Just ob) :: os a i z) g' s' ∧ Ext g₂ g' ∧ It i s'.heap ∧ (∀ b ∈ fp, b ≠ C.env.locals ∧ b ∉ ((bd, Just ob) :: os a i z).map (·.1) ∧ ∃ o, s'.heap.get? b = some o) ∧ ∀ b ∈ wr, g'.get? b = none) ?_ (da a).length
    ⟨0, z₀, g₂, rfl, Nat.zero_le _, h0 a hok, hs₂, fun _ _ e => e, X.st, fun b hb => ⟨(fp0 b hb).1, (fp0 b hb).2, X.fpl b hb⟩, fun b hb => (X.wrn b hb).1⟩
  rintro k' s' ⟨i, z, g', rfl, hi, hF, hs', he, hst, hfp, hwr⟩
  have hwr' : ∀ b ∈ wr, C.s₀.heap.get? b = none ∧ g'.get? b = none ∧ b ≠ C.env.locals ∧ b ∉ ((bd, Just ob) :: os a i z).map (·.1) := fun b hb => ⟨wr0 b hb, hwr b hb, (hfp b (wsub b hb)).1, (hfp b (wsub b hb)).2.1⟩
  by_cases hlt : i < (da a).length
  · refine ff (X.W.item i s' _ Ff hlt ⟨hst, bdat hs'⟩ fun v h' tk hv hst' hk' => ?_)
    refine ff (X.go _ _ _ _ _ hst'.1 ?_)
    have a₁ : At2 C (vs a i z) ((bd, Just ob) :: os a i z) g' { s' with heap := h', toks := tk } := hs'.hid hk' hwr'
    have hd : (da a)[i]? = some (da a)[i] := List.getElem?_eq_getElem hlt
    have hr : Rep g' v (da a)[i] := (X.item i v _ hd hv).ext he
    have hlive : ∀ b ∈ fp, ∃ o, h'.get? b = some o := fun b hb => by
      by_cases q : b ∈ wr
      · exact X.live _ _ hst'.1 b q
      · obtain ⟨_, _, o, e⟩ := hfp b hb
        exact ⟨o, hk' b o q e⟩
    obtain ⟨tv, to, ha, hx⟩ := turn ob _ _ a₁.subC a hok i z _ hd hF
    refine wmono (ha g' _ v a₁.reb hr) fun _ s₃ ⟨g₃, x₃, a₃⟩ => ?_
    refine wmono (hx g₃ s₃ a₃) fun f s₄ h₄ => ?_
    have fin : ∀ z' g₄, F a (i + 1) z' → At2 { C with s₀ := Mine.reb C ((bd, Just ob) :: os a i z) g' { s' with heap := h', toks := tk }, gb := g' } (vs a (i + 1) z') ((bd, Just ob) :: os a (i + 1) z') g₄ s₄ → ∃ m, m < (da a).length - i ∧ ∃ i z g', m = (da a).length - i ∧ i ≤ (da a).length ∧ F a i z ∧ At2 C (vs a i z) ((bd, Just ob) :: os a i z) g' s₄ ∧ Ext g₂ g' ∧ It i s₄.heap ∧ (∀ b ∈ fp, b ≠ C.env.locals ∧ b ∉ ((bd, Just ob) :: os a i z).map (·.1) ∧ ∃ o, s₄.heap.get? b = some o) ∧ ∀ b ∈ wr, g'.get? b = none := fun z' g₄ hF' a₄ => by
      have lv : ∀ b ∈ fp, ∀ o, h'.get? b = some o → (Mine.reb C ((bd, Just ob) :: os a i z) g' { s' with heap := h', toks := tk }).heap.get? b = some o := fun b hb o e => by
        show (hide _ h').get? b = some o
        rw [get?_hide, if_neg]
        · exact e
        · intro q
          have q' : b ∈ C.env.locals :: ((bd, Just ob) :: os a i z).map (·.1) := by simpa using q
          rcases List.mem_cons.mp q' with q' | q'
          · exact (hfp b hb).1 q'
          · exact (hfp b hb).2.1 q'
      refine ⟨(da a).length - (i + 1), by (first | lia | omega), i + 1, z', g₄, rfl, hlt, hF', a₁.subC.at2 a₄, Ext.trans he a₄.gr.ext, ?_, fun b hb => ?_, fun b hb => ?_⟩
      · exact X.frame _ _ _ hst'.1 fun b hb o e => keepsExt a₄.gr.keeps _ _ (lv b hb o e)
      · obtain ⟨o, e⟩ := hlive b hb
        refine ⟨(hfp b hb).1, fun q => ?_, o, keepsExt a₄.gr.keeps _ _ (lv b hb o e)⟩
        obtain ⟨p, hp, rfl⟩ := List.mem_map.mp q
        exact live_ne (a₄.news p hp).2.2.1 (lv _ hb o e)
      · cases q : g₄.get? b with
        | none => rfl
        | some o =>
          rcases a₄.gr.new b o q with h | h
          · exact (live_ne (hwr b hb) h).elim
          · obtain ⟨o', e'⟩ := hlive b (wsub b hb)
            exact (live_ne h (lv b (wsub b hb) o' e')).elim
    cases f with
    | next => obtain ⟨z', g₄, hF', a₄⟩ := h₄; exact fin z' g₄ hF' a₄
    | cont => obtain ⟨z', g₄, hF', a₄⟩ := h₄; exact fin z' g₄ hF' a₄
    | brk => exact h₄
    | ret v => exact h₄
  · obtain rfl : i = (da a).length := by (first | lia | omega)
    refine ff (X.W.done s' _ Ff ⟨hst, bdat hs'⟩ fun h' tk hk' => ?_)
    refine wpAny_execs_nil ?_
    have a₁ := hs'.hid (t := tk) hk' hwr'
    refine k a hok z hF g' _ (a₁.put (h' := h') (t := tk) .here (fun _ _ _ e => e) ⟨ob, bdat a₁, hfree _ _ _ qob⟩ hPO)
end
end Mine
end
section
open PySem PySem.W PyProof.Rows PySem.Calls PySem.SeqAt
set_option Elab.async false
set_option linter.unusedVariables false
set_option maxRecDepth 100000
namespace Mine
theorem wpAny_choose {M : Model} {A : Around} {E : Value → Shared → Prop} {s : Shared} {src : Source} {n : Nat} {Q : Nat → Shared → Prop} (hn : n ≠ 0) (h : ∀ i dr, i < n → Q i { s with drawn := dr }) : wpAny M A (choose src n) Q E s :=
  fun _ _ _ => ⟨hn, h _ _ (Nat.mod_lt _ (Nat.pos_of_ne_zero hn))⟩
theorem wpAny_drawOrder {α : Type} {M : Model} {A : Around} {E : Value → Shared → Prop} : ∀ (n : Nat) (xs : List α) {s : Shared} {Q : List α → Shared → Prop}, n = xs.length → (∀ ys dr, ys.Perm xs → Q ys { s with drawn := dr }) → wpAny M A (drawOrder n xs) Q E s
  | 0, xs, s, Q, hn, h => by
    rw [List.length_eq_zero_iff.mp hn.symm] at h ⊢
    exact wpAny_pure (h [] s.drawn (.refl _))
  | n + 1, [], s, Q, hn, h => by simp at hn
  | n + 1, y :: ys, s, Q, hn, h => by
    show wpAny M A (choose .order (y :: ys).length >>= _) Q E s
    refine wpAny_bind (wpAny_choose (by simp) fun i dr hi => ?_)
    have hx : (y :: ys)[i]? = some (y :: ys)[i] := List.getElem?_eq_getElem hi
    rw [hx]
    refine wpAny_bind (wpAny_drawOrder n ((y :: ys).eraseIdx i) (by rw [List.length_eraseIdx, if_pos hi]; (first | lia | omega)) fun zs dr' hp => ?_)
    exact wpAny_pure (h _ dr' ((hp.cons _).trans (eraseIdx_perm hx).symm))
theorem slot_setit_next : Slot "set_iterator" "__next__" "set_iterator.__next__" :=
  .of (owner := "set_iterator") (n := "__next__") (by rw [typeLookup_type, builtinLookup_eq_fast]; kernel_rfl) (by decide +kernel) (by decide +kernel) (by decide +kernel)
    (by first | exact .inl (by decide +kernel) | exact .inr (by decide +kernel)) (by rw [isSubtype_type]; kernel_rfl)
theorem entry_setit_next : entryFor table "set_iterator.__next__" = some Builtin.«set_iterator.__next__» := entryFor_of_tree (by kernel_rfl)
theorem owner_setit : Manifest.owners.lookup (String.ofList ['r', 'o', 't', 'a', 'r', 'e', 't', 'i', '_', 't', 'e', 's'].reverse) = some Manifest.sig_set_iterator := by kernel_rfl
theorem args_setit_next (a : Value) : argsOk "set_iterator.__next__" ⟨[a], []⟩ := by
  unfold argsOk; rw [signature?_of (id := "set_iterator.__next__") (n := ['_', '_', 't', 'x', 'e', 'n', '_', '_']) (o := ['r', 'o', 't', 'a', 'r', 'e', 't', 'i', '_', 't', 'e', 's']) (by kernel_rfl) owner_setit]; kernel_rfl
theorem entry_set_iter : entryFor table "set.__iter__" = some Builtin.«frozenset.__iter__» :=
  entryFor_alias (id' := "frozenset.__iter__") (by kernel_rfl) rfl (by decide +kernel) (by kernel_rfl)
noncomputable abbrev rawN (ps : List Nat) : List Value := ps.map fun j : Nat => rawInt (j : Int)
noncomputable def SetItAt (I a : Addr) (i n ep : Nat) (first : Value) (h : Heap) : Prop := ∃ o, h.get? I = some o ∧ o.cls = .type "set_iterator" ∧ o.data = .fields #[first, .int i 0, .ref a, .int n 0, .int ep 0]
theorem SetItAt.typeIs {s : Shared} {I a i n ep first} (x : SetItAt I a i n ep first s.heap) : s.TypeIs (.ref I) "set_iterator" := let ⟨o, ho, hc, _⟩ := x; ⟨o, ho, hc⟩
section
variable {prog : Program} {w : World} {A : Around} {E : Value → Shared → Prop} {s : Shared} {I a : Addr} {i n ep : Nat} {ob : Obj} {es : Array (Int × Value)} {t : SetTable}
structure SetHere (ob : Obj) (es : Array (Int × Value)) (ep : Nat) (t : SetTable) : Prop where
  x : ob.ExactSet
  d : ob.data = .set es ep t
  f : t.fits es.size = true
theorem next_int {slot nx : Nat} {x : Value} (M : SetHere ob es ep t) (hit : SetItAt I a i es.size ep (.int slot 0) s.heap) (hob : s.heap.get? a = some ob) (hne : a ≠ I)
    (hn : ∀ {A E} {R : Option (Value × Nat) → Shared → Prop}, R (some (x, nx)) s → wpAny (model prog w) A (setNext a slot i ep) R E s) {Q : Option Value → Shared → Prop}
    (hQ : ∀ h', SetItAt I a (i + 1) es.size ep (.int nx 0) h' → Heap.SameBut I s.heap h' → Q (some x) { s with heap := h' }) : wpAny (model prog w) A (pyNext (.ref I)) Q E s := by
  obtain ⟨o, ho, hc, hd⟩ := id hit
  unfold pyNext
  refine wpAny_bind (wpAny_attempt (wpAny_callSpecial?_slot (name := Str.ofString "__next__") hit.typeIs slot_setit_next
    (wpAny_call_entry slot_setit_next hit.typeIs entry_setit_next ?_ (args_setit_next _))))
  unfold Builtin.«set_iterator.__next__»
  refine wpAny_bind (m := slotArgs "__next__" 0 _) (wpAny_pure ?_)
  refine wpAny_bind (wpAny_fieldsOf ho hd ?_)
  show wpAny _ _ (setEntries a >>= _) _ _ s
  refine wpAny_bind (wpAny_setEntries_of hob M.d M.f ?_)
  rw [if_neg (by simp)]
  show wpAny _ _ (setNext a (slot : Int).toNat (i : Int).toNat (ep : Int).toNat >>= _) _ _ s
  simp only [Int.toNat_natCast]
  refine wpAny_bind (hn ?_)
  show wpAny _ _ (setField (.ref I) 0 (rawInt nx) >>= _) _ _ s
  refine wpAny_bind (wpAny_setField ho hd (by simp) ?_)
  have e1 : (s.heap.update I (Obj.mapFields (·.setIfInBounds 0 (rawInt nx)))).get? I = some (Obj.mapFields (·.setIfInBounds 0 (rawInt nx)) o) := Heap.get?_update_self _ ho (Obj.isFreed_of_fields (Obj.data_mapFields hd _))
  have d1 := Obj.data_mapFields hd (·.setIfInBounds 0 (rawInt nx))
  refine wpAny_bind (wpAny_setField e1 d1 (by simp) ?_)
  have e2 := Heap.get?_update_self (Obj.mapFields (·.setIfInBounds 1 (rawInt ((i : Int) + 1)))) e1 (Obj.isFreed_of_fields (Obj.data_mapFields d1 _))
  refine wpAny_pure ⟨_, rfl, wpAny_pure (hQ _ ⟨_, e2, (Obj.cls_mapFields ..).trans ((Obj.cls_mapFields ..).trans hc), ?_⟩ ((Heap.SameBut.update ..).trans (Heap.SameBut.update ..)))⟩
  rw [Obj.data_mapFields d1]
  simp [rawInt]
theorem next_int_end {slot : Nat} (hh : A.handled = none) (M : SetHere ob es ep t) (hit : SetItAt I a i es.size ep (.int slot 0) s.heap) (hob : s.heap.get? a = some ob)
    (hn : ∀ {A E} {R : Option (Value × Nat) → Shared → Prop}, R none s → wpAny (model prog w) A (setNext a slot i ep) R E s) {Q : Option Value → Shared → Prop}
    (hQ : ∀ h', Heap.ExtBut I s.heap h' → Q none { s with heap := h' }) : wpAny (model prog w) A (pyNext (.ref I)) Q E s := by
  obtain ⟨o, ho, hc, hd⟩ := id hit
  unfold pyNext
  refine wpAny_bind (wpAny_attempt (wpAny_callSpecial?_slot (name := Str.ofString "__next__") hit.typeIs slot_setit_next
    (wpAny_call_entry slot_setit_next hit.typeIs entry_setit_next ?_ (args_setit_next _))))
  unfold Builtin.«set_iterator.__next__»
  refine wpAny_bind (m := slotArgs "__next__" 0 _) (wpAny_pure ?_)
  refine wpAny_bind (wpAny_fieldsOf ho hd ?_)
  show wpAny _ _ (setEntries a >>= _) _ _ s
  refine wpAny_bind (wpAny_setEntries_of hob M.d M.f ?_)
  rw [if_neg (by simp)]
  show wpAny _ _ (setNext a (slot : Int).toNat (i : Int).toNat (ep : Int).toNat >>= _) _ _ s
  simp only [Int.toNat_natCast]
  refine wpAny_bind (hn ?_)
  show wpAny _ _ (setField (.ref I) 2 .none >>= _) _ _ s
  refine wpAny_bind (wpAny_setField ho hd (by simp) ?_)
  show wpAny _ _ (newExc (.type "StopIteration") [] >>= _) _ _ _
  refine wpAny_bind ?_
  simp only [newExc, newTuple]
  refine wpAny_bind (wpAny_newObj_type ?_ (by size_fits))
  refine wpAny_bind (m := firstArgMember _ _) (wpAny_of_eq (a := Value.none) (by first | rfl | (simp only [firstArgMember]; rfl)) ?_)
  refine wpAny_newObj_type ?_ (by size_fits)
  simp only [raiseNew]
  refine wpAny_bind (wpAny_handled ?_)
  rw [show A.in1.handled = none from hh]
  refine wpAny_bind (wpAny_pure (wpAny_throw ?_))
  refine wpAny_bind (wpAny_isInstance (T := "StopIteration") (b := true) ⟨_, Heap.get?_push_size _ rfl, rfl⟩ isSubtype_stop ?_)
  exact wpAny_pure (hQ _ (((Heap.SameBut.update ..).extBut.push _).push _))
theorem next_tup {T : Addr} {places : List Nat} {q : Nat} {x : Value} (M : SetHere ob es ep t) (hit : SetItAt I a i es.size ep (.ref T) s.heap) (hob : s.heap.get? a = some ob) (hT : PlainTup s.heap T (rawN places))
    (hq : places[i]? = some q) (hx : (es[q]?).map (·.2) = some x) {Q : Option Value → Shared → Prop}
    (hQ : ∀ h', SetItAt I a (i + 1) es.size ep (.ref T) h' → Heap.SameBut I s.heap h' → Q (some x) { s with heap := h' }) : wpAny (model prog w) A (pyNext (.ref I)) Q E s := by
  obtain ⟨o, ho, hc, hd⟩ := id hit
  obtain ⟨nn, hT⟩ := hT
  unfold pyNext
  refine wpAny_bind (wpAny_attempt (wpAny_callSpecial?_slot (name := Str.ofString "__next__") hit.typeIs slot_setit_next
    (wpAny_call_entry slot_setit_next hit.typeIs entry_setit_next ?_ (args_setit_next _))))
  unfold Builtin.«set_iterator.__next__»
  refine wpAny_bind (m := slotArgs "__next__" 0 _) (wpAny_pure ?_)
  refine wpAny_bind (wpAny_fieldsOf ho hd ?_)
  show wpAny _ _ (setEntries a >>= _) _ _ s
  refine wpAny_bind (wpAny_setEntries_of hob M.d M.f ?_)
  rw [if_neg (by simp)]
  show wpAny _ _ (seqItems? (.ref T) >>= _) _ _ s
  refine wpAny_bind (wpAny_seqItems hT rfl ?_)
  have e0 : (rawN places).toArray[(i : Int).toNat]? = some (rawInt (q : Int)) := by
    rw [Int.toNat_natCast, List.getElem?_toArray, List.getElem?_map, hq]; rfl
  simp only [e0]
  show wpAny _ _ (setNextDrawn a (q : Int).toNat (ep : Int).toNat >>= _) _ _ s
  simp only [Int.toNat_natCast]
  obtain ⟨⟨hs0, x'⟩, e1, rfl⟩ := Option.map_eq_some_iff.mp hx
  refine wpAny_bind ?_
  unfold setNextDrawn
  refine wpAny_bind (wpAny_setState_of hob M.d M.f ?_)
  dsimp only
  rw [if_neg (by simp)]
  refine wpAny_bind (wpAny_pure ?_)
  rw [e1]
  refine wpAny_pure ?_
  show wpAny _ _ (setField (.ref I) 1 (rawInt ((i : Int) + 1)) >>= _) _ _ s
  refine wpAny_bind (wpAny_setField ho hd (by simp) ?_)
  have e2 := Heap.get?_update_self (Obj.mapFields (·.setIfInBounds 1 (rawInt ((i : Int) + 1)))) ho (Obj.isFreed_of_fields (Obj.data_mapFields hd _))
  refine wpAny_pure ⟨_, rfl, wpAny_pure (hQ _ ⟨_, e2, (Obj.cls_mapFields ..).trans hc, ?_⟩ (Heap.SameBut.update ..))⟩
  rw [Obj.data_mapFields hd]
  simp [rawInt]
theorem next_tup_end {T : Addr} {places : List Nat} (hh : A.handled = none) (M : SetHere ob es ep t) (hit : SetItAt I a i es.size ep (.ref T) s.heap) (hob : s.heap.get? a = some ob) (hT : PlainTup s.heap T (rawN places))
    (hq : places[i]? = none) {Q : Option Value → Shared → Prop}
    (hQ : ∀ h', Heap.ExtBut I s.heap h' → Q none { s with heap := h' }) : wpAny (model prog w) A (pyNext (.ref I)) Q E s := by
  obtain ⟨o, ho, hc, hd⟩ := id hit
  obtain ⟨nn, hT⟩ := hT
  unfold pyNext
  refine wpAny_bind (wpAny_attempt (wpAny_callSpecial?_slot (name := Str.ofString "__next__") hit.typeIs slot_setit_next
    (wpAny_call_entry slot_setit_next hit.typeIs entry_setit_next ?_ (args_setit_next _))))
  unfold Builtin.«set_iterator.__next__»
  refine wpAny_bind (m := slotArgs "__next__" 0 _) (wpAny_pure ?_)
  refine wpAny_bind (wpAny_fieldsOf ho hd ?_)
  show wpAny _ _ (setEntries a >>= _) _ _ s
  refine wpAny_bind (wpAny_setEntries_of hob M.d M.f ?_)
  rw [if_neg (by simp)]
  show wpAny _ _ (seqItems? (.ref T) >>= _) _ _ s
  refine wpAny_bind (wpAny_seqItems hT rfl ?_)
  have e0 : (rawN places).toArray[(i : Int).toNat]? = none := by
    rw [Int.toNat_natCast, List.getElem?_toArray, List.getElem?_map, hq]; rfl
  simp only [e0]
  show wpAny _ _ (setField (.ref I) 0 (rawInt 0) >>= _) _ _ s
  refine wpAny_bind (wpAny_setField ho hd (by simp) ?_)
  have e1 : (s.heap.update I (Obj.mapFields (·.setIfInBounds 0 (rawInt 0)))).get? I = some (Obj.mapFields (·.setIfInBounds 0 (rawInt 0)) o) := Heap.get?_update_self _ ho (Obj.isFreed_of_fields (Obj.data_mapFields hd _))
  have d1 := Obj.data_mapFields hd (·.setIfInBounds 0 (rawInt 0))
  refine wpAny_bind (wpAny_setField e1 d1 (by simp) ?_)
  show wpAny _ _ (newExc (.type "StopIteration") [] >>= _) _ _ _
  refine wpAny_bind ?_
  simp only [newExc, newTuple]
  refine wpAny_bind (wpAny_newObj_type ?_ (by size_fits))
  refine wpAny_bind (m := firstArgMember _ _) (wpAny_of_eq (a := Value.none) (by first | rfl | (simp only [firstArgMember]; rfl)) ?_)
  refine wpAny_newObj_type ?_ (by size_fits)
  simp only [raiseNew]
  refine wpAny_bind (wpAny_handled ?_)
  rw [show A.in1.handled = none from hh]
  refine wpAny_bind (wpAny_pure (wpAny_throw ?_))
  refine wpAny_bind (wpAny_isInstance (T := "StopIteration") (b := true) ⟨_, Heap.get?_push_size _ rfl, rfl⟩ isSubtype_stop ?_)
  exact wpAny_pure (hQ _ ((((Heap.SameBut.update ..).trans (Heap.SameBut.update ..)).extBut.push _).push _))
theorem iter_set (M : SetHere ob es ep t) (hob : s.heap.get? a = some ob) {Q : Value → Shared → Prop}
    (h1 : (w.params.followText "set-order" = true ∨ (t.plain = true ∨ es.size ≤ 1)) → Q (.ref s.heap.objs.size) { s with heap := s.heap.push { cls := .type "set_iterator", data := .fields #[.int (0 : Nat) 0, .int (0 : Nat) 0, .ref a, .int es.size 0, .int ep 0] } })
    (h2 : w.params.followText "set-order" = false → ∀ (places : List Nat) dr, places.Perm (List.range es.size) → Q (.ref (s.heap.objs.size + 1)) { s with heap := (s.heap.push { cls := .type "tuple", data := .seq (rawN places).toArray }).push { cls := .type "set_iterator", data := .fields #[.ref s.heap.objs.size, .int (0 : Nat) 0, .ref a, .int es.size 0, .int ep 0] }, drawn := dr })
    (hsz : es.size ≤ sizeLine) :
    wpAny (model prog w) A (pyIter (.ref a)) Q E s := by
  have hT : s.TypeIs (.ref a) "set" := ⟨ob, hob, M.x.1⟩
  refine wpAny_pyIter_slot hT F.slot_set_iter (wpAny_call_entry F.slot_set_iter hT entry_set_iter ?_ (F.args_set_iter_1 _))
  unfold Builtin.«frozenset.__iter__» Builtin.Frozenset.slot0
  refine wpAny_bind (m := slotArgs "__iter__" 0 _ >>= _) (wpAny_bind (wpAny_pure (wpAny_pure ?_)))
  unfold Builtin.Frozenset.sizeOf
  refine wpAny_bind (wpAny_bind (wpAny_setEntries_of hob M.d M.f (wpAny_pure ?_)))
  have hdr : ∀ {A' E'} {R : Bool → Shared → Prop}, R (!w.params.followText "set-order" && (!t.plain && decide (es.size > 1))) s → wpAny (model prog w) A' (setDrawn a) R E' s := fun h => by
    unfold setDrawn
    refine wpAny_bind (wpAny_setState_of hob M.d M.f ?_)
    unfold setsByText
    exact wpAny_bind (wpAny_bind (wpAny_askSetting (wpAny_pure (wpAny_pure h))))
  refine wpAny_bind (hdr ?_)
  cases hb : (!w.params.followText "set-order" && (!t.plain && decide (es.size > 1))) with
  | true =>
    simp only [Bool.and_eq_true, Bool.not_eq_true'] at hb
    rw [if_pos rfl]
    refine wpAny_bind (wpAny_drawOrder _ _ (by simp) fun places dr hp => ?_)
    have hlen : places.length = es.size := by rw [hp.length_eq, List.length_range]
    refine wpAny_bind (wpAny_newTuple ?_ (by simpa [hlen] using hsz))
    refine wpAny_bind (wpAny_setEpoch_of (s := { s with heap := s.heap.push _, drawn := dr }) (Heap.get?_push_of_some _ hob) M.d M.f ?_)
    unfold newFields
    refine wpAny_bind (wpAny_newObj_type (wpAny_pure ⟨_, rfl, "set_iterator", _, ⟨_, Heap.get?_push_size _ rfl, rfl⟩, slot_setit_next.lookup, ?_⟩))
    have := h2 hb.1 places dr hp
    simpa [rawInt, rawN, Heap.push] using this
  | false =>
    rw [if_neg (by simp)]
    refine wpAny_bind (wpAny_pure ?_)
    refine wpAny_bind (wpAny_setEpoch_of hob M.d M.f ?_)
    unfold newFields
    refine wpAny_bind (wpAny_newObj_type (wpAny_pure ⟨_, rfl, "set_iterator", _, ⟨_, Heap.get?_push_size _ rfl, rfl⟩, slot_setit_next.lookup, ?_⟩))
    refine h1 ?_
    simp only [Bool.and_eq_false_iff, Bool.not_eq_false', decide_eq_false_iff_not] at hb
    rcases hb with hb | hb | hb
    · exact .inl hb
    · exact .inr (.inl hb)
    · exact .inr (.inr (by (first | lia | omega)))
theorem wk_int {vals : List Value} (hh : A.handled = none) (hne : a ≠ I) (M : SetHere ob es ep t) (hlen : vals.length = es.size) (slot : Nat → Nat)
    (hs : ∀ i v, vals[i]? = some v → ∀ {A E s} {R : Option (Value × Nat) → Shared → Prop}, s.heap.get? a = some ob → R (some (v, slot (i + 1))) s → wpAny (model prog w) A (setNext a (slot i) i ep) R E s)
    (he : ∀ {A E s} {R : Option (Value × Nat) → Shared → Prop}, s.heap.get? a = some ob → R none s → wpAny (model prog w) A (setNext a (slot es.size) es.size ep) R E s) :
    Wk prog w A I [a, I] [I] vals.length (fun i v => vals[i]? = some v) (fun i h => SetItAt I a i es.size ep (.int (slot i) 0) h ∧ h.get? a = some ob) where
  sub := fun b hb => by simp at hb; simp [hb]
  item := fun i s Q E hi st hQ => by
    have hv : vals[i]? = some vals[i] := List.getElem?_eq_getElem hi
    refine next_int (s := s) M st.1 st.2 hne (fun h => hs i _ hv st.2 h) fun h' hit sb => ?_
    exact hQ _ h' s.toks hv ⟨hit, (sb.2 _ hne).trans st.2⟩ fun b o hb e => (sb.2 b (by simpa using hb)).trans e
  done := fun s Q E st hQ => by
    rw [hlen] at st
    exact next_int_end (s := s) hh M st.1 st.2 (fun h => he st.2 h) fun h' hx => hQ h' s.toks fun b o hb e => hx b o (by simpa using hb) e
theorem wk_tup {T : Addr} {places : List Nat} {vals : List Value} (hh : A.handled = none) (hne : a ≠ I) (hTI : T ≠ I) (M : SetHere ob es ep t) (hlen : vals.length = places.length)
    (hv : ∀ (i : Nat) (v : Value), vals[i]? = some v → ∃ q : Nat, places[i]? = some q ∧ (es[q]?).map (fun e => e.2) = some v) :
    Wk prog w A I [a, I, T] [I] vals.length (fun i v => vals[i]? = some v) (fun i h => (SetItAt I a i es.size ep (.ref T) h ∧ PlainTup h T (rawN places)) ∧ h.get? a = some ob) where
  sub := fun b hb => by simp at hb; simp [hb]
  item := fun i s Q E hi st hQ => by
    have hv' : vals[i]? = some vals[i] := List.getElem?_eq_getElem hi
    obtain ⟨q, e1, e2⟩ := hv i _ hv'
    refine next_tup (s := s) M st.1.1 st.2 st.1.2 e1 e2 fun h' hit sb => ?_
    obtain ⟨n, e⟩ := st.1.2
    exact hQ _ h' s.toks hv' ⟨⟨hit, n, (sb.2 _ hTI).trans e⟩, (sb.2 _ hne).trans st.2⟩ fun b o hb e => (sb.2 b (by simpa using hb)).trans e
  done := fun s Q E st hQ =>
    next_tup_end (s := s) hh M st.1.1 st.2 st.1.2 (List.getElem?_eq_none (by (first | lia | omega))) fun h' hx => hQ h' s.toks fun b o hb e => hx b o (by simpa using hb) e
theorem below0 (xs : Array Nat) : SetTable.below xs 0 = 0 := by
  have : ∀ f hi, SetTable.below.go xs 0 f 0 hi = 0 := fun f => by
    induction f with
    | zero => intro hi; rfl
    | succ f ih =>
      intro hi
      unfold SetTable.below.go
      by_cases h : 0 < hi
      · rw [if_pos h]
        simp only [Nat.not_lt_zero, if_false]
        exact ih _
      · rw [if_neg h]
  exact this _ _
theorem below1 (j : Nat) : SetTable.below #[j] (j + 1) = 1 := by
  unfold SetTable.below
  show SetTable.below.go #[j] (j + 1) 1 0 1 = 1
  unfold SetTable.below.go
  simp [SetTable.below.go]
end
section
variable {prog : Program} {w : World} {A : Around} {E : Value → Shared → Prop} {a : Addr} {ob : Obj} {es : Array (Int × Value)} {t : SetTable} {ep : Nat}
theorem setNext_text {s : Shared} {i slot : Nat} {R : Option (Value × Nat) → Shared → Prop} (hT : w.params.followText "set-order" = true) (M : SetHere ob es ep t) (hob : s.heap.get? a = some ob)
    (h : R (((pickOrder (w.params.setOrder a ep) es)[i]?).map fun e => (e.2, slot)) s) : wpAny (model prog w) A (setNext a slot i ep) R E s := by
  unfold setNext
  refine wpAny_bind (wpAny_setState_of hob M.d M.f ?_)
  unfold setsByText
  refine wpAny_bind (wpAny_bind (wpAny_askSetting (wpAny_pure ?_)))
  rw [if_pos (show (model prog w).w.params.followText "set-order" = true from hT)]
  dsimp only
  rw [if_neg (by simp)]
  refine wpAny_bind ?_
  unfold setWalk
  refine wpAny_bind (wpAny_setState_of hob M.d M.f ?_)
  unfold setsByText
  refine wpAny_bind (wpAny_bind (wpAny_askSetting (wpAny_pure ?_)))
  rw [if_pos (show (model prog w).w.params.followText "set-order" = true from hT)]
  exact wpAny_bind (wpAny_askSetting (wpAny_pure (wpAny_pure h)))
theorem setNext_one {s : Shared} {i slot : Nat} {R : Option (Value × Nat) → Shared → Prop} (hT : w.params.followText "set-order" = false) (M : SetHere ob es ep t) (hob : s.heap.get? a = some ob) (h1 : es.size ≤ 1) (hl : t.led = true)
    (h : R (match es[SetTable.below t.place slot]?, t.place[SetTable.below t.place slot]? with
      | some (_, x), some j => some (x, j + 1)
      | _, _ => none) s) : wpAny (model prog w) A (setNext a slot i ep) R E s := by
  unfold setNext
  refine wpAny_bind (wpAny_setState_of hob M.d M.f ?_)
  unfold setsByText
  refine wpAny_bind (wpAny_bind (wpAny_askSetting (wpAny_pure ?_)))
  rw [if_neg (by show ¬ w.params.followText "set-order" = true; rw [hT]; simp)]
  show wpAny _ _ (if (!t.plain && decide (es.size > 1)) = true then _ else _) _ _ _
  rw [if_neg (by simp; (first | lia | omega))]
  show wpAny _ _ ((if (!t.led && !es.isEmpty) = true then _ else pure ()) >>= _) _ _ _
  rw [if_neg (by simp [hl])]
  exact wpAny_bind (wpAny_pure (wpAny_pure h))
end
end Mine
end
section
open PySem PySem.W PyProof.Rows PySem.Calls PySem.SeqAt
set_option Elab.async false
set_option linter.unusedVariables false
set_option maxRecDepth 100000
namespace Mine
section
variable {C : Cc} {vars vars' vars'' : DVars} {own own' own'' : DOwn} {Q : Flow → Shared → Prop} {d d₁ d₂ : D} {ds : List D} {rest : List Stmt} {e l r : Expr} {pos p' : Pos} {x : PySem.Str} {g g₁ g' : Heap} {s s₁ s₂ s' : Shared}
theorem itok {bd I : Addr} {ob : Obj} {fp : List Addr} {nm : String} {P : Nat → Value → Prop} {It : Nat → Heap → Prop} (a₁ : At2 C vars ((bd, Just ob) :: own) g₁ s₁) (x₁ : Gr g s g₁ s₁) (kp : Keeps s₁ s₂) (hnew : ∀ b ∈ I :: fp, s₁.heap.get? b = none) (hlive : ∀ b ∈ I :: fp, ∃ o, s₂.heap.get? b = some o)
    (W : Wk C.prog C.w C.A I (bd :: I :: fp) [I] ds.length P (fun i h => It i h ∧ h.get? bd = some ob)) (frame : ∀ i h h', It i h → (∀ b ∈ I :: fp, ∀ o, h.get? b = some o → h'.get? b = some o) → It i h')
    (item : ∀ i v d, ds[i]? = some d → P i v → Rep g₁ v d) (st : It 0 s₂.heap) (live : ∀ i h, It i h → ∃ o, h.get? I = some o ∧ o.cls = .type nm)
    (hn : ["enumerate", "zip", "dict_itemiterator", "dict_reverseitemiterator", "odict_iterator", "itertools.zip_longest", "itertools.pairwise"].contains nm = false) : ItOkO C bd ob ds g s g₁ s₂ I (I :: fp) [I] P It where
  W := W
  frame := frame
  bdw := fun h => by
    have h' := List.mem_singleton.mp h
    obtain ⟨⟨o, e, _⟩, _⟩ := a₁.news _ (.head _)
    have e' : s₁.heap.get? bd = some o := e
    rw [h'] at e'
    exact live_ne (hnew I (.head _)) e'
  gr := x₁.trans (Gr.same a₁.sub kp)
  item := item
  st := st
  fpn := fun b hb => .inr (by
    cases q : s.heap.get? b with
    | none => rfl
    | some o => exact (live_ne (hnew b hb) (keepsExt x₁.keeps _ _ q)).elim)
  fpl := hlive
  wrn := fun b hb => by
    rw [List.mem_singleton.mp hb]
    constructor
    · cases q : g₁.get? I with
      | none => rfl
      | some o => exact (live_ne (hnew I (.head _)) (a₁.sub _ _ q)).elim
    · cases q : s.heap.get? I with
      | none => rfl
      | some o => exact (live_ne (hnew I (.head _)) (keepsExt x₁.keeps _ _ q)).elim
  live := fun i h hi b hb => by rw [List.mem_singleton.mp hb]; obtain ⟨o, e, _⟩ := live i h hi; exact ⟨o, e⟩
  go := fun target i s' v Q' hi k => by obtain ⟨o, e, c⟩ := live i _ hi; exact go_plain e c hn k
variable {κ : Type} [DecidableEq κ] {knd : PySem.KeyKind C.prog C.w κ} {ι : κ → D}
theorem bind_get {es : Array (Int × Value)} : ∀ (places : List Nat), (∀ q ∈ places, q < es.size) → ∀ i : Nat, (places.filterMap (fun q : Nat => es[q]?))[i]? = places[i]?.bind (fun q : Nat => es[q]?)
  | [], _, i => by simp
  | q :: r, h, i => by
    have hq' : q < es.size := h q (.head _)
    have hq : es[q]? = some es[q] := Array.getElem?_eq_getElem hq'
    rw [List.filterMap_cons_some hq]
    cases i with
    | zero => simp [hq]
    | succ i => simpa using bind_get r (fun q hq => h q (.tail _ hq)) i
theorem set_hit {a : Addr} {ks : List κ} (hh : C.A.handled = none) (ho : ∀ ob, Ev C vars ((a, Just ob) :: own) e (.raw (.ref a))) (hι : ∀ k v, knd.is k v = true → ∀ g, Rep g v (ι k)) (hl : ks.length ≤ 4000) :
    ∀ ob g s, At2 C vars ((a, Just ob) :: own) g s → OSetT knd ks g ob → wpAny (model C.prog C.w) C.A (eval e C.env) (fun v s₁ => wpAny (model C.prog C.w) C.A (pyIter v) (fun it s₂ => ∃ ks' g₂ I fp wr P It, List.Perm ks' ks ∧ it = .ref I ∧ ItOkO C a ob (ks'.map ι) g s g₂ s₂ I fp wr P It) Ff s₁) Ff s := fun ob g s hs hS =>
  (ho ob).run hs fun v g₁ s₁ x₁ a₁ r₁ => by
  cases r₁ using Rep.eRaw
  obtain ⟨hx, es, ep, t, ks0, hd, hk, hp, hf, hled, hpl⟩ := id hS
  have M : SetHere ob es ep t := ⟨hx, hd, hf⟩
  have hob : s₁.heap.get? a = some ob := by
    obtain ⟨⟨o, e, q⟩, _⟩ := a₁.news _ (.head _)
    have q' : o = ob := q
    rw [← q']; exact e
  have halt := Heap.lt_size hob
  have hsz : es.size = ks.length := by rw [← Array.length_toList, hk.len, hp.length_eq]
  have hline : es.size ≤ sizeLine := Nat.le_trans (by (first | lia | omega)) (by decide : 4000 ≤ sizeLine)
  have live : ∀ {I first} (i : Nat) (h : Heap), SetItAt I a i es.size ep first h → ∃ o, h.get? I = some o ∧ o.cls = .type "set_iterator" := fun i h ⟨o, e, c, _⟩ => ⟨o, e, c⟩
  have keyed : ∀ {l : List (Int × Value)} {ks'}, KeysL knd l ks' → ∀ i v d, (ks'.map ι)[i]? = some d → (l.map (·.2))[i]? = some v → Rep g₁ v d := fun hk i v d hd hv => by
    rw [List.getElem?_map, Option.map_eq_some_iff] at hd hv
    obtain ⟨k, e1, rfl⟩ := hd
    obtain ⟨e, e2, rfl⟩ := hv
    obtain ⟨k', e3, e4⟩ := hk.get e2
    rw [e1] at e3; cases e3
    exact hι _ _ e4 _
  refine iter_set M hob (fun h1 => ?_) (fun hT places dr hpp => ?_) hline
  · have kp : Keeps s₁ { s₁ with heap := s₁.heap.push { cls := .type "set_iterator", data := .fields #[.int (0 : Nat) 0, .int (0 : Nat) 0, .ref a, .int es.size 0, .int ep 0] } } := ⟨_, _, rfl, fun b o e => Heap.get?_push_of_some _ e⟩
    have hnew : ∀ b ∈ [s₁.heap.objs.size], s₁.heap.get? b = none := fun b hb => by rw [List.mem_singleton.mp hb]; exact new_none
    have hlive : ∀ b ∈ [s₁.heap.objs.size], ∃ o, (s₁.heap.push { cls := .type "set_iterator", data := .fields #[.int (0 : Nat) 0, .int (0 : Nat) 0, .ref a, .int es.size 0, .int ep 0] }).get? b = some o := fun b hb => by rw [List.mem_singleton.mp hb]; exact ⟨_, Heap.get?_push_size _ rfl⟩
    have hne : a ≠ s₁.heap.objs.size := Nat.ne_of_lt halt
    cases hT : C.w.params.followText "set-order" with
    | true =>
      have pp := pickOrder_perm (C.w.params.setOrder a ep) es
      obtain ⟨ks1, hk1, p1⟩ := KeysL.perm pp.symm hk
      have hl1 : (ks1.map ι).length = ((pickOrder (C.w.params.setOrder a ep) es).toList.map (·.2)).length := by rw [List.length_map, List.length_map, hk1.len]
      have W := wk_int (prog := C.prog) (w := C.w) (vals := (pickOrder (C.w.params.setOrder a ep) es).toList.map (·.2)) hh hne M (by rw [List.length_map, pp.length_eq, Array.length_toList]) (fun _ => 0)
        (fun i v hv {A E s R} hob hR => setNext_text hT M hob (by
          rw [List.getElem?_map, Array.getElem?_toList, Option.map_eq_some_iff] at hv
          obtain ⟨e, e1, rfl⟩ := hv
          rw [e1]; exact hR))
        (fun {A E s R} hob hR => setNext_text hT M hob (by
          have hsz' : (pickOrder (C.w.params.setOrder a ep) es).size = es.size := by rw [← Array.length_toList, pp.length_eq, Array.length_toList]
          rw [Array.getElem?_eq_none (by (first | lia | omega))]; exact hR))
      rw [← hl1] at W
      exact ⟨ks1, g₁, _, _, _, _, _, p1.symm.trans hp, rfl, itok (nm := "set_iterator") (It := fun i h => SetItAt s₁.heap.objs.size a i es.size ep (.int (0 : Nat) 0) h) a₁ x₁ kp hnew hlive W (fun i h h' ⟨o, e, r⟩ hk => ⟨o, hk _ (.head _) o e, r⟩) (keyed hk1) ⟨_, Heap.get?_push_size _ rfl, rfl, rfl⟩ live (by decide)⟩
    | false =>
      have h1s : es.size ≤ 1 := by
        rcases h1 with h | h | h
        · rw [hT] at h; cases h
        · rcases Nat.eq_zero_or_pos ks.length with q | q
          · (first | lia | omega)
          · have := hpl (fun e => by rw [e] at q; simp at q)
            rw [this] at h; cases h
        · exact h
      have hl0 : t.led = true := by rw [← hled, hT]; rfl
      have hpsz : t.place.size = es.size := by
        simp only [SetTable.fits, Bool.and_eq_true, beq_iff_eq] at hf
        exact hf.1
      have hl1 : (ks0.map ι).length = (es.toList.map (·.2)).length := by rw [List.length_map, List.length_map, hk.len]
      have W := wk_int (prog := C.prog) (w := C.w) (vals := es.toList.map (·.2)) hh hne M (by rw [List.length_map, Array.length_toList]) (fun i => if i = 0 then 0 else t.place.getD 0 0 + 1)
        (fun i v hv {A E s R} hob hR => setNext_one hT M hob h1s hl0 (by
          rw [List.getElem?_map, Array.getElem?_toList, Option.map_eq_some_iff] at hv
          obtain ⟨⟨h0, x0⟩, e1, rfl⟩ := hv
          have hi : i < es.size := by
            rcases Nat.lt_or_ge i es.size with q | q
            · exact q
            · rw [Array.getElem?_eq_none q] at e1; cases e1
          obtain rfl : i = 0 := by (first | lia | omega)
          have hp0 : t.place[0]? = some t.place[0] := Array.getElem?_eq_getElem (by (first | lia | omega))
          have hpd : t.place.getD 0 0 = t.place[0] := by rw [Array.getD_eq_getD_getElem?, hp0]; rfl
          rw [if_pos rfl, below0, e1, hp0]
          rw [if_neg (by (first | lia | omega)), hpd] at hR
          exact hR))
        (fun {A E s R} hob hR => setNext_one hT M hob h1s hl0 (by
          have : es[SetTable.below t.place (if es.size = 0 then 0 else t.place.getD 0 0 + 1)]? = none := by
            rcases Nat.eq_zero_or_pos es.size with q | q
            · rw [Array.getElem?_eq_none]; (first | lia | omega)
            · obtain ⟨j, hj⟩ : ∃ j, t.place = #[j] := by
                have h1 : t.place.size = 1 := by (first | lia | omega)
                exact Array.size_eq_one_iff.mp h1
              rw [if_neg (by (first | lia | omega)), hj]
              show es[SetTable.below #[j] (j + 1)]? = none
              rw [below1, Array.getElem?_eq_none (by (first | lia | omega))]
          rw [this]
          exact hR))
      rw [← hl1] at W
      exact ⟨ks0, g₁, _, _, _, _, _, hp, rfl, itok (nm := "set_iterator") (It := fun i h => SetItAt s₁.heap.objs.size a i es.size ep (.int ((if i = 0 then 0 else t.place.getD 0 0 + 1 : Nat) : Int) 0) h) a₁ x₁ kp hnew hlive W (fun i h h' ⟨o, e, r⟩ hk => ⟨o, hk _ (.head _) o e, r⟩) (keyed hk) ⟨_, Heap.get?_push_size _ rfl, rfl, rfl⟩ (fun i h st => live i h st) (by decide)⟩
  · have hpl : ∀ q ∈ places, q < es.size := fun q hq => List.mem_range.mp (hpp.mem_iff.mp hq)
    have pp : (places.filterMap (fun q => es[q]?)).Perm es.toList := (hpp.filterMap _).trans (by rw [filterMap_getElem?_range])
    obtain ⟨ks1, hk1, p1⟩ := KeysL.perm pp.symm hk
    have hl2 : (places.filterMap (fun q => es[q]?)).length = places.length := by rw [pp.length_eq, hpp.length_eq, List.length_range, Array.length_toList]
    have hl1 : (ks1.map ι).length = ((places.filterMap (fun q => es[q]?)).map (·.2)).length := by rw [List.length_map, List.length_map, hk1.len]
    have hTI : s₁.heap.objs.size ≠ s₁.heap.objs.size + 1 := by (first | lia | omega)
    have hne : a ≠ s₁.heap.objs.size + 1 := by have : a < s₁.heap.objs.size := halt; exact Nat.ne_of_lt (Nat.lt_succ_of_lt this)
    have W := wk_tup (prog := C.prog) (w := C.w) (T := s₁.heap.objs.size) (places := places) (vals := (places.filterMap (fun q => es[q]?)).map (·.2)) hh hne hTI M (by rw [List.length_map, hl2]) (fun i v hv => by
      rw [List.getElem?_map, bind_get places hpl, Option.map_eq_some_iff] at hv
      obtain ⟨e, e1, rfl⟩ := hv
      obtain ⟨q, e2, e3⟩ := Option.bind_eq_some_iff.mp e1
      exact ⟨q, e2, by rw [e3]; rfl⟩)
    rw [← hl1] at W
    have hps : ∀ (h : Heap) (o : Obj), (h.push o).objs.size = h.objs.size + 1 := fun h o => by obtain ⟨os, l⟩ := h; simp [Heap.push]
    have eT : ((s₁.heap.push { cls := .type "tuple", data := .seq (rawN places).toArray }).push { cls := .type "set_iterator", data := .fields #[.ref s₁.heap.objs.size, .int (0 : Nat) 0, .ref a, .int es.size 0, .int ep 0] }).get? s₁.heap.objs.size = some { cls := .type "tuple", data := .seq (rawN places).toArray } := Heap.get?_push_of_some _ (Heap.get?_push_size _ rfl)
    have eI : ((s₁.heap.push { cls := .type "tuple", data := .seq (rawN places).toArray }).push { cls := .type "set_iterator", data := .fields #[.ref s₁.heap.objs.size, .int (0 : Nat) 0, .ref a, .int es.size 0, .int ep 0] }).get? (s₁.heap.objs.size + 1) = some { cls := .type "set_iterator", data := .fields #[.ref s₁.heap.objs.size, .int (0 : Nat) 0, .ref a, .int es.size 0, .int ep 0] } := by
      rw [← hps s₁.heap { cls := .type "tuple", data := .seq (rawN places).toArray }]; exact Heap.get?_push_size _ rfl
    refine ⟨ks1, g₁, _, _, _, _, _, p1.symm.trans hp, rfl, itok (nm := "set_iterator") (fp := [s₁.heap.objs.size]) (It := fun i h => SetItAt (s₁.heap.objs.size + 1) a i es.size ep (.ref s₁.heap.objs.size) h ∧ PlainTup h s₁.heap.objs.size (rawN places)) a₁ x₁ ⟨_, _, rfl, fun b o e => Heap.get?_push_of_some _ (Heap.get?_push_of_some _ e)⟩ (fun b hb => ?_) (fun b hb => ?_) W (fun i h h' st hk => ?_) (keyed hk1) ⟨⟨_, eI, rfl, rfl⟩, ⟨0, eT⟩⟩ (fun i h st => live i h st.1) (by decide)⟩
    · refine Heap.get?_none_of_le ?_
      simp only [List.mem_cons, List.not_mem_nil, or_false] at hb
      rcases hb with rfl | rfl <;> (first | lia | omega)
    · simp only [List.mem_cons, List.not_mem_nil, or_false] at hb
      rcases hb with rfl | rfl
      · exact ⟨_, eI⟩
      · exact ⟨_, eT⟩
    · obtain ⟨⟨o, e, r⟩, n, e'⟩ := st
      exact ⟨⟨o, hk _ (.head _) o e, r⟩, n, hk _ (.tail _ (.head _)) _ e'⟩
end
end Mine
end
section
open PySem PySem.W PyProof.Rows PySem.Calls PySem.SeqAt
set_option Elab.async false
set_option linter.unusedVariables false
set_option maxRecDepth 100000
namespace Mine
theorem nobool_fn : typeLookup (.type "function") "__bool__" = pure none := by rw [typeLookup_type, builtinLookup_eq_fast]; kernel_rfl
theorem nolen_fn : typeLookup (.type "function") "__len__" = pure none := by rw [typeLookup_type, builtinLookup_eq_fast]; kernel_rfl
section
variable {C : Cc} {vars vars' vars'' : DVars} {own own' own'' : DOwn} {Q : Flow → Shared → Prop} {d d₁ d₂ : D} {ds : List D} {rest : List Stmt} {e l r : Expr} {pos p' : Pos} {x : PySem.Str} {g g₁ g' : Heap} {s s₁ s₂ s' : Shared}
theorem Tr.lam {qual : PySem.Str} {params : Arguments} {b : Expr} {sc : Scope} {cl : List (PySem.Str × Addr)} (h : Ev C vars own e (.sp (IsLam qual params b sc cl))) (he : PySem.isTrue e C.env (eval e C.env) = (do let v ← eval e C.env; standAt e.pos; holding [v] (truthy v))) : Tr C vars own e true := fun g s hs => by
  rw [he]
  refine wpAny_bind (h.run hs fun v g₁ s₁ x₁ a₁ r₁ => ?_)
  cases r₁ using Rep.eSp with
  | sp hP hM =>
    obtain ⟨f, pm, c', ctv, rfl, hf, _⟩ := hP
    have hT : s₁.TypeIs (.ref f) "function" := ⟨_, a₁.sub _ _ hf, rfl⟩
    refine wpAny_bind (wpAny_standAt (wpAny_holding ?_))
    unfold truthy
    first
      | refine wpAny_bind (wpAny_callSpecial?_none (name := Str.ofString "__bool__") hT nobool_fn ?_)
      | refine wpAny_bind (wpAny_pure (wpAny_bind (wpAny_callSpecial?_none (name := Str.ofString "__bool__") hT nobool_fn ?_)))
    first
      | refine wpAny_bind (wpAny_specialOf (name := Str.ofString "__len__") hT nolen_fn ?_)
      | refine wpAny_bind (wpAny_pure (wpAny_bind (wpAny_specialOf (name := Str.ofString "__len__") hT nolen_fn ?_)))
    exact wpAny_pure ⟨g₁, x₁, rfl⟩
variable {κ : Type} [DecidableEq κ] {knd : PySem.KeyKind C.prog C.w κ} {ι : κ → D}
theorem keys_hit {a : Addr} {kvs : List (κ × Value)} {apos : Pos} {o : Expr} (hh : C.A.handled = none) (m : MethOk C "dict" "dict.keys" "keys" o [] apos pos) (ho : ∀ ob, Ev C vars ((a, Just ob) :: own) o (.raw (.ref a))) (hsys : C.K.lookup sysModules ≠ none) (hι : ∀ k v, knd.is k v = true → ∀ g, Rep g v (ι k)) :
    ∀ ob g s, At2 C vars ((a, Just ob) :: own) g s → ODic knd kvs g ob → wpAny (model C.prog C.w) C.A (eval (.Call (.Attribute o "keys" apos) [] [] pos) C.env) (fun v s₁ => wpAny (model C.prog C.w) C.A (pyIter v) (fun it s₂ => ∃ (_ : Unit) (g₂ : Heap) (I : Addr) (fp wr : List Addr) (P : Nat → Value → Prop) (It : Nat → Heap → Prop), True ∧ it = .ref I ∧ ItOkO C a ob (kvs.map fun kv => ι kv.1) g s g₂ s₂ I fp wr P It) Ff s₁) Ff s := fun ob g s hs hD => by
  refine wpAny_Call_method m.c1 m.c2 m.c3 m.pa m.slot m.hty ((ho ob).run hs fun ov g₁ s₁ x₁ a₁ r₁ => ?_)
  cases r₁ using Rep.eRaw
  obtain ⟨es, ep, hx, hdat, hk, hp, hn⟩ := id hD
  have hob : s₁.heap.get? a = some ob := by
    obtain ⟨⟨o, e, q⟩, _⟩ := a₁.news _ (.head _)
    have q' : o = ob := q
    rw [← q']; exact e
  have hd : s₁.heap.DictOf knd a kvs := Dic.to ⟨ob, hob, hD⟩
  have hsy : (a == sysModules) = false := a₁.ne_sys (.head _) hsys
  refine ⟨hd.typeIs, hd.mapOf.noDict, ?_⟩
  refine method_meetsIn F.slot_dict_keys F.entry_dict_keys rfl (evalArgs_nil3 ⟨rfl, hd.typeIs, F.args_dict_keys_1 _, _, kdl_meets_keys knd a hsy, ⟨kvs, hd⟩, ?_⟩)
  have hps : ∀ (h : Heap) (o : Obj), (h.push o).objs.size = h.objs.size + 1 := fun h o => by obtain ⟨os, l⟩ := h; simp [Heap.push]
  have halt := Heap.lt_size hob
  refine kdl_pyIter_keys (s := { s₁ with heap := s₁.heap.push { cls := .type "dict_keys", data := .fields #[.ref a] } }) (knd := knd) (kvs := kvs) (ep := ep) ⟨_, Heap.get?_push_size _ rfl, rfl, rfl⟩ ⟨ob, es, Heap.get?_push_of_some _ hob, hx, hdat, hk, hp, hn⟩ ?_
  generalize hI : (s₁.heap.push { cls := .type "dict_keys", data := .fields #[.ref a] }).objs.size = I
  have hI' : I = s₁.heap.objs.size + 1 := by rw [← hI, hps]
  have hne : a ≠ I := by have : a < s₁.heap.objs.size := halt; rw [hI']; exact Nat.ne_of_lt (Nat.lt_succ_of_lt this)
  have eI : ((s₁.heap.push { cls := .type "dict_keys", data := .fields #[.ref a] }).push { cls := .type "dict_keyiterator", data := .fields #[.ref a, .int 0 0, .int kvs.length 0, .int ep 0] }).get? I = some { cls := .type "dict_keyiterator", data := .fields #[.ref a, .int 0 0, .int kvs.length 0, .int ep 0] } := by
    rw [← hI]; exact Heap.get?_push_size _ rfl
  have W0 := Walks.dictKeys (prog := C.prog) (w := C.w) (knd := knd) hh I a hne kvs ep
  have hDA : ∀ h : Heap, h.get? a = some ob → h.DictAt knd a kvs ep := fun h e => ⟨ob, es, e, hx, hdat, hk, hp, hn⟩
  have hl1 : (kvs.map fun kv => ι kv.1).length = kvs.length := List.length_map _
  have W : Wk C.prog C.w C.A I [a, I] [I] (kvs.map fun kv => ι kv.1).length (fun i v => ∃ k x, kvs[i]? = some (k, x) ∧ knd.is k v = true) (fun i h => h.IsKeyIter I a i kvs.length ep ∧ h.get? a = some ob) := by
    rw [hl1]
    exact ⟨fun b hb => by simp at hb; simp [hb], fun i s Q E hi st hQ => W0.item i s Q E hi ⟨st.1, hDA _ st.2⟩ fun v h' tk hP st' hk' => hQ v h' tk hP ⟨st'.1, hk' a _ (by simpa using hne) st.2⟩ hk',
      fun s Q E st hQ => W0.done s Q E ⟨st.1, hDA _ st.2⟩ hQ⟩
  refine ⟨(), g₁, _, _, _, _, _, trivial, rfl, itok (nm := "dict_keyiterator") (fp := []) (It := fun i h => h.IsKeyIter I a i kvs.length ep) a₁ x₁ ⟨_, _, rfl, fun b o e => Heap.get?_push_of_some _ (Heap.get?_push_of_some _ e)⟩ (fun b hb => ?_) (fun b hb => ?_) W (fun i h h' st hk => st.at fun o e => hk _ (.head _) o e) (fun i v d hd hP => ?_) ⟨_, eI, rfl, rfl⟩ (fun i h ⟨o, e, c, _⟩ => ⟨o, e, c⟩) (by decide)⟩
  · refine Heap.get?_none_of_le ?_
    rw [List.mem_singleton.mp hb, hI']
    exact Nat.le_succ _
  · rw [List.mem_singleton.mp hb]; exact ⟨_, eI⟩
  · obtain ⟨k, x, e1, e2⟩ := hP
    rw [List.getElem?_map, e1] at hd
    cases hd
    exact hι _ _ e2 _
theorem x_del {o ie : Expr} {spos : Pos} {a : Addr} {kvs : List (κ × Value)} {k : κ} (ho : Ev C vars own o (.raw (.ref a))) (hi : Ev C vars own ie d) (hm : (a, ODic knd kvs) ∈ own) (hk : ∀ g v, Rep g v d → knd.is k v = true) (hin : k ∈ kvs.map (·.1)) (hl : kvs.length ≤ 1000000) (hsys : C.K.lookup sysModules ≠ none)
    (u : DPut a (ODic knd (without kvs k)) own own') (kk : Ex C vars own' rest Q) : Ex2 C vars own (.Delete [.Subscript o ie spos] pos) rest Q := fun g s hs => by
  refine wpAny_Delete (wpAny_deleteEach_cons ?_)
  rw [arm_delete_Subscript]
  refine wpAny_bind (ho.run hs fun ov g₁ s₁ x₁ a₁ r₁ => ?_)
  cases r₁ using Rep.eRaw
  refine wpAny_bind (wpAny_holding (hi.run a₁ fun iv g₂ s₂ x₂ a₂ r₂ => ?_))
  refine wpAny_bind (wpAny_standAt ?_)
  have hd : s₂.heap.DictOf knd a kvs := Dic.to (a₂.news _ hm).1
  have hsy : (a == sysModules) = false := a₂.ne_sys hm hsys
  refine wpAny_bind (wpAny_holding (wpAny_delItem_slot hd.typeIs (by decide) F.slot_dict_delitem ?_))
  have hs2 : (valueAt kvs k).isSome = true := by
    unfold valueAt
    rw [Option.isSome_map, List.find?_isSome]
    obtain ⟨kv, h1, h2⟩ := List.mem_map.mp hin
    exact ⟨kv, h1, by simpa using h2⟩
  refine call_meetsIn F.slot_dict_delitem hd.typeIs F.entry_dict_delitem (F.args_dict_delitem_2 _ _) (meets_dict_delitem_pairs knd a (hk _ _ r₂)) ⟨kvs, hd, Nat.le_trans hl (by decide), hs2, fun h' hd' sb => ?_⟩
  refine wpAny_release (wpAny_deleteEach_nil ?_)
  exact kk g₂ _ (a₂.put (h' := h') (t := s₂.toks + 1) u (fun b o hb e => (sb.2 b hb).trans e) (Dic.of hd') ODic.mono)
end
section
variable {C : Cc} {vars vars' : DVars} {own own' : DOwn} {pos : Pos} {test : Expr} {body rest : List Stmt} {Q : Flow → Shared → Prop}
theorem x_ifM {b : Bool} (vars' : DVars) (own' : DOwn) (ht : Tr C vars own test b) (k1 : b = true → Ex C vars own body (fun fl s => fl = .next ∧ ∃ g, At2 C vars' own' g s)) (k0 : b = false → ∀ g s, At2 C vars own g s → At2 C vars' own' g s) (k : Ex C vars' own' rest Q) :
    Ex2 C vars own (.If test body [] pos) rest Q :=
  x_if ht (fun h g s hs => wmono (k1 h g s hs) fun fl s' ⟨e, g', a⟩ => by subst e; exact k g' s' a) (fun h g s hs => wpAny_execs_nil (k g s (k0 h g s hs)))
end
end Mine
end
section
set_option linter.unusedVariables false
namespace Mine
noncomputable def perB (W : List Nat) (r : Nat) : Bool := decide (lcpN (fun p => W.getD p 0) W.length 0 r = W.length - r)
theorem perB_iff {W : List Nat} {r : Nat} (hr : r ≤ W.length) : perB W r = true ↔ Per (fun p => W.getD p 0) W.length r := by
  unfold perB; rw [decide_eq_true_eq, per_iff hr]
noncomputable def dueN (W : List Nat) : Nat → List Nat
  | 0 => []
  | m + 1 => if perB W (m + 1) then dueN W m ++ [m + 1] else dueN W m
theorem dueN_mem {W : List Nat} {r : Nat} : ∀ m, r ∈ dueN W m ↔ 1 ≤ r ∧ r ≤ m ∧ perB W r = true
  | 0 => by simp [dueN]; (first | lia | omega)
  | m + 1 => by
    unfold dueN
    split
    · rename_i h
      rw [List.mem_append, dueN_mem m, List.mem_singleton]
      constructor
      · rintro (h1 | rfl)
        · exact ⟨h1.1, by (first | lia | omega), h1.2.2⟩
        · exact ⟨by (first | lia | omega), Nat.le_refl _, h⟩
      · rintro ⟨h1, h2, h3⟩
        by_cases q : r = m + 1
        · exact .inr q
        · exact .inl ⟨h1, by (first | lia | omega), h3⟩
    · rename_i h
      rw [dueN_mem m]
      constructor
      · rintro ⟨h1, h2, h3⟩; exact ⟨h1, by (first | lia | omega), h3⟩
      · rintro ⟨h1, h2, h3⟩
        refine ⟨h1, ?_, h3⟩
        by_cases q : r = m + 1
        · subst q; exact absurd h3 h
        · (first | lia | omega)
theorem dueN_len {W : List Nat} : ∀ m, (dueN W m).length ≤ m
  | 0 => Nat.le_refl _
  | m + 1 => by
    have := dueN_len (W := W) m
    unfold dueN
    split
    · simp; (first | lia | omega)
    · (first | lia | omega)
theorem dueN_head {W : List Nat} : ∀ m, (∃ r, r ∈ dueN W m) → ∃ q, (dueN W m)[0]? = some q ∧ 1 ≤ q ∧ q ≤ m ∧ perB W q = true ∧ ∀ r, 1 ≤ r → r < q → perB W r = false
  | 0, ⟨r, h⟩ => by simp [dueN] at h
  | m + 1, ⟨r, h⟩ => by
    by_cases e : ∃ r, r ∈ dueN W m
    · obtain ⟨q, h1, h2, h3, h4⟩ := dueN_head m e
      refine ⟨q, ?_, h2, by (first | lia | omega), h4⟩
      unfold dueN
      split
      · rw [List.getElem?_append_left]
        · exact h1
        · exact (List.getElem?_eq_some_iff.mp h1).1
      · exact h1
    · have hno : ∀ r, 1 ≤ r → r ≤ m → perB W r = false := fun r h1 h2 => by
        cases q : perB W r with
        | false => rfl
        | true => exact absurd ⟨r, (dueN_mem m).mpr ⟨h1, h2, q⟩⟩ e
      have hnil : dueN W m = [] := by
        cases q : dueN W m with
        | nil => rfl
        | cons a l => exact absurd ⟨a, by rw [q]; exact .head _⟩ e
      have hp : perB W (m + 1) = true := by
        obtain ⟨h1, h2, h3⟩ := (dueN_mem (m + 1)).mp h
        by_cases q : r = m + 1
        · rw [← q]; exact h3
        · rw [hno r h1 (by (first | lia | omega))] at h3; cases h3
      refine ⟨m + 1, ?_, by (first | lia | omega), Nat.le_refl _, hp, fun r h1 h2 => hno r h1 (by (first | lia | omega))⟩
      unfold dueN
      rw [if_pos hp, hnil]; rfl
theorem perB_self (W : List Nat) : perB W W.length = true := (perB_iff (Nat.le_refl _)).mpr fun p hp => by (first | lia | omega)
theorem dueN_last {W : List Nat} (h : 1 ≤ W.length) : dueN W W.length = dueN W (W.length - 1) ++ [W.length] := by
  obtain ⟨m, hm⟩ : ∃ m, W.length = m + 1 := ⟨W.length - 1, by (first | lia | omega)⟩
  have hp := perB_self W
  rw [hm] at hp ⊢
  conv => lhs; unfold dueN
  rw [if_pos hp]; rfl
theorem perB_all {W : List Nat} {r : Nat} (hr : r ≤ W.length) : (((List.range (W.length - r)).map fun k : Nat => (k : Int)).filter fun z => decide (W.getD z.toNat 0 ≠ W.getD (z.toNat + r) 0)).isEmpty = perB W r := by
  rw [Bool.eq_iff_iff, perB_iff hr, List.isEmpty_iff, List.filter_eq_nil_iff]
  constructor
  · intro h p hp
    have := h (p : Int) (List.mem_map.mpr ⟨p, List.mem_range.mpr (by (first | lia | omega)), rfl⟩)
    rw [Int.toNat_natCast] at this
    simpa using this
  · intro h z hz
    obtain ⟨k, hk, rfl⟩ := List.mem_map.mp hz
    have hk := List.mem_range.mp hk
    have := h k (by (first | lia | omega))
    rw [Int.toNat_natCast]
    simpa using this
end Mine
end
section
open PySem PySem.W PyProof.Rows PySem.Calls PySem.SeqAt Builtin
set_option Elab.async false
set_option linter.unusedVariables false
set_option maxRecDepth 100000
namespace Mine
noncomputable def SeqHas (h : Heap) (t : Addr) (items : Array Value) : Prop := ∃ o, h.get? t = some o ∧ ∃ n, o.data = .seq items n
section
variable {prog : Program} {w : World} {A : Around} {E : Value → Shared → Prop} {s : Shared} {it t : Addr} {i : Nat} {items : Array Value}
theorem SeqHas.keep {h h' : Heap} (x : SeqHas h t items) (k : ∀ o, h.get? t = some o → h'.get? t = some o) : SeqHas h' t items := let ⟨o, e, r⟩ := x; ⟨o, k o e, r⟩
theorem tupit_item {x : Value} {Q : Option Value → Shared → Prop} (hit : s.heap.IsTupleIter it t i) (ht : SeqHas s.heap t items) (hx : items[i]? = some x)
    (hQ : ∀ h', h'.IsTupleIter it t (i + 1) → Heap.SameBut it s.heap h' → Q (some x) { s with heap := h' }) : wpAny (model prog w) A (pyNext (.ref it)) Q E s := by
  obtain ⟨o, ho, hc, hd⟩ := id hit
  obtain ⟨ol, hol, nl, hdl⟩ := ht
  unfold pyNext
  refine wpAny_bind (wpAny_attempt (wpAny_callSpecial?_slot (name := Str.ofString "__next__") hit.typeIs PySem.F.slot_tuple_iterator_next (wpAny_call_entry PySem.F.slot_tuple_iterator_next hit.typeIs PySem.F.entry_tuple_iterator_next ?_ (PySem.F.args_tuple_iterator_next_1 _))))
  show wpAny _ _ (field (.ref it) 0 >>= _) _ _ s
  refine wpAny_bind (wpAny_field ho hd (x := .ref t) rfl ?_)
  show wpAny _ _ (if (Value.ref t == Value.none) = true then _ else _) _ _ s
  rw [if_neg (show ¬ ((Value.ref t == Value.none) = true) from Bool.false_ne_true)]
  show wpAny _ _ (field (.ref it) 1 >>= _) _ _ s
  refine wpAny_bind (wpAny_field ho hd (x := .int i 0) rfl (wpAny_bind (wpAny_seqItems hol hdl ?_)))
  simp only [Int.toNat_natCast, hx]
  refine wpAny_bind (wpAny_setField ho hd (by simp) (wpAny_pure ⟨x, rfl, wpAny_pure (hQ _ ⟨_, Heap.get?_update_self _ ho (Obj.isFreed_of_fields (Obj.data_mapFields hd _)), (Obj.cls_mapFields ..).trans hc, ?_⟩ (Heap.SameBut.update ..))⟩))
  rw [Obj.data_mapFields hd]; simp [rawInt]
theorem tupit_end {Q : Option Value → Shared → Prop} (hh : A.handled = none) (hit : s.heap.IsTupleIter it t i) (ht : SeqHas s.heap t items) (hx : items[i]? = none)
    (hQ : ∀ h', Heap.ExtBut it s.heap h' → Q none { s with heap := h' }) : wpAny (model prog w) A (pyNext (.ref it)) Q E s := by
  obtain ⟨o, ho, hc, hd⟩ := id hit
  obtain ⟨ol, hol, nl, hdl⟩ := ht
  unfold pyNext
  refine wpAny_bind (wpAny_attempt (wpAny_callSpecial?_slot (name := Str.ofString "__next__") hit.typeIs PySem.F.slot_tuple_iterator_next (wpAny_call_entry PySem.F.slot_tuple_iterator_next hit.typeIs PySem.F.entry_tuple_iterator_next ?_ (PySem.F.args_tuple_iterator_next_1 _))))
  show wpAny _ _ (field (.ref it) 0 >>= _) _ _ s
  refine wpAny_bind (wpAny_field ho hd (x := .ref t) rfl ?_)
  show wpAny _ _ (if (Value.ref t == Value.none) = true then _ else _) _ _ s
  rw [if_neg (show ¬ ((Value.ref t == Value.none) = true) from Bool.false_ne_true)]
  show wpAny _ _ (field (.ref it) 1 >>= _) _ _ s
  refine wpAny_bind (wpAny_field ho hd (x := .int i 0) rfl (wpAny_bind (wpAny_seqItems hol hdl ?_)))
  simp only [Int.toNat_natCast, hx]
  refine wpAny_bind (wpAny_rule (wpAny_bind (wpAny_setField ho hd (by simp) ?_)))
  show wpAny _ _ (newExc (.type "StopIteration") [] >>= _) _ _ _
  refine wpAny_bind ?_
  simp only [newExc, newTuple]
  refine wpAny_bind (wpAny_newObj_type ?_ (by size_fits))
  refine wpAny_bind (m := firstArgMember _ _) (wpAny_of_eq (a := Value.none) (by first | rfl | (simp only [firstArgMember]; rfl)) ?_)
  refine wpAny_newObj_type ?_ (by size_fits)
  simp only [raiseNew]
  refine wpAny_bind (wpAny_handled ?_)
  rw [show A.in1.handled = none from hh]
  refine wpAny_bind (wpAny_pure (wpAny_throw ?_))
  refine wpAny_bind (wpAny_isInstance (T := "StopIteration") (b := true) ⟨_, Heap.get?_push_size _ rfl, rfl⟩ isSubtype_stop ?_)
  exact wpAny_pure (hQ _ (((Heap.SameBut.update ..).extBut.push _).push _))
theorem wk_seq {I : Addr} (hh : A.handled = none) (hne : t ≠ I) : Wk prog w A I [I, t] [I] items.size (fun i v => items[i]? = some v) (fun i h => h.IsTupleIter I t i ∧ SeqHas h t items) where
  sub := fun b hb => by simp at hb; simp [hb]
  item := fun i s Q E hi st hQ => by
    have hv : items[i]? = some items[i] := Array.getElem?_eq_getElem hi
    exact tupit_item (s := s) st.1 st.2 hv fun h' hit sb => hQ _ h' s.toks hv ⟨hit, st.2.keep fun o e => (sb.2 _ hne).trans e⟩ fun b o hb e => (sb.2 b (by simpa using hb)).trans e
  done := fun s Q E st hQ => tupit_end (s := s) hh st.1 st.2 (Array.getElem?_eq_none (Nat.le_refl _)) fun h' hx => hQ h' s.toks fun b o hb e => hx b o (by simpa using hb) e
end
section
variable {w : World} {A : Around} {E : Value → Shared → Prop} {s : Shared} {m dx : Addr} {x y z : Value}
theorem mat_ty (hm : s.heap.get? m = some (matchObj dx x y z)) : Looks (model pw_ w) s.heap (typeOf (.ref m)) (.ref 135) := (Looks.ld hm).andThen .now
theorem mat_sp {name : PySem.Str} {r : Option Value} (X : (K w.params).In s.heap) (hm : s.heap.get? m = some (matchObj dx x y z)) (f : findIn (K w.params) (.ref 135) name = some r) : Looks (model pw_ w) s.heap (specialOf (.ref m) name) r := by
  unfold specialOf
  exact (mat_ty hm).andThen (looks_findIn X f)
theorem mat_tup (X : (K w.params).In s.heap) (hm : s.heap.get? m = some (matchObj dx x y z)) : Looks (model pw_ w) s.heap (isInstance (.ref m) (.type "tuple")) true := (mat_ty hm).andThen (looks_mroIn X (by kernel_rfl))
theorem mat_slot {id n : String} {B : Builtin} {Q : Value → Shared → Prop} (X : (K w.params).In s.heap) (hm : s.heap.get? m = some (matchObj dx x y z)) (hk : builtinKind id = some .slot) (hs : splitId id = some ("tuple", n)) (ha : argsOk id ⟨[.ref m], []⟩) (hb : entryFor table id = some B) (hp : plainId id = true)
    (h : wpAny (model pw_ w) A.in1 (B ⟨[.ref m], []⟩) (fun fin s' => ∃ v, fin = .done (.ret v) ∧ Q v s') E s) : wpAny (model pw_ w) A (call (.builtin id) [.ref m]) Q E s := by
  refine wpAny_call (codeAny_call_builtin_at (plainId_quiet hp _) hb (check_slot hk hs (mat_tup X hm) ha ?_))
  rw [Around.under_plainId hp _]
  exact wpAny_mono h (fun fin s' ⟨v, e, q⟩ => by subst e; exact q) fun _ _ e => e
theorem iter_mat {Q : Value → Shared → Prop} (X : (K w.params).In s.heap) (hm : s.heap.get? m = some (matchObj dx x y z)) (hQ : Q (.ref s.heap.objs.size) { s with heap := s.heap.push { cls := .type "tuple_iterator", data := .fields #[.ref m, .int (0 : Nat) 0] } }) :
    wpAny (model pw_ w) A (pyIter (.ref m)) Q E s := by
  have sp := mat_sp (name := "__iter__") (r := some (.builtin "tuple.__iter__")) X hm (by kernel_rfl)
  have hb : bindSpecial (.builtin "tuple.__iter__") (.ref m) = pure (.builtin "tuple.__iter__", [.ref m]) := by kernel_rfl
  have hc : wpAny (model pw_ w) A (call (.builtin "tuple.__iter__") [.ref m] >>= fun v => pure (some v)) (fun r s' => r = some (.ref s.heap.objs.size) ∧ s' = { s with heap := s.heap.push { cls := .type "tuple_iterator", data := .fields #[.ref m, .int (0 : Nat) 0] } }) E s := by
    refine wpAny_bind (mat_slot (n := "__iter__") X hm (by kernel_rfl) (by decide +kernel) (PySem.F.args_tuple_iter_1 _) PySem.F.entry_tuple_iter (by decide +kernel) ?_)
    show wpAny _ _ (do ret (← newFields "tuple_iterator" [.ref m, rawInt 0])) _ _ s
    exact wpAny_bind (wpAny_newObj_type (wpAny_pure ⟨_, rfl, wpAny_pure ⟨rfl, rfl⟩⟩))
  unfold pyIter
  refine wpAny_bind (sp.here ?_)
  show wpAny _ _ (callSpecialIfBoundUnlessNone? (.ref m) "__iter__" _ >>= _) Q E s
  refine wpAny_bind (wpAny_mono (Q := fun r s' => r = some (.ref s.heap.objs.size) ∧ s' = { s with heap := s.heap.push { cls := .type "tuple_iterator", data := .fields #[.ref m, .int (0 : Nat) 0] } }) ?_ (fun r s' hr => ?_) fun _ _ e => e)
  · simp only [callSpecialIfBoundUnlessNone?, bindSpecialIfBound?]
    refine wpAny_holding (wpAny_bind (wpAny_bind (sp.here ?_)))
    refine wpAny_bind (wpAny_askSetting (wpAny_ite ?_))
    have fin2 : ∀ r : Sem Value, wpAny (model pw_ w) A (if (Value.builtin "tuple.__iter__" == Value.none) = true then (r >>= fun v => pure (some v)) else (call (.builtin "tuple.__iter__") [.ref m] >>= fun v => pure (some v))) (fun r s' => r = some (.ref s.heap.objs.size) ∧ s' = { s with heap := s.heap.push { cls := .type "tuple_iterator", data := .fields #[.ref m, .int (0 : Nat) 0] } }) E s := fun r => by
      rw [if_neg (show ¬ ((Value.builtin "tuple.__iter__" == Value.none) = true) by simp)]
      exact hc
    split
    · exact wpAny_bind (wpAny_of_eq hb (wpAny_pure (by exact fin2 _)))
    · exact wpAny_tryCatch (wpAny_bind (wpAny_of_eq hb (wpAny_pure (by exact fin2 _))))
  · obtain ⟨rfl, rfl⟩ := hr
    exact wpAny_bind (wpAny_specialOf (T := "tuple_iterator") ⟨_, Heap.get?_push_size _ rfl, rfl⟩ PySem.F.slot_tuple_iterator_next.lookup (wpAny_pure hQ))
theorem len_mat {Q : Value → Shared → Prop} (X : (K w.params).In s.heap) (hm : s.heap.get? m = some (matchObj dx x y z)) (hQ : ∀ tk tk', Q (.int (3 : Nat) tk) { s with toks := tk' }) : wpAny (model pw_ w) A (call (.builtin "len") [.ref m]) Q E s := by
  refine call_function_entry kind_len plain_len entry_len (args_len1 _) ?_
  unfold Builtin.«len»
  refine wpAny_bind (m := oneArg "len" _) (wpAny_pure ?_)
  have sp := mat_sp (name := "__len__") (r := some (.builtin "tuple.__len__")) X hm (by kernel_rfl)
  have hb : bindSpecial (.builtin "tuple.__len__") (.ref m) = pure (.builtin "tuple.__len__", [.ref m]) := by kernel_rfl
  refine wpAny_bind (m := callSpecial? (.ref m) (Str.ofString "__len__")) ?_
  unfold callSpecial?
  refine wpAny_bind (sp.here ?_)
  dsimp only
  refine wpAny_holding (wpAny_bind (wpAny_of_eq hb ?_))
  refine wpAny_bind (mat_slot (n := "__len__") X hm (by kernel_rfl) (by decide +kernel) (PySem.F.args_tuple_len_1 _) PySem.F.entry_tuple_len (by decide +kernel) ?_)
  show wpAny _ _ (Builtin.Tuple.tupleItemsOf (.ref m) >>= fun xs => retInt (xs.size : Int)) _ _ s
  unfold Builtin.Tuple.tupleItemsOf seqItems?
  refine wpAny_bind (wpAny_bind (wpAny_bind (wpAny_load hm ?_)))
  refine wpAny_pure (wpAny_pure (wpAny_bind (wpAny_mkInt (wpAny_pure ⟨_, rfl, ?_⟩))))
  refine wpAny_pure ?_
  refine wpAny_bind (wpAny_holding (wpAny_pure ?_))
  refine wpAny_bind (wpAny_letGo ?_)
  show wpAny _ _ (if ((3 : Nat) : Int) < 0 then _ else _) _ _ _
  rw [if_neg (by decide)]
  show wpAny _ _ (if ((3 : Nat) : Int) ≥ 2 ^ 63 then _ else _) _ _ _
  rw [if_neg (by decide)]
  exact wpAny_bind (wpAny_mkInt (wpAny_pure ⟨_, rfl, hQ _ _⟩))
end
section
variable {prog : Program} {w : World} {A : Around} {I : Addr} {fp wr : List Addr} {n : Nat} {P : Nat → Value → Prop} {St : Nat → Heap → Prop} {R : Result → Shared → Prop}
theorem ext_loop (W : Wk prog w A.in1 I fp wr n P St) (fr : ∀ i h h', St i h → (∀ b ∈ fp, ∀ o, h.get? b = some o → h'.get? b = some o) → St i h') (hn : n ≤ sizeLine) (S : Addr) (hSf : S ∉ fp) (res : Value) :
    ∀ (k i : Nat) (s : Shared) (acc : Array Value) (c : Nat), n - i = k → i ≤ n → St i s.heap → s.heap.get? S = some { cls := .type "list", dict := none, data := .seq acc c, slots := #[] } → ItemsOf P acc i →
    (∀ h' tk acc' c', (∀ b o, b ∉ S :: wr → s.heap.get? b = some o → h'.get? b = some o) → h'.get? S = some { cls := .type "list", dict := none, data := .seq acc' c', slots := #[] } → ItemsOf P acc' n → R (.ok (.ret res)) { s with heap := h', toks := tk }) →
    codeAny (model prog w) A (.builtin "list.extend.loop" ⟨[.ref S, .ref I, res], []⟩) R s := by
  have hSw : S ∉ wr := fun h => hSf (W.sub _ h)
  intro k
  induction k with
  | zero =>
    intro i s acc c hk hi hst hS hacc hR
    have hin : i = n := by (first | lia | omega)
    subst hin
    refine codeAny_builtin F.entry_extend_loop ?_
    rw [Around.under_plainId F.plain_extend_loop _]
    show wpAny _ A.in1 (pyNext (.ref I) >>= _) _ _ s
    refine wpAny_bind (W.done s _ _ hst fun h' tk hm => ?_)
    exact wpAny_pure (hR h' tk acc c (fun b o hb e => hm b o (fun h => hb (List.mem_cons_of_mem _ h)) e) (hm S _ hSw hS) hacc)
  | succ k ih =>
    intro i s acc c hk hi hst hS hacc hR
    have hlt : i < n := by (first | lia | omega)
    refine codeAny_builtin F.entry_extend_loop ?_
    rw [Around.under_plainId F.plain_extend_loop _]
    show wpAny _ A.in1 (pyNext (.ref I) >>= _) _ _ s
    refine wpAny_bind (W.item i s _ _ hlt hst fun v h' tk hP hst' hm => ?_)
    have hS' := hm S _ hSw hS
    show wpAny _ A.in1 (updateSeq S (·.push v) >>= _) _ _ _
    refine wpAny_bind ?_
    refine wpAny_updateSeq hS' rfl (wpAny_pure ⟨plainId_quiet F.plain_extend_loop _, ih (i + 1) _ (acc.push v) _ (by (first | lia | omega)) hlt (fr _ h' _ hst' fun b hb o e => ?_) (Heap.get?_update_self _ hS' rfl) (hacc.push hP) fun h'' tk' acc' c' hm'' hS'' hacc' => ?_⟩)
      (by rw [hacc.1]; (first | lia | omega)) (by show (acc.push v).size ≤ sizeLine + 1; rw [Array.size_push, hacc.1]; (first | lia | omega))
    · exact (Heap.get?_update_other _ _ (fun h : S = b => hSf (by rw [h]; exact hb))).trans e
    · refine hR h'' tk' acc' c' (fun b o hb e => hm'' b o hb ?_) hS'' hacc'
      exact (Heap.get?_update_other _ _ (fun h : S = b => hb (by rw [h]; exact List.mem_cons_self))).trans (hm b o (fun h => hb (List.mem_cons_of_mem _ h)) e)
end
section
variable {w : World} {A : Around} {E : Value → Shared → Prop} {s : Shared} {m dx : Addr} {x y z : Value}
theorem collect_mat {Q : List Value → Shared → Prop} (X : (K w.params).In s.heap) (hh : A.handled = none) (hm : s.heap.get? m = some (matchObj dx x y z))
    (hQ : ∀ h' tk, (∀ b o, s.heap.get? b = some o → h'.get? b = some o) → Q [x, y, z] { s with heap := h', toks := tk }) : wpAny (model pw_ w) A (collect (.ref m)) Q E s := by
  have ne : ∀ {b o}, s.heap.get? b = some o → b ≠ s.heap.objs.size := fun e h => Nat.lt_irrefl _ (Nat.lt_of_lt_of_eq (Heap.lt_size e) h.symm)
  unfold collect
  refine wpAny_bind (wpAny_runValue (codeAny_builtin F.entry_proto_collect ?_))
  rw [Around.under_plainId F.plain_proto_collect _]
  show wpAny _ A.in1 (newList [] >>= fun l => again (.builtin "list.__iadd__" ⟨[l, .ref m], []⟩)) _ _ s
  refine wpAny_bind (wpAny_newObj_type ?_)
  refine wpAny_pure ⟨plainId_quiet F.plain_list_iadd _, codeAny_builtin F.entry_list_iadd ?_⟩
  rw [Around.under_plainId F.plain_list_iadd _]
  have e1 : Ext s.heap (s.heap.push { cls := .type "list", data := .seq ([] : List Value).toArray }) := fun _ _ e => Heap.get?_push_of_some _ e
  have X1 : (K w.params).In _ := fun a o e => e1 a o (X a o e)
  have hm1 := e1 _ _ hm
  have hS1 : (s.heap.push { cls := .type "list", data := .seq ([] : List Value).toArray }).get? s.heap.objs.size = some { cls := .type "list", data := .seq ([] : List Value).toArray } := Heap.get?_push_size _ rfl
  show wpAny _ A.in1 (Builtin.List.listExtendWith (.ref s.heap.objs.size) (.ref m) (.ref s.heap.objs.size)) _ _ _
  unfold Builtin.List.listExtendWith
  refine wpAny_bind ((mat_ty hm1).here ?_)
  have h1 : Builtin.List.listSameRef (.ref s.heap.objs.size) (.ref m) = false := by simp [Builtin.List.listSameRef, Ne.symm (ne hm)]
  have h2 : (Value.ref 135 == Value.type "list") = false := by decide
  have h3 : (Value.ref 135 == Value.type "tuple") = false := by decide
  simp only [h1, h2, h3, Bool.or_false, Bool.false_eq_true, if_false]
  refine wpAny_bind (iter_mat X1 hm1 ?_)
  generalize hb1 : s.heap.push { cls := .type "list", data := .seq ([] : List Value).toArray } = a1 at *
  have e2 : Ext a1 (a1.push { cls := .type "tuple_iterator", data := .fields #[.ref m, .int (0 : Nat) 0] }) := fun _ _ e => Heap.get?_push_of_some _ e
  have hI2 : (a1.push { cls := .type "tuple_iterator", data := .fields #[.ref m, .int (0 : Nat) 0] }).get? a1.objs.size = some { cls := .type "tuple_iterator", data := .fields #[.ref m, .int (0 : Nat) 0] } := Heap.get?_push_size _ rfl
  have hIS : a1.objs.size ≠ s.heap.objs.size := fun h => Nat.lt_irrefl _ (Nat.lt_of_lt_of_eq (Heap.lt_size hS1) h)
  have hIm : m ≠ a1.objs.size := fun h => Nat.lt_irrefl _ (Nat.lt_of_lt_of_eq (Heap.lt_size hm1) h.symm)
  have X2 : (K w.params).In _ := fun a o e => e2 a o (X1 a o e)
  have hm2 := e2 _ _ hm1
  have hS2 := e2 _ _ hS1
  have hlow : ∀ b o, s.heap.get? b = some o → (a1.push { cls := .type "tuple_iterator", data := .fields #[.ref m, .int (0 : Nat) 0] }).get? b = some o ∧ b ≠ s.heap.objs.size ∧ b ≠ a1.objs.size := fun b o e => ⟨e2 _ _ (e1 _ _ e), ne e, fun h => Nat.lt_irrefl _ (Nat.lt_of_lt_of_eq (Heap.lt_size (e1 _ _ e)) h.symm)⟩
  generalize a1.push { cls := .type "tuple_iterator", data := .fields #[.ref m, .int (0 : Nat) 0] } = a2 at *
  refine wpAny_bind (wpAny_holding ?_)
  unfold Builtin.List.listLengthHint
  refine wpAny_bind ((mat_sp (name := "__len__") (r := some (.builtin "tuple.__len__")) X2 hm2 (by kernel_rfl)).here ?_)
  have hspl : splitId "tuple.__len__" = some ("tuple", "__len__") := by decide +kernel
  simp only [hspl]
  refine wpAny_bind ((mat_tup X2 hm2).here ?_)
  rw [if_neg (by decide), if_pos ?sl]
  case sl => decide +kernel
  refine wpAny_bind ((mat_ty hm2).here ?_)
  refine wpAny_bind (len_mat X2 hm2 fun tk tk' => ?_)
  refine wpAny_bind (wpAny_pure ?_)
  refine wpAny_pure ?_
  rw [if_pos ?rm]
  case rm => rfl
  refine wpAny_bind (wpAny_rule ?_)
  refine wpAny_bind ?_
  show wpAny _ _ (updateSeq s.heap.objs.size (·.push .none) >>= fun _ => updateSeq s.heap.objs.size (·.pop)) _ _ _
  refine wpAny_bind (wpAny_updateSeq hS2 rfl ?_)
  have hS3 := Heap.get?_update_self (Obj.mapSeq (·.push Value.none)) hS2 rfl
  refine wpAny_updateSeq hS3 rfl ?_
  have hS4 := Heap.get?_update_self (Obj.mapSeq (·.pop)) hS3 rfl
  have oth : ∀ b o, b ≠ s.heap.objs.size → a2.get? b = some o → ((a2.update s.heap.objs.size (Obj.mapSeq (·.push Value.none))).update s.heap.objs.size (Obj.mapSeq (·.pop))).get? b = some o :=
    fun b o hb e => (Heap.get?_update_other _ _ (Ne.symm hb)).trans ((Heap.get?_update_other _ _ (Ne.symm hb)).trans e)
  have hI4 := oth _ _ hIS hI2
  have hm4 := oth _ _ (ne hm) hm2
  have nS : s.heap.objs.size ∉ [a1.objs.size, m] := by simp; exact ⟨Ne.symm hIS, Ne.symm (ne hm)⟩
  refine wpAny_pure ⟨plainId_quiet F.plain_extend_loop _, ext_loop (wk_seq (items := #[x, y, z]) hh hIm) (fun i h h' st k => ?_) (by size_fits) _ nS _ 3 0 _ _ _ rfl (Nat.zero_le _) ⟨⟨_, hI4, rfl, rfl⟩, _, hm4, 0, rfl⟩ hS4 (ItemsOf.nil _) fun h' tk acc c hk hS' it => ?_⟩
  · obtain ⟨⟨o, ho, r⟩, o', ho', r'⟩ := st
    exact ⟨⟨o, k _ (by simp) _ ho, r⟩, o', k _ (by simp) _ ho', r'⟩
  show wpAny _ A (load s.heap.objs.size >>= _) _ _ _
  refine wpAny_bind (wpAny_load hS' ?_)
  have ea : acc = #[x, y, z] := by
    refine Array.ext it.1 fun i h1 h2 => ?_
    have e : (#[x, y, z] : Array Value)[i]? = some acc[i] := it.2 i acc[i] (Array.getElem?_eq_getElem h1)
    exact (Option.some.inj ((Array.getElem?_eq_getElem h2).symm.trans e)).symm
  subst ea
  refine wpAny_pure (hQ h' tk fun b o e => ?_)
  obtain ⟨k1, k2, k3⟩ := hlow b o e
  exact hk b o (by simp; exact ⟨k2, k3⟩) (oth b o k2 k1)
end
section
variable {prog : Program} {w : World} {A : Around} {E : Value → Shared → Prop} {s : Shared} {m : Addr}
theorem tuple_of {c : Addr} {xs : List Value} {Q : Value → Shared → Prop} (hz : xs.length ≤ sizeLine)
    (ty : ∀ {Q : Value → Shared → Prop} {E : Value → Shared → Prop}, Q (.ref c) s → wpAny (model prog w) A.in1.in1 (typeOf (.ref m)) Q E s)
    (co : ∀ {Q : List Value → Shared → Prop} {E : Value → Shared → Prop}, (∀ (h' : Heap) tk, (∀ b o, s.heap.get? b = some o → h'.get? b = some o) → Q xs { s with heap := h', toks := tk }) → wpAny (model prog w) A.in1.in1 (collect (.ref m)) Q E s)
    (hQ : ∀ (h' : Heap) tk, (∀ b o, s.heap.get? b = some o → h'.get? b = some o) → Q (.ref h'.objs.size) { s with heap := h'.push { cls := .type "tuple", data := .seq xs.toArray }, toks := tk }) : wpAny (model prog w) A (call (.type "tuple") [.ref m]) Q E s := by
  refine callType_codes (Q₁ := fun obj s₁ => s₁.TypeIs obj "tuple" ∧ Q obj s₁) F.called_tuple (F.typeCall_tuple_1 _) F.entry_object_init ?_ fun obj s₁ h₁ =>
    ⟨h₁.1, F.args_object_init_2 obj _, object_init_meets F.called_tuple.init.lookup F.called_tuple.made (by decide) prog w A.in1 _ s₁ ⟨h₁.1, rfl, h₁.2⟩⟩
  refine codeAny_call_builtin_at (plainId_quiet F.plain_tuple_new _) F.entry_tuple_new (wpAny_of_eq (F.newCall_tuple_1 _) ?_)
  rw [Around.under_plainId F.plain_tuple_new _]
  have hsub := sub_tuple_self
  have hinit := init_tuple_lookup
  have hmh := madeHere_tuple
  have h0 : (Value.ref c == Value.type "tuple") = false := rfl
  wp_walk using ty, co
  intro h' tk k
  show wpAny _ _ (Builtin.Tuple.tupleExact xs.toArray >>= fun v => ret v) _ _ _
  unfold Builtin.Tuple.tupleExact
  exact wpAny_bind (wpAny_newObj_type (wpAny_pure ⟨⟨_, Heap.get?_push_size _ rfl, rfl⟩, hQ h' tk k⟩) (show xs.toArray.size ≤ sizeLine by simpa using hz))
end
section
variable {C : Cc} {i j k : Int}
theorem FnC.tupM (R : RunC C) : FnC C (.type "tuple") [.sp (IsMat 135 i j k)] (.tup [.int i, .int j, .int k]) := fun g s vs f r => by
  cases r using Reps.eCons with
  | cons r rs =>
    cases rs using Reps.eNil
    cases r using Rep.eSp with
    | sp hP hM =>
    obtain ⟨m, dx, t, u, q, rfl, hm⟩ := hP
    have X := (f.cx.ext f.sub).X
    rw [R.K] at X
    have hs := f.sub _ _ hm
    rw [R.prog]
    refine tuple_of (c := 135) (xs := [.int i t, .int j u, .int k q]) (by size_fits) (mat_ty hs).here (collect_mat X R.room.handled hs) fun h' tk e => ?_
    have n2 : (h'.push { cls := .type "tuple", data := .seq #[.int i t, .int j u, .int k q] }).get? h'.objs.size = some { cls := .type "tuple", data := .seq #[.int i t, .int j u, .int k q] } := Heap.get?_push_size _ rfl
    have n1 : s.heap.get? h'.objs.size = none := Option.eq_none_iff_forall_ne_some.mpr fun o q => Nat.lt_irrefl _ (Heap.lt_size (e _ _ q))
    have kp : Keeps s { s with heap := h'.push { cls := .type "tuple", data := .seq #[.int i t, .int j u, .int k q] }, toks := tk } := ⟨_, _, rfl, fun b o q => Heap.get?_push_of_some _ (e b o q)⟩
    exact ⟨grow g s _, Gr.max f.sub kp, .tup ⟨0, grow_new n1 n2⟩ (.cons (.int _ _) (.cons (.int _ _) (.cons (.int _ _) .nil)))⟩
end
end Mine
end
section
open PySem PySem.W PyProof.Rows PySem.Calls PySem.SeqAt
set_option Elab.async false
set_option linter.unusedVariables false
set_option maxRecDepth 100000
set_option maxHeartbeats 0
namespace Mine
local macro_rules | `(tactic| walk_at "any") => `(tactic| first | kernel_rfl | walk_at "args" | walk_at "tr" | walk_at "op" | walk_at "ev")
local macro_rules | `(tactic| walk_at "nma") => `(tactic| first | kernel_rfl | (walk_at "lu"; done) | walk_at "mr")
local macro_rules | `(tactic| walk_at "mo") => `(tactic| first | (apply Or.inl; walk_at "m"; done) | (apply Or.inr; walk_at "mr"; done))
local macro_rules | `(tactic| walk_at "m") => `(tactic| (repeat' (first | (with_reducible first | exact List.mem_cons_self | exact mem1 | exact mem2 | exact mem3 | exact mem4 | exact mem5) | (with_reducible refine mem6 ?_) | (with_reducible refine List.mem_cons_of_mem _ ?_))))
local macro_rules | `(tactic| walk_at "mr") => `(tactic| first | (walk_at "m"; done) | ((with_reducible refine List.mem_append_left _ ?_); walk_at "m"; done) | ((with_reducible refine List.mem_append_right _ ?_); walk_at "m"; done) | ((with_reducible refine List.mem_append_right _ (List.mem_append_left _ ?_)); walk_at "m"; done) | ((with_reducible refine List.mem_append_right _ (List.mem_append_right _ ?_)); walk_at "m"; done))
local macro_rules | `(tactic| walk_at "dd") => `(tactic| (repeat' (first | exact DDrop.nil | (with_reducible refine' DDrop.skip ?_) | (with_reducible refine' DDrop.keep (by kernel_rfl) ?_))))
local macro_rules | `(tactic| walk_at "lu") => `(tactic| (repeat' (first | (with_reducible exact LU.here) | (with_reducible refine' LU.there (by kernel_rfl) ?_))))
local macro_rules | `(tactic| walk_at "pu") => `(tactic| (repeat' (first | (with_reducible exact DPut.here) | (with_reducible refine' DPut.there ?_))))
local macro_rules | `(tactic| walk_at "vs") => `(tactic| (repeat' (first | exact sub_nil | (with_reducible refine sub_cons (by walk_at "m") ?_) | exact List.forall_mem_nil _ | (with_reducible refine List.forall_mem_cons.mpr ⟨by walk_at "m", ?_⟩))))
local macro_rules | `(tactic| walk_at "dw") => `(tactic| (repeat' (first | (with_reducible exact DW.nil) | (with_reducible refine' DW.same ?_) | (with_reducible refine' DW.cell ?_) | (with_reducible refine' DW.cell0 ?_) | (with_reducible refine' DW.drop ?_))))
local macro_rules | `(tactic| walk_at "blt") => `(tactic| (apply Callee.blt <;> kernel_rfl))
local macro_rules | `(tactic| walk_at "glob") => `(tactic| (apply Callee.glob <;> kernel_rfl))
local macro_rules | `(tactic| walk_at "hh") => `(tactic| assumption)
local macro_rules | `(tactic| walk_at "side") => `(tactic| first
  | assumption
  | (first | lia | omega)
  | (simp only [sl_ab, sl_a, sl_b, List.length_append, List.length_take, List.length_drop, List.length_map, List.length_cons, List.length_nil, List.length_reverse]; (first | lia | omega))
  | ((refine Nat.le_trans (pySl_le _ _ _ _) ?_); (first | lia | omega))
  | ((refine Nat.le_trans (Nat.add_le_add (pySl_le _ _ _ _) (Nat.le_refl _)) ?_); (first | lia | omega))
  | ((refine Nat.le_trans (Nat.add_le_add (Nat.le_refl _) (pySl_le _ _ _ _)) ?_); (first | lia | omega))
  | decide)
local macro_rules | `(tactic| walk_at "op") => `(tactic| first
  | (with_reducible first | exact Bin.add | exact Bin.sub | exact Cmp.eq)  | with_reducible exact Cmp.lt  | (with_reducible first | exact Cmp.gt | exact Cmp.ge | exact Cmp.isNone | exact Cmp.isNoneInt | exact Cmp.eqLs | exact Cmp.neLs)
  | ((with_reducible refine' Bin.addStr ?h1); (case h1 => walk_at "side"))
  | ((with_reducible refine' Bin.mod ?h1); (case h1 => walk_at "side"))
  | ((with_reducible refine' Bin.div ?h1 ?h2); (case h1 => walk_at "side"); (case h2 => walk_at "side"))
  | ((with_reducible refine' Bin.mulL ?h1); (case h1 => walk_at "side")))
local macro_rules | `(tactic| walk_at "nm") => `(tactic| first
  | ((with_reducible apply Ev.local_) <;> walk_at "nma")
  | ((with_reducible apply Ev.cellU) <;> walk_at "nma")
  | ((with_reducible apply Ev.cellR) <;> walk_at "nma")
  | ((with_reducible apply Ev.freeR) <;> walk_at "nma"))
local macro_rules | `(tactic| walk_at "args") => `(tactic| first
  | with_reducible exact EvArgs.nil
  | ((with_reducible apply EvArgs.cons) <;> walk_at "any"))
local macro_rules | `(tactic| walk_at "part") => `(tactic| first | with_reducible exact EvPart.nil | ((with_reducible refine' EvPart.one ?e1); (case e1 => walk_at "ev")))
local macro_rules | `(tactic| walk_at "evl") => `(tactic| first
  | ((with_reducible apply EvL.of) <;> walk_at "any"))
local macro_rules | `(tactic| walk_at "ev") => `(tactic| first
  | with_reducible assumption
  | (with_reducible first | exact Ev.int | exact Ev.strL | exact Ev.none | exact Ev.bool)
  | walk_at "nm"
  | ((with_reducible apply Ev.bin) <;> walk_at "any")
  | ((with_reducible apply Ev.cmp) <;> walk_at "any")
  | ((with_reducible apply Ev.neg) <;> walk_at "any")
  | ((with_reducible refine' Ev.tuple ?e1 ?e2); (case e1 => walk_at "args"); (case e2 => walk_at "side"))
  | ((with_reducible refine' Ev.list ?e1 ?e2); (case e1 => walk_at "args"); (case e2 => walk_at "side"))
  | ((with_reducible refine' Ev.attrI (attr := Option.none) ?e1 ?e2 ?e3 ?e4 ?e5 ?e6 ?e7 ?e8); (case e1 => walk_at "ev"); (case e2 => walk_at "mo"); (case e3 => first | assumption | walk_at "m"); all_goals kernel_rfl)
  | ((with_reducible refine' SeqK.item ?e0 ?e1 ?e2 ?e3 ?e4 ?e5); (case e1 => walk_at "ev"); (case e0 => assumption); (case e2 => walk_at "ev"); (case e3 => walk_at "side"); (case e4 => assumption); (case e5 => intro _ _; kernel_rfl))
  | ((with_reducible refine' SeqK.len (id := S "len") ?e0 ?e1 ?e2 ?e3); (case e2 => walk_at "ev"); (case e0 => assumption); (case e1 => walk_at "blt"); all_goals kernel_rfl)
  | ((with_reducible refine' Ev.itemStr ?e1 ?e2 ?e3 ?e4 ?e5 ?e6); (case e1 => walk_at "ev"); (case e2 => walk_at "ev"); (case e3 => walk_at "side"); (case e4 => assumption); (case e5 => walk_at "side"); (case e6 => intro _ _; kernel_rfl))
  | ((with_reducible refine' Ev.itemL ?e1 ?e2 ?e3 ?e4 ?e5 ?e6); (case e1 => walk_at "evl"); (case e2 => walk_at "ev"); (case e3 => walk_at "side"); (case e4 => assumption); (case e5 => walk_at "side"); (case e6 => intro _ _; kernel_rfl))
  | ((with_reducible refine' Ev.sliceStr ?e1 ?e2 ?e3 ?e4 ?e5); (case e1 => walk_at "ev"); (case e2 => walk_at "part"); (case e3 => walk_at "part"); (case e4 => walk_at "side"); (case e5 => intro _ _; kernel_rfl))
  | ((with_reducible refine' Ev.slice1 ?e1 ?e2 ?e3 ?e4 ?e5); (case e1 => walk_at "evl"); (case e2 => walk_at "part"); (case e3 => walk_at "part"); (case e4 => walk_at "side"); (case e5 => intro _ _; kernel_rfl))
  | ((with_reducible refine' Ev.slice3 ?e1 ?e2 ?e3 ?e4 ?e5 ?e6 ?e7); (case e1 => walk_at "evl"); (case e2 => walk_at "part"); (case e3 => walk_at "part"); (case e4 => walk_at "ev"); (case e5 => walk_at "side"); (case e6 => walk_at "side"); (case e7 => intro _ _; kernel_rfl))
  | ((with_reducible refine' Ev.callL (id := S "len") (fv := .builtin "len") ?e1 ?e2 ?e3 ?e4); (case e1 => walk_at "blt"); (case e2 => walk_at "evl"); (case e3 => exact FnL.len (by walk_at "side")); all_goals kernel_rfl)
  | ((with_reducible refine' Ev.call (id := S "len") (fv := .builtin "len") ?e1 ?e2 ?e3 ?e4 ?e5); (case e1 => walk_at "blt"); (case e2 => walk_at "args"); (case e3 => exact FnC.lenLs (by walk_at "side")); all_goals kernel_rfl)
  | ((with_reducible refine' Ev.callL (id := S "sum") (fv := .builtin "sum") ?e1 ?e2 ?e3 ?e4); (case e1 => walk_at "blt"); (case e2 => walk_at "evl"); (case e3 => exact FnL.sum (by walk_at "hh")); all_goals kernel_rfl)
  | ((with_reducible refine' Ev.call (id := S "min") (fv := .builtin "min") ?e1 ?e2 ?e3 ?e4 ?e5); (case e1 => walk_at "blt"); (case e2 => walk_at "args"); (case e3 => exact FnC.min2 (by walk_at "hh")); all_goals kernel_rfl)
  | ((with_reducible refine' Ev.call (id := S "max") (fv := .builtin "max") ?e1 ?e2 ?e3 ?e4 ?e5); (case e1 => walk_at "blt"); (case e2 => walk_at "args"); (case e3 => exact FnC.max2 (by walk_at "hh")); all_goals kernel_rfl)
  | ((with_reducible refine' Ev.call (id := S "range") (fv := .type "range") ?e1 ?e2 ?e3 ?e4 ?e5); (case e1 => walk_at "blt"); (case e2 => walk_at "args"); (case e3 => first | exact FnC.range1 | exact FnC.range2); all_goals kernel_rfl))
local macro_rules | `(tactic| walk_at "tr") => `(tactic| first
  | with_reducible assumption
  | ((with_reducible apply Tr.cmp) <;> walk_at "any")
  | ((with_reducible apply Tr.not) <;> walk_at "any")
  | with_reducible exact Tr.and0 
  | ((with_reducible refine' Tr.and ?e1 ?e2); (case e1 => walk_at "tr"); (case e2 => intro _; walk_at "tr")))
local macro_rules | `(tactic| walk_at "sto") => `(tactic| first
  | ((with_reducible refine' Sto.cellU ?hc ?hm ?hP ?hu ?hk ?hl); (case hc => walk_at "lu"); (case hm => walk_at "m"); (case hP => first | exact Cel0.any | exact CelD.any | exact CelAny.any); (case hu => walk_at "pu"); all_goals kernel_rfl)
  | ((with_reducible refine' Sto.local_ ?hd ?hk ?hl); (case hd => walk_at "dd"); all_goals kernel_rfl))
local macro_rules | `(tactic| walk_at "s") => `(tactic| (refine' Ex.step (by kernel_rfl) ?he ?_; (case he => conv => lhs; whnf)))
section
noncomputable abbrev tx6St : Stmt := stAt T 10
noncomputable abbrev σ22 (ns : List Int) (p : Nat) : Int := (pySl ns (some (p : Int)) none (some 22)).sum
theorem fn_text6 {w : World} {ns : List Int} (hn : ns.length ≤ 63) : Fn pw_ w (K w.params) 1 (.ref 260) [.lst (dInts ns)] (.str (Ls (text6 (letsOf (kN ns) (min ns.length 22) (σ22 ns)) ns.sum))) := by
  intro A hA g s vs F r
  cases r using Reps.eCons with
  | @cons v1 _ r1 r =>
  first | cases r using Reps.eNil | cases r
  refine fn_entry (fo := o_260 w.params) (name := S "_law_text") (qual := S "_law_text") (params := fParams tx6St) (body := fBody tx6St) (sc := fScope tx6St) (binds := [(S "script", v1)]) (vars := []) (cl := fun L => [(S "kinds", L + 2), (S "script", L + 1)]) (own := fun L => [(L + 2, Cel .none), (L + 1, Cel (some v1))])
    hA F (by kernel_rfl) (by rfl) (codeRec_of (F.cx.ext F.sub).X (by kernel_rfl)) (kp_binds (F.cx.ext F.sub).X fun S => by kernel_rfl) (by kernel_rfl) (by decide +kernel) (fun L => by kernel_rfl) (by kernel_rfl) (fun L => by kernel_rfl) (by kernel_rfl)
    .nil (fun L => .open_ (.cell r1 .nil)) fun L => ?_
  have hh := hA.handled
  have hab : (S "abcd").cps.toList = abcd := by kernel_rfl
  have hdl : (dInts ns).length ≤ 1000000 := by rw [List.length_map]; (first | lia | omega)
  obtain ⟨hk0, hk2, hk4⟩ := kN_eq ns
  refine Ex.body ?_
  walk_at "s"
  refine' x_asgN (d := .int (kN ns)) (Ev.eq (Ev.bin Ev.int (Ev.bin (Ev.callL (fv := .builtin "sum") ?k1 ?k2 (FnL.sum hh) (by kernel_rfl)) Ev.int (Bin.mod (by decide))) Bin.add) ?k4) ?k5 ?_ (by kernel_rfl)
  case k1 => walk_at "blt"
  case k2 => walk_at "evl"
  case k4 => rw [hk0]
  case k5 => walk_at "sto"
  have hm1 : min (ns.length : Int) 22 ≤ 22 := Int.min_le_right _ _
  have hm0 : (0 : Int) ≤ min (ns.length : Int) 22 := Int.le_min.mpr ⟨Int.natCast_nonneg _, by decide⟩
  generalize kN ns = kinds at hk0 hk2 hk4 ⊢
  walk_at "s"
  refine' x_asgComp (xs := rangeI 0 (min (ns.length : Int) 22)) (ι := D.int) (p := fun _ => true) (f := fun z => .str (Ls [abcd.getD ((σ22 ns z.toNat).fmod kinds).toNat 0])) (cl := [(S "script", L + 1), (S "kinds", L + 2)]) (EvIt.of (d := dRng 0 (min (ns.length : Int) 22)) (Ev.eq ?it2 ?it3) (ItD.rng hh (by decide) (Int.lt_of_le_of_lt hm1 (by decide)) (by decide) (Int.lt_of_lt_of_le (by decide) hm0))) ⟨fun F s₀ gb b hb => TrAll.nil, fun F s₀ gb b hb hp => ?el⟩ ?c1 (fun s₀ gb => ?sto) ?_ ?c8 ?c2 ?c3 ?c4 ?c5 ?c6 ?c7
  case it2 => walk_at "ev"
  case it3 => rw [List.length_map]
  case el =>
    obtain ⟨k, rfl, hk3⟩ := mem_rangeI hb
    have hpos : (0 : Int) ≤ (pySl ns (some (k : Int)) none (some 22)).sum.fmod kinds := Int.fmod_nonneg_of_pos _ (by (first | lia | omega))
    have hlt : (pySl ns (some (k : Int)) none (some 22)).sum.fmod kinds < kinds := Int.fmod_lt_of_pos _ (by (first | lia | omega))
    have hc : ((S "abcd").cps.toList)[((pySl ns (some (k : Int)) none (some 22)).sum.fmod kinds).toNat]? = some (abcd.getD ((σ22 ns k).fmod kinds).toNat 0) := by
      rw [hab, List.getD_eq_getElem?_getD]
      have : ((pySl ns (some (k : Int)) none (some 22)).sum.fmod kinds).toNat < abcd.length := by show _ < 4; (first | lia | omega)
      rw [List.getElem?_eq_getElem this]
      rfl
    have hal : ((S "abcd").cps.toList).length ≤ 1000000 := by rw [hab]; decide
    have hkn : (kinds : Int) ≠ 0 := by (first | lia | omega)
    refine' Ev.itemStr (i := (pySl ns (some (k : Int)) none (some 22)).sum.fmod kinds) ?e1 (Ev.bin (Ev.callL (fv := .builtin "sum") ?b1 (EvL.of (Ev.eq ?b2 ?b3)) (FnL.sum hh) ?b4) ?e3 (Bin.mod hkn)) hpos hc hal ?e6
    case e1 => walk_at "ev"
    case b1 => walk_at "blt"
    case b2 => walk_at "ev"
    case b3 => rw [map_pySl]
    case b4 => kernel_rfl
    case e3 => walk_at "ev"
    case e6 => intro _ _; kernel_rfl
  case c1 => rw [rangeI_len]; exact Nat.le_trans (Int.toNat_le.mpr (Int.le_trans (Int.sub_le_self _ (Int.le_refl 0)) hm1)) (show 22 ≤ 1000000 by decide)
  case sto => walk_at "sto"
  case c2 => kernel_rfl
  case c3 => decide +kernel
  case c4 => rfl
  case c5 => decide +kernel
  case c6 => kernel_rfl
  case c7 => intro _; kernel_rfl
  case c8 => kernel_rfl
  have hlets : (List.map (fun z : Int => D.str (Ls [abcd.getD ((σ22 ns z.toNat).fmod kinds).toNat 0])) (List.filter (fun x => true) (rangeI 0 (min (ns.length : Int) 22)))) = dStrs ((letsOf kinds (min ns.length 22) (σ22 ns)).map fun c => [c]) := by
    rw [List.filter_eq_self.mpr (fun _ _ => rfl)]
    unfold rangeI letsOf dStrs
    rw [show (min (ns.length : Int) 22 - 0).toNat = min ns.length 22 by (first | lia | omega)]
    simp [List.map_map, Function.comp_def]
  rw [hlets]
  have hll : (letsOf kinds (min ns.length 22) (σ22 ns)).length ≤ 22 := by unfold letsOf; rw [List.length_map, List.length_range]; (first | lia | omega)
  generalize letsOf kinds (min ns.length 22) (σ22 ns) = lets at hll ⊢
  have hdl2 : (dStrs (lets.map fun c => [c])).length ≤ 1000000 := by simp; (first | lia | omega)
  have hfl : ∀ l : List Nat, (l.map fun c => [c]).flatten = l := fun l => by induction l with | nil => rfl | cons a l ih => simp [ih]
  have hb : (S "b").cps.toList = [98] := by kernel_rfl
  walk_at "s"
  refine' x_asgN (d := .str (Ls (word6 lets))) (Ev.eq (Ev.bin (Ev.join (ls := lets.map fun c => [c]) ⟨by kernel_rfl, by kernel_rfl, by kernel_rfl, PySem.F.plainAttrs_str, PySem.F.slot_str_join, by kernel_rfl⟩ ?r2 rfl ?r4 ?r5 (by kernel_rfl)) ?r1 (Bin.addStr ?r6)) ?r7) ?r8 ?_ (by kernel_rfl)
  case r1 => walk_at "ev"
  case r2 => walk_at "ev"
  case r4 => rw [hfl]; (first | lia | omega)
  case r5 => rw [List.length_map]; (first | lia | omega)
  case r6 => rw [hfl, hb]; simp; (first | lia | omega)
  case r7 => rw [hfl, hb]; rfl
  case r8 => walk_at "sto"
  have hw := word6_len lets
  obtain ⟨hm, hmle⟩ := cut6_eq lets ns.sum
  have h3 : ((List.replicate 3 (word6 lets)).flatten).length ≤ 1000000 := by rw [flatten3_len]; (first | lia | omega)
  unfold text6
  generalize cut6 lets ns.sum = mm at hm hmle ⊢
  generalize word6 lets = word at hw hm hmle h3 ⊢
  walk_at "s"
  refine' x_ret (d := .str (Ls (((List.replicate 3 word).flatten).take (word.length + mm)))) (Ev.eq (Ev.sliceStr (cs := (List.replicate 3 word).flatten) (Ev.bin ?s1 Ev.int (Bin.mulStr (n := 3) (by (first | lia | omega)) (by (first | lia | omega)) (by (first | lia | omega)))) EvPart.nil (EvPart.one (Ev.bin ?s2 (Ev.bin (Ev.bin (Ev.bin (Ev.callL (fv := .builtin "sum") ?s3 ?s4 (FnL.sum hh) (by kernel_rfl)) Ev.int (Bin.div (by (first | lia | omega)) (by (first | lia | omega)))) Ev.int Bin.add) (Ev.bin (Ev.bin Ev.int ?s5 (Bin.mulL (by decide))) Ev.int Bin.add) (Bin.mod ?s6)) Bin.add)) h3 ?s7) ?s8) Ret.fin
  case s1 => walk_at "ev"
  case s2 => walk_at "ev"
  case s3 => walk_at "blt"
  case s4 => walk_at "evl"
  case s5 => walk_at "ev"
  case s6 => (first | lia | omega)
  case s7 => intro _ _; kernel_rfl
  case s8 => rw [hm, show (word.length : Int) + (mm : Int) = ((word.length + mm : Nat) : Int) by (first | lia | omega), sl_b]
end
section
noncomputable abbrev fmSt : Stmt := stAt (clsBody (stAt T iSM)) 6
noncomputable def oD : Option Nat → D
  | .none => .none
  | some n => .int n
section
variable {w : World} {κ : Type} [DecidableEq κ] {knd : PySem.KeyKind pw_ w κ} {ι : κ → D} {dA dB : D} {xs ys : List κ} {js : κ → List Int} {S_ : κ → Bool} {fs : List (PySem.Str × D)}
structure FmFs (knd : PySem.KeyKind pw_ w κ) (fs : List (PySem.Str × D)) (dA dB : D) (js : κ → List Int) (S_ : κ → Bool) : Prop where
  a : (S "a", dA) ∈ fs
  b : (S "b", dB) ∈ fs
  b2j : (S "b2j", D.sp (IsIdx knd js)) ∈ fs
  bjunk : (S "bjunk", D.sp (IsSetK knd S_)) ∈ fs
noncomputable abbrev fmC (w : World) (A : Around) (s : Shared) (g : Heap) (L dx : Addr) (fs : List (PySem.Str × D)) : Cc := fCr pw_ w (K w.params) A s g (S "SequenceMatcher.find_longest_match") (fScope fmSt) L aFlm (.ref (aFlm - 1)) [] [(dx, OInst fs)]
noncomputable abbrev fmV (knd : PySem.KeyKind pw_ w κ) (dA dB : D) (js : κ → List Int) (S_ : κ → Bool) (alo ahi blo bhi : Nat) : DVars := [(S "isbjunk", .sp (IsInK knd S_)), (S "b2j", .sp (IsIdx knd js)), (S "b", dB), (S "a", dA), (S "alo", .int alo), (S "ahi", .int ahi), (S "blo", .int blo), (S "bhi", .int bhi)]
noncomputable abbrev fmW (knd : PySem.KeyKind pw_ w κ) (dA dB : D) (js : κ → List Int) (S_ : κ → Bool) (alo ahi blo bhi : Nat) (st : St) (d : Addr) : DVars := (S "nothing", .lst []) :: (S "j2len", .raw (.ref d)) :: (S "besti", .int st.bi) :: (S "bestj", .int st.bj) :: (S "bestsize", .int st.bs) :: fmV knd dA dB js S_ alo ahi blo bhi
theorem flm_body {A : Around} {g : Heap} {s : Shared} {L x dx : Addr} {alo blo : Nat} {ahi bhi : Option Nat} {d : D} (hA : RmN 3 A) (sa : SeqK knd ι dA xs) (sb : SeqK knd ι dB ys) (hf : FmFs knd fs dA dB js S_)
    (main : Ex (fmC w A s g L dx fs) (fmV knd dA dB js S_ alo (ahi.getD xs.length) blo (bhi.getD ys.length)) [] ((fBody fmSt).drop 4) (Fin (fmC w A s g L dx fs) d)) :
    Ex (fmC w A s g L dx fs) [(S "self", .sp (IsInst aSM x dx)), (S "alo", .int alo), (S "ahi", oD ahi), (S "blo", .int blo), (S "bhi", oD bhi)] [] (fBody fmSt) (Fin (fmC w A s g L dx fs) d) := by
  have hh := hA.handled
  have R : RunC (fmC w A s g L dx fs) := ⟨rfl, rfl, (hA.deeper _).le (by decide)⟩
  obtain ⟨f1, f2, f3, f4⟩ := hf
  refine Ex.body ?_
  walk_at "s"
  refine x_doc (by kernel_rfl) (by kernel_rfl) ?_
  walk_at "s"
  refine' x_asgT (d := .tup [dA, dB, .sp (IsIdx knd js), .sp (IsInK knd S_)]) (Ev.tuple (EvArgs.cons ?a1 (EvArgs.cons ?a2 (EvArgs.cons ?a3 (EvArgs.cons (Ev.getInK R ?a4 (by kernel_rfl)) EvArgs.nil (by kernel_rfl)) (by kernel_rfl)) (by kernel_rfl)) (by kernel_rfl)) (by simp)) (Asg.tup hh rfl (by kernel_rfl) (by kernel_rfl) (AsgAll.name ?n1 (AsgAll.name ?n2 (AsgAll.name ?n3 (AsgAll.name ?n4 AsgAll.nil))))) ?_ (by kernel_rfl) (by kernel_rfl)
  case a1 => walk_at "ev"
  case a2 => walk_at "ev"
  case a3 => walk_at "ev"
  case a4 => walk_at "ev"
  case n1 => walk_at "sto"
  case n2 => walk_at "sto"
  case n3 => walk_at "sto"
  case n4 => walk_at "sto"
  walk_at "s"
  refine' x_ifC (vars' := [(S "ahi", .int (ahi.getD xs.length : Nat)), (S "isbjunk", .sp (IsInK knd S_)), (S "b2j", .sp (IsIdx knd js)), (S "b", dB), (S "a", dA), (S "alo", .int alo), (S "blo", .int blo), (S "bhi", oD bhi)]) (own' := []) (b := ahi.isNone) ?i1 (fun hb => ?i2) (fun hb => ?i3) ?_
  case i1 =>
    cases ahi with
    | none =>
      show Tr _ _ _ _ true
      unfold oD; walk_at "tr"
    | some n =>
      show Tr _ _ _ _ false
      unfold oD; walk_at "tr"
  case i2 =>
    obtain rfl : ahi = none := by simpa using hb
    refine Ex.cons ?_
    refine' x_asgN (d := .int xs.length) ?j1 ?j2 ?_ (by kernel_rfl)
    case j1 => walk_at "ev"
    case j2 => walk_at "sto"
    refine Ex.nil (K.to ?k1 DW.nil)
    simp only [Option.getD_none]
    walk_at "vs"
  case i3 =>
    obtain ⟨n, rfl⟩ : ∃ n, ahi = some n := by cases ahi with | none => simp at hb | some n => exact ⟨n, rfl⟩
    refine Ex.nil (K.to ?k2 DW.nil)
    simp only [Option.getD_some, oD]
    walk_at "vs"
  walk_at "s"
  refine' x_ifC (vars' := fmV knd dA dB js S_ alo (ahi.getD xs.length) blo (bhi.getD ys.length)) (own' := []) (b := bhi.isNone) ?i4 (fun hb => ?i5) (fun hb => ?i6) main
  case i4 =>
    cases bhi with
    | none =>
      show Tr _ _ _ _ true
      unfold oD; walk_at "tr"
    | some n =>
      show Tr _ _ _ _ false
      unfold oD; walk_at "tr"
  case i5 =>
    obtain rfl : bhi = none := by simpa using hb
    refine Ex.cons ?_
    refine' x_asgN (d := .int ys.length) ?j3 ?j4 ?_ (by kernel_rfl)
    case j3 => walk_at "ev"
    case j4 => walk_at "sto"
    refine Ex.nil (K.to ?k3 DW.nil)
    simp only [Option.getD_none]
    walk_at "vs"
  case i6 =>
    obtain ⟨n, rfl⟩ : ∃ n, bhi = some n := by cases bhi with | none => simp at hb | some n => exact ⟨n, rfl⟩
    refine Ex.nil (K.to ?k4 DW.nil)
    simp only [Option.getD_some, oD]
    walk_at "vs"
end
end
section
theorem rangeI_at1 {a b : Int} {i : Nat} {d : D} (h : (dInts (rangeI a b))[i]? = some d) : d = .int (a + i) ∧ a + (i : Int) < b := by
  simp only [dInts, rangeI, List.map_map, List.getElem?_map, Option.map_eq_some_iff] at h
  obtain ⟨k, hk, rfl⟩ := h
  rcases Nat.lt_or_ge i (b - a).toNat with q | q
  · rw [List.getElem?_range q] at hk
    first | cases hk using Reps.eNil | cases hk using Rep.eInt | cases hk using Rep.eRaw | cases hk using Rep.eNone | cases hk using Rep.eStr | cases hk using Rep.eBool | cases hk
    exact ⟨rfl, by (first | lia | omega)⟩
  · rw [List.getElem?_eq_none (by simpa using q)] at hk; cases hk
section
variable {w : World} {κ : Type} [DecidableEq κ] {knd : PySem.KeyKind pw_ w κ} {ι : κ → D} {dA dB : D} {xs ys : List κ} {js : κ → List Int} {S_ : κ → Bool} {fs : List (PySem.Str × D)}
structure FmOk (xs : List κ) (js : κ → List Int) (jx : Int → List Int) : Prop where
  len : ∀ c, (js c).length ≤ 100000
  asc : ∀ c, (js c).Pairwise (· < ·)
  at_ : ∀ i : Nat, ∀ c, xs[i]? = some c → jx i = js c
theorem flm_loops {A : Around} {g : Heap} {s : Shared} {L dx : Addr} {jx : Int → List Int} {alo blo ahi bhi : Nat} {d_1 : D} (hA : RmN 3 A) (sa : SeqK knd ι dA xs) (sb : SeqK knd ι dB ys) (hx : xs.length ≤ 100000) (hy : ys.length ≤ 100000) (h1 : alo ≤ ahi) (h2 : ahi ≤ xs.length) (h3 : blo ≤ 100000) (h4 : bhi ≤ ys.length) (ok : FmOk xs js jx)
    (main : ∀ a N, Ex (fmC w A s g L dx fs) (fmW knd dA dB js S_ alo ahi blo bhi (allSt alo blo bhi jx (ahi - alo)) a) [(a, ORow pw_ w (allSt alo blo bhi jx (ahi - alo)).row N)] ((fBody fmSt).drop 8) (Fin (fmC w A s g L dx fs) d_1)) :
    Ex (fmC w A s g L dx fs) (fmV knd dA dB js S_ alo ahi blo bhi) [] ((fBody fmSt).drop 4) (Fin (fmC w A s g L dx fs) d_1) := by
  have hh := hA.handled
  have R : RunC (fmC w A s g L dx fs) := ⟨rfl, rfl, (hA.deeper _).le (by decide)⟩
  walk_at "s"
  refine' x_asgW (names := [S "besti", S "bestj", S "bestsize"]) (ds := [.int alo, .int blo, .int 0]) hh (by kernel_rfl) (by kernel_rfl) rfl (Ev.tuple ?a1 (by simp)) (AsgAll.bind ?n1 (AsgAll.bind ?n2 (AsgAll.bind ?n3 AsgAll.nil))) ?_
  case a1 => walk_at "args"
  case n1 => walk_at "sto"
  case n2 => walk_at "sto"
  case n3 => walk_at "sto"
  walk_at "s"
  refine' x_newRow (fun a => ?n4) (fun a => ?_) (by kernel_rfl)
  case n4 => walk_at "sto"
  walk_at "s"
  refine' x_asgN (d := .lst []) (Ev.list ?a2 (by simp)) ?n5 ?_ (by kernel_rfl)
  case a2 => walk_at "args"
  case n5 => walk_at "sto"
  walk_at "s"
  refine' x_forG (σ := Addr × Nat) (EvIt.of (d := dRng alo ahi) ?it (ItD.rng hh (by (first | lia | omega)) (by (first | lia | omega)) (by (first | lia | omega)) (by (first | lia | omega)))) (fun i z => fmW knd dA dB js S_ alo ahi blo bhi (allSt alo blo bhi jx i) z.1) (fun i z => [(z.1, ORow pw_ w (allSt alo blo bhi jx i).row z.2)]) (fun i z => z.2 ≤ 100000) (a, 0) (Nat.zero_le _) ?hv ?ho (fun s₀ gb hS i z d hd hF => ?_) (fun z hF => ?_) (fun _ => by kernel_rfl)
  case it => walk_at "ev"
  case hv =>
    show ∀ p ∈ ((S "nothing", D.lst []) :: (S "j2len", D.raw (.ref a)) :: (S "besti", D.int alo) :: (S "bestj", D.int blo) :: (S "bestsize", D.int 0) :: fmV knd dA dB js S_ alo ahi blo bhi : DVars), p ∈ _
    walk_at "vs"
  case ho => exact DW.rfl_ _
  · obtain ⟨rfl, hi⟩ := rangeI_at1 hd
    have ei : (alo : Int) + (i : Int) = ((alo + i : Nat) : Int) := by (first | lia | omega)
    rw [ei]
    obtain ⟨c, hc⟩ : ∃ c, xs[alo + i]? = some c := ⟨_, List.getElem?_eq_getElem (by (first | lia | omega))⟩
    have hc' : xs[((alo + i : Nat) : Int).toNat]? = some c := hc
    have hxl : xs.length ≤ 1000000 := by (first | lia | omega)
    have hjl := ok.len c
    have hjl' : (dInts (js c)).length ≤ 100000 := by rw [List.length_map]; exact hjl
    obtain ⟨d1, N1⟩ := z
    dsimp only at hF ⊢
    have hnext : allSt alo blo bhi jx (i + 1) = (js c).foldl (inSt (allSt alo blo bhi jx i).row ((alo + i : Nat) : Int) blo bhi) (clr (allSt alo blo bhi jx i)) := by
      show rowSt blo bhi jx (allSt alo blo bhi jx i) ((alo : Int) + (i : Int)) = _
      unfold rowSt
      rw [ei, ok.at_ _ _ hc]
    generalize allSt alo blo bhi jx i = st at hnext ⊢
    rw [hnext]
    have R' : RunC { fmC w A s g L dx fs with s₀ := s₀, gb := gb } := ⟨rfl, rfl, (hA.deeper _).le (by decide)⟩
    refine' Turn1.mk (Asg.name ?as) ?_
    case as => walk_at "sto"
    refine Ex.cons ?_
    refine' x_asgN (d := .sp (IsBnd "dict.get" (.ref d1))) (Ev.getGet R' ?g1 (.inl ?g2) (by kernel_rfl)) ?g3 ?_ (by kernel_rfl)
    case g1 => walk_at "nm"
    case g2 => walk_at "m"
    case g3 => walk_at "sto"
    refine Ex.cons ?_
    refine' x_newRow (fun d2 => ?n6) (fun d2 => ?_) (by kernel_rfl)
    case n6 => walk_at "sto"
    refine Ex.cons ?_
    have hkey : ∀ g v, Rep g v (ι c) → knd.is c v = true := fun g v r => sa.key r
    refine' x_forGK (σ := Nat) (EvIt.of (d := .lst (dInts (js c))) (Ev.idxGet (knd := knd) (dk := ι c) ⟨by kernel_rfl, by kernel_rfl, by kernel_rfl, PySem.F.plainAttrs_dict, PySem.F.slot_dict_get, by kernel_rfl⟩ ?x1 ?x2 ?x3 hkey (by kernel_rfl)) (ItD.lst hh))
      (fun p N => (S "newj2len", .raw (.ref d2)) :: (S "j2lenget", .sp (IsBnd "dict.get" (.ref d1))) :: (S "i", .int ((alo + i : Nat) : Int)) :: fmW knd dA dB js S_ alo ahi blo bhi (((js c).take p).foldl (inSt st.row ((alo + i : Nat) : Int) blo bhi) (clr st)) d1)
      (fun p N => [(d2, ORow pw_ w (((js c).take p).foldl (inSt st.row ((alo + i : Nat) : Int) blo bhi) (clr st)).row N), (d1, ORow pw_ w st.row N1)]) (fun p N => N ≤ p) 0 (Nat.le_refl _) ?hv2 ?ho2 (fun N hN => ?_) (fun hk s₁ gb₁ hS₁ p N d hd hN => ?_) (fun _ => by kernel_rfl)
    case x1 => walk_at "nm"
    case x2 => walk_at "ev"
    case x3 => walk_at "ev"
    case hv2 =>
      show ∀ p ∈ ((S "newj2len", D.raw (.ref d2)) :: (S "j2lenget", D.sp (IsBnd "dict.get" (.ref d1))) :: (S "i", D.int ((alo + i : Nat) : Int)) :: fmW knd dA dB js S_ alo ahi blo bhi st d1 : DVars), p ∈ _
      walk_at "vs"
    case ho2 => exact DW.rfl_ _
    · refine Ex.cons ?_
      refine' x_asgN (d := .raw (.ref d2)) ?y1 ?y2 ?_ (by kernel_rfl)
      case y1 => walk_at "nm"
      case y2 => walk_at "sto"
      refine Ex.nil ?_
      have ht : (js c).take (dInts (js c)).length = js c := by rw [List.length_map, List.take_length]
      rw [ht]
      refine' K.turn (d2, N) (Nat.le_trans hN hjl') ?y3 ?y4
      case y3 => walk_at "vs"
      case y4 => exact .same (.drop .nil)
    · obtain ⟨n, hn, rfl⟩ : ∃ n, (js c)[p]? = some n ∧ d = .int n := by
        rw [List.getElem?_map, Option.map_eq_some_iff] at hd
        obtain ⟨n, h, e⟩ := hd
        exact ⟨n, h, e.symm⟩
      have hp : p < (js c).length := by
        rcases Nat.lt_or_ge p (js c).length with q | q
        · exact q
        · rw [List.getElem?_eq_none q] at hn; cases hn
      have htk := fold_take (inSt st.row ((alo + i : Nat) : Int) blo bhi) (clr st) _ _ _ hn
      rw [htk]
      have hcut : bhi ≤ n → (js c).foldl (inSt st.row ((alo + i : Nat) : Int) blo bhi) (clr st) = ((js c).take p).foldl (inSt st.row ((alo + i : Nat) : Int) blo bhi) (clr st) := fun hb => fold_cut fun j hj => by have := asc_drop (ok.asc c) hn j hj; (first | lia | omega)
      generalize hS2 : ((js c).take p).foldl (inSt st.row ((alo + i : Nat) : Int) blo bhi) (clr st) = s2 at hcut ⊢
      have R2 : RunC { fmC w A s g L dx fs with s₀ := s₁, gb := gb₁ } := ⟨rfl, rfl, (hA.deeper _).le (by decide)⟩
      refine' Turn1.mk (Asg.name ?as2) ?_
      case as2 => walk_at "sto"
      refine Ex.cons ?_
      refine' x_if (b := decide (n < (blo : Int))) ?t1 (fun hb => ?_) (fun hb => ?_)
      case t1 => walk_at "tr"
      · refine Ex.cons (x_cont ?_)
        have hb' : n < (blo : Int) := by simpa using hb
        rw [inSt_skip (by (first | lia | omega))]
        refine' K.turnC N (Nat.le_succ_of_le hN) ?u1 (DW.rfl_ _)
        walk_at "vs"
      have hb1 : ¬ n < (blo : Int) := by simpa using hb
      refine Ex.nil (K.cont ?_)
      refine Ex.cons ?_
      refine' x_if (b := decide ((bhi : Int) ≤ n)) ?t2 (fun hb => ?_) (fun hb => ?_)
      case t2 => walk_at "tr"
      · refine Ex.cons (x_brk ?_)
        have hb' : (bhi : Int) ≤ n := by simpa using hb
        refine K.brk hS₁ ?_
        have ht : (js c).take (dInts (js c)).length = js c := by rw [List.length_map, List.take_length]
        have := hk N (by rw [List.length_map]; (first | lia | omega))
        rw [ht] at this
        rw [← hcut hb']
        refine Ex.weak ?_ this
        walk_at "vs"
      have hb2 : ¬ (bhi : Int) ≤ n := by simpa using hb
      refine Ex.nil (K.cont ?_)
      refine Ex.cons ?_
      refine' x_asgNS (n := st.row (n - 1) + 1) (m := s2.row) (N := N) (Ev.eq (Ev.bin (Ev.callRow (m := st.row) (N := N1) (K₀ := []) ?f1 ?f2 ?f3 Ev.int (K_sys _) (by kernel_rfl) (by kernel_rfl)) Ev.int Bin.add) rfl) ?f4 ?f5 ?f6 ?f7 (by (first | lia | omega)) (Nat.succ_ne_zero _) ?f8 ?_ (by kernel_rfl) (by kernel_rfl)
      case f1 => walk_at "nm"
      case f2 => walk_at "m"
      case f3 => walk_at "ev"
      case f4 => walk_at "sto"
      case f5 => walk_at "nm"
      case f6 => walk_at "nm"
      case f7 => walk_at "m"
      case f8 => walk_at "pu"
      refine Ex.cons ?_
      have hin : inSt st.row ((alo + i : Nat) : Int) blo bhi s2 n = { row := fun x => if x = n then st.row (n - 1) + 1 else s2.row x, bi := if s2.bs < st.row (n - 1) + 1 then ((alo + i : Nat) : Int) - ((st.row (n - 1) + 1 : Nat) : Int) + 1 else s2.bi, bj := if s2.bs < st.row (n - 1) + 1 then n - ((st.row (n - 1) + 1 : Nat) : Int) + 1 else s2.bj, bs := if s2.bs < st.row (n - 1) + 1 then st.row (n - 1) + 1 else s2.bs } := by
        unfold inSt; rw [if_pos (by (first | lia | omega))]
      rw [hin]
      refine' x_if (b := decide ((s2.bs : Int) < ((st.row (n - 1) + 1 : Nat) : Int))) ?t3 (fun hb => ?_) (fun hb => ?_)
      case t3 => walk_at "tr"
      · have hb3 : s2.bs < st.row (n - 1) + 1 := by have := of_decide_eq_true hb; (first | lia | omega)
        rw [if_pos hb3, if_pos hb3, if_pos hb3]
        refine Ex.cons ?_
        refine' x_asgW (names := [S "besti", S "bestj", S "bestsize"]) (ds := [.int (((alo + i : Nat) : Int) - ((st.row (n - 1) + 1 : Nat) : Int) + 1), .int (n - ((st.row (n - 1) + 1 : Nat) : Int) + 1), .int ((st.row (n - 1) + 1 : Nat) : Int)]) hh (by kernel_rfl) (by kernel_rfl) rfl (Ev.tuple ?a7 (by simp)) (AsgAll.bind ?n7 (AsgAll.bind ?n8 (AsgAll.bind ?n9 AsgAll.nil))) ?_
        case a7 => walk_at "args"
        case n7 => walk_at "sto"
        case n8 => walk_at "sto"
        case n9 => walk_at "sto"
        refine Ex.nil (K.cont (Ex.nil ?_))
        refine' K.turn (N + 1) (Nat.succ_le_succ hN) ?v1 (DW.rfl_ _)
        walk_at "vs"
      · have hb3 : ¬ s2.bs < st.row (n - 1) + 1 := by have := of_decide_eq_false hb; (first | lia | omega)
        rw [if_neg hb3, if_neg hb3, if_neg hb3]
        refine Ex.nil (K.cont (Ex.nil ?_))
        refine' K.turn (N + 1) (Nat.succ_le_succ hN) ?v2 (DW.rfl_ _)
        walk_at "vs"
  · have hl : (dInts (rangeI alo ahi)).length = ahi - alo := by rw [List.length_map, rangeI_len]; (first | lia | omega)
    rw [hl]
    exact main z.1 z.2
end
end
section
section
variable {w : World} {κ : Type} [DecidableEq κ] {knd : PySem.KeyKind pw_ w κ} {ι : κ → D} {dA dB : D} {xs ys : List κ} {js : κ → List Int} {S_ : κ → Bool} {fs : List (PySem.Str × D)}
theorem back_true {P : κ → Bool} {alo blo i j k : Nat} (h1 : alo < i) (h2 : blo < j) (h3 : same P xs[i - 1]? ys[j - 1]? = true) : backK P xs ys alo blo i j k = backK P xs ys alo blo (i - 1) (j - 1) (k + 1) := by
  cases i with
  | zero => (first | lia | omega)
  | succ i =>
    conv => lhs; unfold backK
    rw [show i + 1 - 1 = i by (first | lia | omega)] at h3 ⊢
    rw [if_pos ⟨h1, h2, h3⟩]
theorem fwd_true {P : κ → Bool} {ahi bhi i j k : Nat} (h1 : i + k < ahi) (h2 : j + k < bhi) (h3 : same P xs[i + k]? ys[j + k]? = true) : fwdK P xs ys i j ahi bhi (ahi - (i + k)) k = fwdK P xs ys i j ahi bhi (ahi - (i + (k + 1))) (k + 1) := by
  rw [show ahi - (i + k) = ahi - (i + (k + 1)) + 1 by (first | lia | omega)]
  conv => lhs; unfold fwdK
  rw [if_pos ⟨h1, h2, h3⟩]
noncomputable abbrev fmZ (knd : PySem.KeyKind pw_ w κ) (dA dB : D) (js : κ → List Int) (S_ : κ → Bool) (alo ahi blo bhi : Nat) (z : Nat × Nat × Nat) : DVars := (S "besti", .int z.1) :: (S "bestj", .int z.2.1) :: (S "bestsize", .int z.2.2) :: fmV knd dA dB js S_ alo ahi blo bhi
noncomputable def okAt (P : κ → Bool) (y : Option κ) : Bool := match y with | some c => P c | none => false
theorem same_of {P : κ → Bool} {a c : κ} {x y : Option κ} (hx : x = some a) (hy : y = some c) : same P x y = (P c && decide (a = c)) := by subst hx hy; rfl
omit [DecidableEq κ] in
theorem get_lt {l : List κ} {i : Nat} (h : i < l.length) : ∃ c, l[i]? = some c := ⟨_, List.getElem?_eq_getElem h⟩
theorem flm_back {A : Around} {g : Heap} {s : Shared} {L dx : Addr} {alo blo ahi bhi : Nat} {Q : Flow → Shared → Prop} {own : DOwn} {P : κ → Bool} (hh : A.handled = none) (h2 : ahi ≤ xs.length) (h4 : bhi ≤ ys.length)
    {t1 t2 t3 t4 : Expr} {body : List Stmt} {p1 pos : Pos} {rest : List Stmt}
    (k1 : ∀ s₀ gb i j k, Tr { fmC w A s g L dx fs with s₀ := s₀, gb := gb } (fmZ knd dA dB js S_ alo ahi blo bhi (i, j, k)) [] t1 (decide ((alo : Int) < (i : Int))))
    (k2 : ∀ s₀ gb i j k, Tr { fmC w A s g L dx fs with s₀ := s₀, gb := gb } (fmZ knd dA dB js S_ alo ahi blo bhi (i, j, k)) [] t2 (decide ((blo : Int) < (j : Int))))
    (k3 : ∀ s₀ gb i j k c, blo < j → ys[j - 1]? = some c → Tr { fmC w A s g L dx fs with s₀ := s₀, gb := gb } (fmZ knd dA dB js S_ alo ahi blo bhi (i, j, k)) [] t3 (P c))
    (k4 : ∀ s₀ gb i j k a c, alo < i → blo < j → xs[i - 1]? = some a → ys[j - 1]? = some c → Tr { fmC w A s g L dx fs with s₀ := s₀, gb := gb } (fmZ knd dA dB js S_ alo ahi blo bhi (i, j, k)) [] t4 (decide (a = c)))
    (kb : ∀ s₀ gb (Q' : Flow → Shared → Prop) i j k, alo < i → blo < j → At2K { fmC w A s g L dx fs with s₀ := s₀, gb := gb } (fmZ knd dA dB js S_ alo ahi blo bhi (i - 1, j - 1, k + 1)) [] (Q' .next) → Ex { fmC w A s g L dx fs with s₀ := s₀, gb := gb } (fmZ knd dA dB js S_ alo ahi blo bhi (i, j, k)) [] body Q')
    {i j k : Nat} (hi : alo ≤ i) (hi2 : i ≤ xs.length) (hj : blo ≤ j) (hj2 : j ≤ ys.length) {vars : DVars} (hv : ∀ p ∈ fmZ knd dA dB js S_ alo ahi blo bhi (i, j, k), p ∈ vars)
    (main : Ex (fmC w A s g L dx fs) (fmZ knd dA dB js S_ alo ahi blo bhi (backK P xs ys alo blo i j k)) [] rest Q) :
    Ex2 (fmC w A s g L dx fs) vars own (.While (.BoolOp .And [t1, t2, t3, t4] p1) body [] pos) rest Q := by
  refine x_while (fun z => fmZ knd dA dB js S_ alo ahi blo bhi z) (fun _ => []) (fun z => backK P xs ys alo blo z.1 z.2.1 z.2.2 = backK P xs ys alo blo i j k ∧ alo ≤ z.1 ∧ z.1 ≤ xs.length ∧ blo ≤ z.2.1 ∧ z.2.1 ≤ ys.length) (fun z => z.1) (i, j, k) ⟨rfl, hi, hi2, hj, hj2⟩ hv .nil fun s₀ gb hS z hz => ?_
  obtain ⟨i', j', k'⟩ := z
  obtain ⟨hF, b1, b2, b3, b4⟩ := hz
  dsimp only at hF b1 b2 b3 b4
  refine ⟨decide ((alo : Int) < (i' : Int)) && (decide ((blo : Int) < (j' : Int)) && (okAt P ys[j' - 1]? && (same P xs[i' - 1]? ys[j' - 1]? && true))), Tr.and (k1 s₀ gb i' j' k') fun q1 => Tr.and (k2 s₀ gb i' j' k') fun q2 => ?_, fun hb => ?_, fun hb => ?_⟩
  · have r1 : alo < i' := by have := of_decide_eq_true q1; (first | lia | omega)
    have r2 : blo < j' := by have := of_decide_eq_true q2; (first | lia | omega)
    obtain ⟨c, hc⟩ := get_lt (l := ys) (i := j' - 1) (by (first | lia | omega))
    obtain ⟨a, ha⟩ := get_lt (l := xs) (i := i' - 1) (by (first | lia | omega))
    rw [show okAt P ys[j' - 1]? = P c by rw [hc]; rfl, same_of ha hc]
    refine Tr.and (k3 s₀ gb i' j' k' c r2 hc) fun q3 => Tr.and ?_ fun _ => Tr.and0
    rw [q3]
    exact k4 s₀ gb i' j' k' a c r1 r2 ha hc
  · simp only [Bool.and_eq_true, decide_eq_true_eq] at hb
    obtain ⟨r1, r2, r3, r4, _⟩ := hb
    refine kb s₀ gb _ i' j' k' (by (first | lia | omega)) (by (first | lia | omega)) (K.turn (i' - 1, j' - 1, k' + 1) ⟨⟨?_, by dsimp only; (first | lia | omega), by dsimp only; (first | lia | omega), by dsimp only; (first | lia | omega), by dsimp only; (first | lia | omega)⟩, by dsimp only; (first | lia | omega)⟩ (fun _ h => h) .nil)
    rw [← hF, ← back_true (by (first | lia | omega)) (by (first | lia | omega)) r4]
  · have : backK P xs ys alo blo i' j' k' = (i', j', k') := back_stop fun r1 r2 => by
      rw [decide_eq_true (show (alo : Int) < (i' : Int) by (first | lia | omega)), decide_eq_true (show (blo : Int) < (j' : Int) by (first | lia | omega))] at hb
      simp only [Bool.true_and, Bool.and_true] at hb
      obtain ⟨c, hc⟩ := get_lt (l := ys) (i := j' - 1) (by (first | lia | omega))
      obtain ⟨a, ha⟩ := get_lt (l := xs) (i := i' - 1) (by (first | lia | omega))
      rw [show okAt P ys[j' - 1]? = P c by rw [hc]; rfl, same_of ha hc] at hb
      rw [same_of ha hc]
      cases hP : P c with
      | false => rfl
      | true => rw [hP] at hb; exact hb
    rw [← hF, this] at main
    exact main
theorem flm_fwd {A : Around} {g : Heap} {s : Shared} {L dx : Addr} {alo blo ahi bhi : Nat} {Q : Flow → Shared → Prop} {own : DOwn} {P : κ → Bool} (hh : A.handled = none) (h2 : ahi ≤ xs.length) (h4 : bhi ≤ ys.length)
    {t1 t2 t3 t4 : Expr} {body : List Stmt} {p1 pos : Pos} {rest : List Stmt} {i j : Nat}
    (k1 : ∀ s₀ gb k, Tr { fmC w A s g L dx fs with s₀ := s₀, gb := gb } (fmZ knd dA dB js S_ alo ahi blo bhi (i, j, k)) [] t1 (decide (((i : Int) + (k : Int)) < (ahi : Int))))
    (k2 : ∀ s₀ gb k, Tr { fmC w A s g L dx fs with s₀ := s₀, gb := gb } (fmZ knd dA dB js S_ alo ahi blo bhi (i, j, k)) [] t2 (decide (((j : Int) + (k : Int)) < (bhi : Int))))
    (k3 : ∀ s₀ gb k c, ys[j + k]? = some c → Tr { fmC w A s g L dx fs with s₀ := s₀, gb := gb } (fmZ knd dA dB js S_ alo ahi blo bhi (i, j, k)) [] t3 (P c))
    (k4 : ∀ s₀ gb k a c, xs[i + k]? = some a → ys[j + k]? = some c → Tr { fmC w A s g L dx fs with s₀ := s₀, gb := gb } (fmZ knd dA dB js S_ alo ahi blo bhi (i, j, k)) [] t4 (decide (a = c)))
    (kb : ∀ s₀ gb (Q' : Flow → Shared → Prop) k, At2K { fmC w A s g L dx fs with s₀ := s₀, gb := gb } (fmZ knd dA dB js S_ alo ahi blo bhi (i, j, k + 1)) [] (Q' .next) → Ex { fmC w A s g L dx fs with s₀ := s₀, gb := gb } (fmZ knd dA dB js S_ alo ahi blo bhi (i, j, k)) [] body Q')
    {k : Nat} {vars : DVars} (hv : ∀ p ∈ fmZ knd dA dB js S_ alo ahi blo bhi (i, j, k), p ∈ vars)
    (main : Ex (fmC w A s g L dx fs) (fmZ knd dA dB js S_ alo ahi blo bhi (i, j, fwdK P xs ys i j ahi bhi (ahi - (i + k)) k)) [] rest Q) :
    Ex2 (fmC w A s g L dx fs) vars own (.While (.BoolOp .And [t1, t2, t3, t4] p1) body [] pos) rest Q := by
  refine x_while (fun z : Nat => fmZ knd dA dB js S_ alo ahi blo bhi (i, j, z)) (fun _ => []) (fun z => fwdK P xs ys i j ahi bhi (ahi - (i + z)) z = fwdK P xs ys i j ahi bhi (ahi - (i + k)) k) (fun z => ahi - (i + z)) k rfl hv .nil fun s₀ gb hS k' hF => ?_
  refine ⟨decide (((i : Int) + (k' : Int)) < (ahi : Int)) && (decide (((j : Int) + (k' : Int)) < (bhi : Int)) && (okAt P ys[j + k']? && (same P xs[i + k']? ys[j + k']? && true))), Tr.and (k1 s₀ gb k') fun q1 => Tr.and (k2 s₀ gb k') fun q2 => ?_, fun hb => ?_, fun hb => ?_⟩
  · have r1 : i + k' < ahi := by have := of_decide_eq_true q1; (first | lia | omega)
    have r2 : j + k' < bhi := by have := of_decide_eq_true q2; (first | lia | omega)
    obtain ⟨c, hc⟩ := get_lt (l := ys) (i := j + k') (by (first | lia | omega))
    obtain ⟨a, ha⟩ := get_lt (l := xs) (i := i + k') (by (first | lia | omega))
    rw [show okAt P ys[j + k']? = P c by rw [hc]; rfl, same_of ha hc]
    refine Tr.and (k3 s₀ gb k' c hc) fun q3 => Tr.and ?_ fun _ => Tr.and0
    rw [q3]
    exact k4 s₀ gb k' a c ha hc
  · simp only [Bool.and_eq_true, decide_eq_true_eq] at hb
    obtain ⟨r1, r2, r3, r4, _⟩ := hb
    refine kb s₀ gb _ k' (K.turn (k' + 1) ⟨?_, by (first | lia | omega)⟩ (fun _ h => h) .nil)
    rw [← hF, ← fwd_true (by (first | lia | omega)) (by (first | lia | omega)) r4]
  · have : fwdK P xs ys i j ahi bhi (ahi - (i + k')) k' = k' := fwd_stop fun r1 r2 => by
      rw [decide_eq_true (show ((i : Int) + (k' : Int)) < (ahi : Int) by (first | lia | omega)), decide_eq_true (show ((j : Int) + (k' : Int)) < (bhi : Int) by (first | lia | omega))] at hb
      simp only [Bool.true_and, Bool.and_true] at hb
      obtain ⟨c, hc⟩ := get_lt (l := ys) (i := j + k') (by (first | lia | omega))
      obtain ⟨a, ha⟩ := get_lt (l := xs) (i := i + k') (by (first | lia | omega))
      rw [show okAt P ys[j + k']? = P c by rw [hc]; rfl, same_of ha hc] at hb
      rw [same_of ha hc]
      cases hP : P c with
      | false => rfl
      | true => rw [hP] at hb; exact hb
    rw [← hF, this] at main
    exact main
end
end
section
section
variable {C : Cc} {vars : DVars} {own : DOwn} {i j k : Int} {pos apos : Pos} {o e1 e2 : Expr}
theorem newTup_vs {g : Heap} {vs : List Value} {i j k : Int} (h : Reps g vs [.raw (.ref 135), .tup [.int i, .int j, .int k]]) : ∃ a x y z n t1 t2 t3, (x = .int i t1 ∧ y = .int j t2 ∧ z = .int k t3) ∧ vs = [.ref 135, .ref a] ∧ g.get? a = some ⟨.type "tuple", Option.none, .seq #[x, y, z] n, #[]⟩ := by
  cases h using Reps.eCons with
  | cons r r' =>
  cases r' using Reps.eCons with
  | cons r2 r' =>
  first | cases r' using Reps.eNil | cases r' using Rep.eInt | cases r' using Rep.eRaw | cases r' using Rep.eNone | cases r' using Rep.eStr | cases r' using Rep.eBool | cases r'
  first | cases r using Reps.eNil | cases r using Rep.eInt | cases r using Rep.eRaw | cases r using Rep.eNone | cases r using Rep.eStr | cases r using Rep.eBool | cases r
  cases r2 using Rep.eTup with
  | tup p rs =>
  obtain ⟨n, e⟩ := p
  cases rs using Reps.eCons with
  | cons q1 rs =>
  cases rs using Reps.eCons with
  | cons q2 rs =>
  cases rs using Reps.eCons with
  | cons q3 rs =>
  first | cases rs using Reps.eNil | cases rs using Rep.eInt | cases rs using Rep.eRaw | cases rs using Rep.eNone | cases rs using Rep.eStr | cases rs using Rep.eBool | cases rs
  first | cases q1 using Reps.eNil | cases q1 using Rep.eInt | cases q1 using Rep.eRaw | cases q1 using Rep.eNone | cases q1 using Rep.eStr | cases q1 using Rep.eBool | cases q1
  first | cases q2 using Reps.eNil | cases q2 using Rep.eInt | cases q2 using Rep.eRaw | cases q2 using Rep.eNone | cases q2 using Rep.eStr | cases q2 using Rep.eBool | cases q2
  first | cases q3 using Reps.eNil | cases q3 using Rep.eInt | cases q3 using Rep.eRaw | cases q3 using Rep.eNone | cases q3 using Rep.eStr | cases q3 using Rep.eBool | cases q3
  exact ⟨_, _, _, _, _, _, _, _, ⟨rfl, rfl, rfl⟩, rfl, e⟩
theorem Ev.newTup (c1 : attributeBase o "__new__" C.env (eval o C.env) = eval o C.env)
    (c2 : ((((backTo pos (starEach [e1, e2] C.env)).all fun x => !x.fst) && (backToKw pos (keywordEach [] C.env)).all fun x => x.fst.isSome) && decide (([e1, e2] : List Expr).length + ([] : List Keyword).length + (if ([] : List Keyword).isEmpty = true then 0 else 1) < 30)) = true)
    (c3 : (apos.endLine == pos.line) = true) (R : RunC C) (ho : Callee C vars own o (.type "tuple")) (h1 : Ev C vars own e1 (.raw (.ref 135))) (h2 : Ev C vars own e2 (.tup [.int i, .int j, .int k]))
    (he : starEach [e1, e2] C.env = (false, eval e1 C.env) :: starEach [e2] C.env) (he2 : starEach [e2] C.env = (false, eval e2 C.env) :: starEach [] C.env) (hp : (backTo pos (starEach [e2] C.env)).any (·.1) = false) :
    Ev C vars own (.Call (.Attribute o "__new__" apos) [e1, e2] [] pos) (.sp (IsMat 135 i j k)) := fun g s hs => by
  have hh := R.room
  refine wpAny_Call_methI c1 c2 c3 (wmono (ho.load g s hs) fun v s₁ h₁ => ?_)
  obtain ⟨rfl, rfl⟩ := h₁
  intro pl
  have X := (hs.fz.cx.ext hs.fz.sub).X
  rw [R.K] at X
  have sp : specialOf (.type "tuple") "__getattribute__" = pure (some (.builtin "type.__getattribute__")) := by
    show typeLookup (.type "type") "__getattribute__" = _
    exact tl_type_ga
  unfold getMethod
  refine wpAny_bind (wpAny_of_eq sp ?_)
  dsimp only
  rw [if_pos (by decide +kernel)]
  refine wpAny_bind (getAttr_type (v := .type "tuple") (fun s' e => (show typeOf (.type "tuple") = pure (.type "type") by kernel_rfl)) fun tk => ?_)
  have hg := tuple_new_ga (w := C.w) (tk := tk) (s := { s₁ with toks := s₁.toks + 1 }) X
  rw [← R.prog] at hg
  refine up (wmono hg fun r s₂ hq => ?_) hh.handled hh.depth hh.units
  obtain ⟨kk, rfl⟩ := hq
  refine ⟨rfl, wpAny_pure ?_⟩
  have x₂ : Gr g s₁ g s₂ := Gr.same hs.sub (keepsTrans (keepsTok s₁ _) kk)
  have a₂ := hs.grow x₂
  have hr := (EvArgs.cons (pos := pos) h1 (EvArgs.cons h2 EvArgs.nil he2) he) g _ a₂
  rw [he] at hr ⊢
  refine callWith_of (P := fun h => Kp (model C.prog C.w) h (.builtin "tuple.__new__")) (by show ((false || (backTo pos (starEach [e2] C.env)).any (·.1)) || false) = false; rw [hp]; rfl) (fun _ x => x) (evalArgs_plain (wmono hr fun vs s₃ ⟨g₃, x₃, r₃⟩ => ⟨Kp.builtin, ?_⟩))
  have f₃ := (a₂.grow x₃).fz
  have X₃ := (f₃.cx.ext f₃.sub).X
  rw [R.K] at X₃
  obtain ⟨a, x, y, z, n, t1, t2, t3, ⟨rfl, rfl, rfl⟩, rfl, e⟩ := newTup_vs r₃
  have hm := mat_make (w := C.w) (s := s₃) X₃ (f₃.sub _ _ e)
  rw [← R.prog] at hm
  refine up (wmono hm fun r s₄ hq => ?_) hh.handled hh.depth hh.units
  obtain ⟨kp, m, dx, rfl, n1, n2⟩ := hq
  exact (Keeps.new f₃.sub kp n1 n2 (fun g' h => ⟨m, dx, _, _, _, rfl, h⟩) IsMat.mono).after (x₂.trans x₃)
end
noncomputable abbrev mnSt : Stmt := stAt (clsBody (stAt T 3)) 4
theorem fn_mnew {w : World} {i j k : Int} : Fn pw_ w (K w.params) 1 (.ref 82) [.raw (.ref 135), .int i, .int j, .int k] (.sp (IsMat 135 i j k)) := by
  intro A hA g s vs F r
  cases r using Reps.eCons with
  | @cons v1 _ r1 r =>
  cases r using Reps.eCons with
  | @cons v2 _ r2 r =>
  cases r using Reps.eCons with
  | @cons v3 _ r3 r =>
  cases r using Reps.eCons with
  | @cons v4 _ r4 r =>
  first | cases r using Reps.eNil | cases r using Rep.eInt | cases r using Rep.eRaw | cases r using Rep.eNone | cases r using Rep.eStr | cases r using Rep.eBool | cases r
  refine fn_entry (fo := o_82 w.params) (name := S "__new__") (qual := S "Match.__new__") (params := fParams mnSt) (body := fBody mnSt) (sc := fScope mnSt) (binds := [(S "_cls", v1), (S "a", v2), (S "b", v3), (S "size", v4)]) (vars := [(S "_cls", v1), (S "a", v2), (S "b", v3), (S "size", v4)]) (cl := fun L => []) (own := fun L => [])
    hA F (by kernel_rfl) (by rfl) (codeRec_of (F.cx.ext F.sub).X (by kernel_rfl)) (kp_binds (F.cx.ext F.sub).X fun S => by kernel_rfl) (by kernel_rfl) (by decide +kernel) (fun L => by kernel_rfl) (by kernel_rfl) (fun L => by kernel_rfl) (by kernel_rfl)
    (.cons r1 (.cons r2 (.cons r3 (.cons r4 .nil)))) (fun L => .nil) fun L => ?_
  have hh := hA.handled
  refine Ex.body ?_
  walk_at "s"
  refine' x_doc (by kernel_rfl) (by kernel_rfl) ?_
  walk_at "s"
  refine' x_ret (Ev.newTup (by kernel_rfl) (by kernel_rfl) (by kernel_rfl) ⟨rfl, rfl, hA.deeper _⟩ ?m1 ?m2 ?m3 (by kernel_rfl) (by kernel_rfl) (by kernel_rfl)) Ret.fin
  case m1 => walk_at "blt"
  case m2 => walk_at "ev"
  case m3 => walk_at "ev"
section
variable {C : Cc} {i j k : Int}
theorem ints3_vs {g : Heap} {vs : List Value} {i j k : Int} (h : Reps g vs [.int i, .int j, .int k]) : ∃ t u v, vs = [.int i t, .int j u, .int k v] := by
  cases h using Reps.eCons with
  | cons r rs =>
  cases rs using Reps.eCons with
  | cons r' rs =>
  cases rs using Reps.eCons with
  | cons r'' rs =>
  first | cases rs using Reps.eNil | cases rs using Rep.eInt | cases rs using Rep.eRaw | cases rs using Rep.eNone | cases rs using Rep.eStr | cases rs using Rep.eBool | cases rs
  first | cases r using Reps.eNil | cases r using Rep.eInt | cases r using Rep.eRaw | cases r using Rep.eNone | cases r using Rep.eStr | cases r using Rep.eBool | cases r
  first | cases r' using Reps.eNil | cases r' using Rep.eInt | cases r' using Rep.eRaw | cases r' using Rep.eNone | cases r' using Rep.eStr | cases r' using Rep.eBool | cases r'
  first | cases r'' using Reps.eNil | cases r'' using Rep.eInt | cases r'' using Rep.eRaw | cases r'' using Rep.eNone | cases r'' using Rep.eStr | cases r'' using Rep.eBool | cases r''
  exact ⟨_, _, _, rfl⟩
theorem FnC.match_ (R : RunC C) (hA : RmN 2 C.A) : FnC C (.ref 135) [.int i, .int j, .int k] (.sp (IsMat 135 i j k)) := fun g s vs F r => by
  obtain ⟨t, u, v, rfl⟩ := ints3_vs r
  have X := (F.cx.ext F.sub).X
  rw [R.K] at X
  have F' := F
  rw [R.K] at F'
  have hg := match_new (w := C.w) (A := C.A) (s := s) (i := i) (j := j) (k := k) (t := t) (u := u) (v := v) (Q := Gives (.sp (IsMat 135 i j k)) g s) X hA.handled (by have := hA.depth; (first | lia | omega)) (by have := hA.units; (first | lia | omega)) fun s₁ k₁ => by
    have y₁ := Gr.same F.sub k₁
    refine wmono (fn_mnew _ (hA.under_tc) g s₁ _ ⟨y₁.sub, F'.cx⟩ (.cons (.raw _) (.cons (.int _ _) (.cons (.int _ _) (.cons (.int _ _) .nil))))) fun r s' hq => ?_
    obtain ⟨g', y, r'⟩ := hq
    cases r' using Rep.eSp with
    | sp hP hM =>
    obtain ⟨m, dx, t, u, q, rfl, e⟩ := hP
    refine ⟨m, dx, _, _, _, rfl, y.sub _ _ e, ?_, fun s'' k'' => ?_⟩
    · exact X.keeps (Ext.trans (keepsExt y₁.keeps) (keepsExt y.keeps))
    · exact ⟨g', (y₁.trans y).trans (Gr.same y.sub k''), .sp ⟨m, dx, _, _, _, rfl, e⟩ hM⟩
  rw [← R.prog] at hg
  exact hg
end
end
section
section
variable {w : World} {κ : Type} [DecidableEq κ] {knd : PySem.KeyKind pw_ w κ} {ι : κ → D} {dA dB : D} {xs ys : List κ} {js : κ → List Int} {S_ : κ → Bool} {fs : List (PySem.Str × D)}
theorem flm_end {A : Around} {g : Heap} {s : Shared} {L dx : Addr} {alo blo ahi bhi i j k : Nat} {vars : DVars} {own : DOwn} (hA : RmN 3 A) (sa : SeqK knd ι dA xs) (sb : SeqK knd ι dB ys) (h2 : ahi ≤ xs.length) (h4 : bhi ≤ ys.length)
    (hi : alo ≤ i) (hi2 : i ≤ xs.length) (hj : blo ≤ j) (hj2 : j ≤ ys.length) (hv : ∀ p ∈ fmZ knd dA dB js S_ alo ahi blo bhi (i, j, k), p ∈ vars) :
    Ex (fmC w A s g L dx fs) vars own ((fBody fmSt).drop 8) (Fin (fmC w A s g L dx fs) (.sp (IsMat aMatch (flmX S_ xs ys alo ahi blo bhi i j k).1 (flmX S_ xs ys alo ahi blo bhi i j k).2.1 (flmX S_ xs ys alo ahi blo bhi i j k).2.2))) := by
  have hh := hA.handled
  have R : RunC (fmC w A s g L dx fs) := ⟨rfl, rfl, (hA.deeper _).le (by decide)⟩
  have hk : ∀ g v c, Rep g v (ι c) → knd.is c v = true := fun g v c r => sa.key r
  have hsc : ∀ g v c, Rep g v (ι c) → v.scannable = true := fun g v c r => sa.scan r
  generalize hR : flmX S_ xs ys alo ahi blo bhi i j k = R_
  unfold flmX at hR
  walk_at "s"
  refine' flm_back (P := fun c => !S_ c) hh h2 h4 (fun s₀ gb i j k => ?a1_0) (fun s₀ gb i j k => ?a2_0) (fun s₀ gb i j k c hj hc => ?a3_0) (fun s₀ gb i j k a c hi hj ha hc => ?a4_0) (fun s₀ gb Q' i j k hi hj hQ => ?a5_0) hi hi2 hj hj2 hv ?_
  case a1_0 => walk_at "tr"
  case a2_0 => walk_at "tr"
  case a3_0 =>
    have hc' : ys[((j : Int) - 1).toNat]? = some c := by rw [show ((j : Int) - 1).toNat = j - 1 by (first | lia | omega)]; exact hc
    have h0 : (0 : Int) ≤ (j : Int) - 1 := by (first | lia | omega)
    refine' Tr.not (Tr.val (Ev.callInK (k := c) ?b1_0 ?b2_0 (fun g v r => hk g v c r) (fun g v r => hsc g v c r) (by kernel_rfl)) (by kernel_rfl))
    case b1_0 => walk_at "nm"
    case b2_0 => walk_at "ev"
  case a4_0 =>
    have hc' : ys[((j : Int) - 1).toNat]? = some c := by rw [show ((j : Int) - 1).toNat = j - 1 by (first | lia | omega)]; exact hc
    have ha' : xs[((i : Int) - 1).toNat]? = some a := by rw [show ((i : Int) - 1).toNat = i - 1 by (first | lia | omega)]; exact ha
    refine' Tr.cmp ?b1_0 ?b2_0 sa.eq (by kernel_rfl)
    case b1_0 => exact sa.item (by walk_at "ev") (by walk_at "ev") (by (first | lia | omega)) ha' (by intro _ _; kernel_rfl)
    case b2_0 => exact sb.item (by walk_at "ev") (by walk_at "ev") (by (first | lia | omega)) hc' (by intro _ _; kernel_rfl)
  case a5_0 =>
    refine Ex.cons ?_
    refine' x_asgW (names := [S "besti", S "bestj", S "bestsize"]) (ds := [.int ((i - 1 : Nat) : Int), .int ((j - 1 : Nat) : Int), .int ((k + 1 : Nat) : Int)]) hh (by kernel_rfl) (by kernel_rfl) rfl ?c1_0 (AsgAll.bind ?n1_0 (AsgAll.bind ?n2_0 (AsgAll.bind ?n3_0 AsgAll.nil))) (Ex.nil ?c2_0)
    case c1_0 =>
      rw [show ((i - 1 : Nat) : Int) = (i : Int) - 1 by (first | lia | omega), show ((j - 1 : Nat) : Int) = (j : Int) - 1 by (first | lia | omega), show ((k + 1 : Nat) : Int) = (k : Int) + 1 by (first | lia | omega)]
      refine' Ev.tuple ?c3_0 (by simp)
      walk_at "args"
    case n1_0 => walk_at "sto"
    case n2_0 => walk_at "sto"
    case n3_0 => walk_at "sto"
    case c2_0 =>
      intro g s hs
      refine hQ g s (hs.forget ?_)
      walk_at "vs"
  obtain ⟨e1, e2, e3, e4, e5, e6, e7, _⟩ := back_inv (fun c => !S_ c) xs ys alo blo i j k hi hj
  generalize backK (fun c => !S_ c) xs ys alo blo i j k = za at e1 e2 e3 e4 e5 e6 e7 hR ⊢
  obtain ⟨i1, j1, k1⟩ := za
  dsimp only at e1 e2 e3 e4 e5 e6 e7 hR
  walk_at "s"
  refine' flm_fwd (P := fun c => !S_ c) hh h2 h4 (fun s₀ gb k => ?f1_1) (fun s₀ gb k => ?f2_1) (fun s₀ gb k c hc => ?f3_1) (fun s₀ gb k a c ha hc => ?f4_1) (fun s₀ gb Q' k hQ => ?f5_1) (fun _ h => h) ?_
  case f1_1 => walk_at "tr"
  case f2_1 => walk_at "tr"
  case f3_1 =>
    have hc' : ys[((j1 : Int) + k).toNat]? = some c := by rw [show ((j1 : Int) + k).toNat = j1 + k by (first | lia | omega)]; exact hc
    have h0 : (0 : Int) ≤ (j1 : Int) + k := by (first | lia | omega)
    refine' Tr.not (Tr.val (Ev.callInK (k := c) ?b1_1 ?b2_1 (fun g v r => hk g v c r) (fun g v r => hsc g v c r) (by kernel_rfl)) (by kernel_rfl))
    case b1_1 => walk_at "nm"
    case b2_1 => walk_at "ev"
  case f4_1 =>
    have hc' : ys[((j1 : Int) + k).toNat]? = some c := by rw [show ((j1 : Int) + k).toNat = j1 + k by (first | lia | omega)]; exact hc
    have ha' : xs[((i1 : Int) + k).toNat]? = some a := by rw [show ((i1 : Int) + k).toNat = i1 + k by (first | lia | omega)]; exact ha
    refine' Tr.cmp ?b1_1 ?b2_1 sa.eq (by kernel_rfl)
    case b1_1 => exact sa.item (by walk_at "ev") (by walk_at "ev") (by (first | lia | omega)) ha' (by intro _ _; kernel_rfl)
    case b2_1 => exact sb.item (by walk_at "ev") (by walk_at "ev") (by (first | lia | omega)) hc' (by intro _ _; kernel_rfl)
  case f5_1 =>
    refine Ex.cons ?_
    refine' x_aug (d := .int ((k : Int) + 1)) ?c1_1 (by kernel_rfl) (by kernel_rfl) Ev.int Inp.add ?c2_1 (Ex.nil ?c3_1)
    case c1_1 => walk_at "m"
    case c2_1 => walk_at "sto"
    case c3_1 =>
      intro g s hs
      refine hQ g s (hs.forget ?_)
      rw [show ((k : Int) + 1) = ((k + 1 : Nat) : Int) by (first | lia | omega)]
      walk_at "vs"
  generalize fwdK (fun c => !S_ c) xs ys i1 j1 ahi bhi (ahi - (i1 + k1)) k1 = k2 at hR ⊢
  walk_at "s"
  refine' flm_back (P := S_) hh h2 h4 (fun s₀ gb i j k => ?a1_2) (fun s₀ gb i j k => ?a2_2) (fun s₀ gb i j k c hj hc => ?a3_2) (fun s₀ gb i j k a c hi hj ha hc => ?a4_2) (fun s₀ gb Q' i j k hi hj hQ => ?a5_2) (i := i1) (j := j1) (k := k2) e1 (by (first | lia | omega)) e3 (by (first | lia | omega)) (fun _ h => h) ?_
  case a1_2 => walk_at "tr"
  case a2_2 => walk_at "tr"
  case a3_2 =>
    have hc' : ys[((j : Int) - 1).toNat]? = some c := by rw [show ((j : Int) - 1).toNat = j - 1 by (first | lia | omega)]; exact hc
    have h0 : (0 : Int) ≤ (j : Int) - 1 := by (first | lia | omega)
    refine' Tr.val (Ev.callInK (k := c) ?b1_2 ?b2_2 (fun g v r => hk g v c r) (fun g v r => hsc g v c r) (by kernel_rfl)) (by kernel_rfl)
    case b1_2 => walk_at "nm"
    case b2_2 => walk_at "ev"
  case a4_2 =>
    have hc' : ys[((j : Int) - 1).toNat]? = some c := by rw [show ((j : Int) - 1).toNat = j - 1 by (first | lia | omega)]; exact hc
    have ha' : xs[((i : Int) - 1).toNat]? = some a := by rw [show ((i : Int) - 1).toNat = i - 1 by (first | lia | omega)]; exact ha
    refine' Tr.cmp ?b1_2 ?b2_2 sa.eq (by kernel_rfl)
    case b1_2 => exact sa.item (by walk_at "ev") (by walk_at "ev") (by (first | lia | omega)) ha' (by intro _ _; kernel_rfl)
    case b2_2 => exact sb.item (by walk_at "ev") (by walk_at "ev") (by (first | lia | omega)) hc' (by intro _ _; kernel_rfl)
  case a5_2 =>
    refine Ex.cons ?_
    refine' x_asgW (names := [S "besti", S "bestj", S "bestsize"]) (ds := [.int ((i - 1 : Nat) : Int), .int ((j - 1 : Nat) : Int), .int ((k + 1 : Nat) : Int)]) hh (by kernel_rfl) (by kernel_rfl) rfl ?c1_2 (AsgAll.bind ?n1_2 (AsgAll.bind ?n2_2 (AsgAll.bind ?n3_2 AsgAll.nil))) (Ex.nil ?c2_2)
    case c1_2 =>
      rw [show ((i - 1 : Nat) : Int) = (i : Int) - 1 by (first | lia | omega), show ((j - 1 : Nat) : Int) = (j : Int) - 1 by (first | lia | omega), show ((k + 1 : Nat) : Int) = (k : Int) + 1 by (first | lia | omega)]
      refine' Ev.tuple ?c3_2 (by simp)
      walk_at "args"
    case n1_2 => walk_at "sto"
    case n2_2 => walk_at "sto"
    case n3_2 => walk_at "sto"
    case c2_2 =>
      intro g s hs
      refine hQ g s (hs.forget ?_)
      walk_at "vs"
  obtain ⟨u1, u2, u3, u4, u5, u6, u7, _⟩ := back_inv S_ xs ys alo blo i1 j1 k2 e1 e3
  generalize backK S_ xs ys alo blo i1 j1 k2 = zb at u1 u2 u3 u4 u5 u6 u7 hR ⊢
  obtain ⟨i3, j3, k3⟩ := zb
  dsimp only at u1 u2 u3 u4 u5 u6 u7 hR
  walk_at "s"
  refine' flm_fwd (P := S_) hh h2 h4 (fun s₀ gb k => ?f1_3) (fun s₀ gb k => ?f2_3) (fun s₀ gb k c hc => ?f3_3) (fun s₀ gb k a c ha hc => ?f4_3) (fun s₀ gb Q' k hQ => ?f5_3) (fun _ h => h) ?_
  case f1_3 => walk_at "tr"
  case f2_3 => walk_at "tr"
  case f3_3 =>
    have hc' : ys[((j3 : Int) + k).toNat]? = some c := by rw [show ((j3 : Int) + k).toNat = j3 + k by (first | lia | omega)]; exact hc
    have h0 : (0 : Int) ≤ (j3 : Int) + k := by (first | lia | omega)
    refine' Tr.val (Ev.callInK (k := c) ?b1_3 ?b2_3 (fun g v r => hk g v c r) (fun g v r => hsc g v c r) (by kernel_rfl)) (by kernel_rfl)
    case b1_3 => walk_at "nm"
    case b2_3 => walk_at "ev"
  case f4_3 =>
    have hc' : ys[((j3 : Int) + k).toNat]? = some c := by rw [show ((j3 : Int) + k).toNat = j3 + k by (first | lia | omega)]; exact hc
    have ha' : xs[((i3 : Int) + k).toNat]? = some a := by rw [show ((i3 : Int) + k).toNat = i3 + k by (first | lia | omega)]; exact ha
    refine' Tr.cmp ?b1_3 ?b2_3 sa.eq (by kernel_rfl)
    case b1_3 => exact sa.item (by walk_at "ev") (by walk_at "ev") (by (first | lia | omega)) ha' (by intro _ _; kernel_rfl)
    case b2_3 => exact sb.item (by walk_at "ev") (by walk_at "ev") (by (first | lia | omega)) hc' (by intro _ _; kernel_rfl)
  case f5_3 =>
    refine Ex.cons ?_
    refine' x_asgN (d := .int ((k + 1 : Nat) : Int)) ?c1_3 ?c2_3 (Ex.nil ?c3_3) (by kernel_rfl)
    case c1_3 =>
      rw [show ((k + 1 : Nat) : Int) = (k : Int) + 1 by (first | lia | omega)]
      walk_at "ev"
    case c2_3 => walk_at "sto"
    case c3_3 =>
      intro g s hs
      refine hQ g s (hs.forget ?_)
      walk_at "vs"
  generalize fwdK S_ xs ys i3 j3 ahi bhi (ahi - (i3 + k3)) k3 = k4 at hR ⊢
  subst hR
  walk_at "s"
  refine' x_ret (Ev.call (fv := .ref aMatch) ?m1_3 ?m2_3 (FnC.match_ R (hA.deeper _)) ?m3_3 ?m4_3) Ret.fin
  case m1_3 => walk_at "glob"
  case m2_3 => walk_at "args"
  case m3_3 => kernel_rfl
  case m4_3 => kernel_rfl
end
end
section
section
variable {κ : Type} [DecidableEq κ]
noncomputable def jxOf (xs : List κ) (js : κ → List Int) (i : Int) : List Int := match xs[i.toNat]? with
  | some c => js c
  | none => []
noncomputable def flmSt (xs : List κ) (js : κ → List Int) (alo ahi blo bhi : Nat) : St := allSt alo blo bhi (jxOf xs js) (ahi - alo)
noncomputable def flmR (S_ : κ → Bool) (xs ys : List κ) (js : κ → List Int) (alo ahi blo bhi : Nat) : Nat × Nat × Nat :=
  flmX S_ xs ys alo ahi blo bhi (flmSt xs js alo ahi blo bhi).bi.toNat (flmSt xs js alo ahi blo bhi).bj.toNat (flmSt xs js alo ahi blo bhi).bs
structure IdxOk (js : κ → List Int) : Prop where
  len : ∀ c, (js c).length ≤ 100000
  asc : ∀ c, (js c).Pairwise (· < ·)
omit [DecidableEq κ] in
theorem IdxOk.inv {js : κ → List Int} (h : IdxOk js) (xs : List κ) (alo ahi blo bhi : Nat) : Inv alo blo bhi (jxOf xs js) (ahi - alo) (flmSt xs js alo ahi blo bhi) :=
  Inv.all _ _ _ _ (fun i => by unfold jxOf; split; exact h.asc _; exact .nil) _
omit [DecidableEq κ] in
theorem flmSt_in {js : κ → List Int} (h : IdxOk js) {xs : List κ} {alo ahi blo bhi : Nat} (h1 : alo ≤ ahi) : ∃ i j : Nat, (flmSt xs js alo ahi blo bhi).bi = i ∧ (flmSt xs js alo ahi blo bhi).bj = j ∧ alo ≤ i ∧ i + (flmSt xs js alo ahi blo bhi).bs ≤ ahi ∧ blo ≤ j ∧ (j + (flmSt xs js alo ahi blo bhi).bs ≤ bhi ∨ j = blo ∧ (flmSt xs js alo ahi blo bhi).bs = 0) := by
  have v := h.inv xs alo ahi blo bhi
  rcases Nat.eq_zero_or_pos (flmSt xs js alo ahi blo bhi).bs with q | q
  · obtain ⟨a, b⟩ := v.b0 q
    exact ⟨alo, blo, a, b, Nat.le_refl _, by (first | lia | omega), Nat.le_refl _, .inr ⟨rfl, q⟩⟩
  · obtain ⟨a, b, c, d, _⟩ := v.b1 q
    exact ⟨(flmSt xs js alo ahi blo bhi).bi.toNat, (flmSt xs js alo ahi blo bhi).bj.toNat, by (first | lia | omega), by (first | lia | omega), by (first | lia | omega), by (first | lia | omega), by (first | lia | omega), .inl (by (first | lia | omega))⟩
end
section
variable {w : World} {κ : Type} [DecidableEq κ] {knd : PySem.KeyKind pw_ w κ} {ι : κ → D} {dA dB : D} {xs ys : List κ} {js : κ → List Int} {S_ : κ → Bool} {fs : List (PySem.Str × D)}
theorem flm_walk {A : Around} {g : Heap} {s : Shared} {L x dx : Addr} {alo blo : Nat} {ahi bhi : Option Nat} (hA : RmN 3 A) (sa : SeqK knd ι dA xs) (sb : SeqK knd ι dB ys) (hf : FmFs knd fs dA dB js S_)
    (hx : xs.length ≤ 100000) (hy : ys.length ≤ 100000) (h1 : alo ≤ ahi.getD xs.length) (h2 : ahi.getD xs.length ≤ xs.length) (h3 : blo ≤ ys.length) (h4 : bhi.getD ys.length ≤ ys.length) (ok : IdxOk js) :
    Ex (fmC w A s g L dx fs) [(S "self", .sp (IsInst aSM x dx)), (S "alo", .int alo), (S "ahi", oD ahi), (S "blo", .int blo), (S "bhi", oD bhi)] [] (fBody fmSt) (Fin (fmC w A s g L dx fs) (.sp (IsMat aMatch (flmR S_ xs ys js alo (ahi.getD xs.length) blo (bhi.getD ys.length)).1 (flmR S_ xs ys js alo (ahi.getD xs.length) blo (bhi.getD ys.length)).2.1 (flmR S_ xs ys js alo (ahi.getD xs.length) blo (bhi.getD ys.length)).2.2))) := by
  refine flm_body (alo := alo) (blo := blo) (ahi := ahi) (bhi := bhi) hA sa sb hf ?_
  generalize ahi.getD xs.length = ah at h1 h2 ⊢
  generalize bhi.getD ys.length = bh at h4 ⊢
  refine flm_loops (jx := jxOf xs js) hA sa sb hx hy h1 h2 (by (first | lia | omega)) h4 ⟨ok.len, ok.asc, fun i c hc => ?_⟩ fun a N => ?_
  · unfold jxOf
    rw [show ((i : Nat) : Int).toNat = i from rfl, hc]
  · obtain ⟨i, j, e1, e2, e3, e4, e5, e6⟩ := flmSt_in ok (xs := xs) (bhi := bh) (blo := blo) h1
    unfold flmR
    rw [e1, e2]
    rw [show ((i : Nat) : Int).toNat = i from rfl, show ((j : Nat) : Int).toNat = j from rfl]
    refine flm_end (js := js) hA sa sb h2 h4 e3 (by (first | lia | omega)) e5 (by (first | lia | omega)) ?_
    have e1' : (allSt alo blo bh (jxOf xs js) (ah - alo)).bi = i := e1
    have e2' : (allSt alo blo bh (jxOf xs js) (ah - alo)).bj = j := e2
    have hZ : fmZ knd dA dB js S_ alo ah blo bh (i, j, (flmSt xs js alo ah blo bh).bs) = (S "besti", .int (allSt alo blo bh (jxOf xs js) (ah - alo)).bi) :: (S "bestj", .int (allSt alo blo bh (jxOf xs js) (ah - alo)).bj) :: (S "bestsize", .int (allSt alo blo bh (jxOf xs js) (ah - alo)).bs) :: fmV knd dA dB js S_ alo ah blo bh := by
      rw [e1', e2']; rfl
    rw [hZ]
    walk_at "vs"
theorem flm_call5 {A : Around} {g : Heap} {s : Shared} {x dx : Addr} {alo blo : Nat} {ahi bhi : Option Nat} {vs : List Value} (hA : RmN 3 A) (F : Fz (K w.params) g s) (sa : SeqK knd ι dA xs) (sb : SeqK knd ι dB ys) (hf : FmFs knd fs dA dB js S_)
    (hx : xs.length ≤ 100000) (hy : ys.length ≤ 100000) (h1 : alo ≤ ahi.getD xs.length) (h2 : ahi.getD xs.length ≤ xs.length) (h3 : blo ≤ ys.length) (h4 : bhi.getD ys.length ≤ ys.length) (ok : IdxOk js)
    (hro : ∀ p ∈ [(dx, OInst fs)], (∃ o, s.heap.get? p.1 = some o ∧ p.2 g o) ∧ ∀ g g' o, Ext g g' → p.2 g o → p.2 g' o) (r : Reps g vs [.sp (IsInst aSM x dx), .int alo, oD ahi, .int blo, oD bhi]) :
    wpAny (model pw_ w) A (call (.ref aFlm) vs) (Gives (.sp (IsMat aMatch (flmR S_ xs ys js alo (ahi.getD xs.length) blo (bhi.getD ys.length)).1 (flmR S_ xs ys js alo (ahi.getD xs.length) blo (bhi.getD ys.length)).2.1 (flmR S_ xs ys js alo (ahi.getD xs.length) blo (bhi.getD ys.length)).2.2)) g s) Ff s := by
  cases r using Reps.eCons with
  | @cons v0 _ r0 r =>
  cases r using Reps.eCons with
  | @cons v1 _ r1 r =>
  cases r using Reps.eCons with
  | @cons v2 _ r2 r =>
  cases r using Reps.eCons with
  | @cons v3 _ r3 r =>
  cases r using Reps.eCons with
  | @cons v4 _ r4 r =>
  first | cases r using Reps.eNil | cases r using Rep.eInt | cases r using Rep.eRaw | cases r using Rep.eNone | cases r using Rep.eStr | cases r using Rep.eBool | cases r
  exact fn_entryR (fo := oFlm w.params) (name := S "find_longest_match") (qual := S "SequenceMatcher.find_longest_match") (params := fParams fmSt) (body := fBody fmSt) (sc := fScope fmSt) (binds := [(S "self", v0), (S "alo", v1), (S "ahi", v2), (S "blo", v3), (S "bhi", v4)]) (vars := [(S "self", v0), (S "alo", v1), (S "ahi", v2), (S "blo", v3), (S "bhi", v4)]) (cl := fun L => []) (own := fun L => []) [(dx, OInst fs)]
    hA F (by kernel_rfl) (by rfl) (codeRec_of (F.cx.ext F.sub).X (by kernel_rfl)) (kp_binds (F.cx.ext F.sub).X fun S => by kernel_rfl) (by kernel_rfl) (by decide +kernel) (fun L => by kernel_rfl) (by kernel_rfl) (fun L => by kernel_rfl) (by kernel_rfl)
    (.cons r0 (.cons r1 (.cons r2 (.cons r3 (.cons r4 .nil))))) (fun L => .nil) hro fun L => flm_walk hA sa sb hf hx hy h1 h2 h3 h4 ok
theorem flm_call2 {A : Around} {g : Heap} {s : Shared} {x dx : Addr} {alo : Nat} {vs : List Value} (hA : RmN 3 A) (F : Fz (K w.params) g s) (sa : SeqK knd ι dA xs) (sb : SeqK knd ι dB ys) (hf : FmFs knd fs dA dB js S_)
    (hx : xs.length ≤ 100000) (hy : ys.length ≤ 100000) (h1 : alo ≤ xs.length) (ok : IdxOk js)
    (hro : ∀ p ∈ [(dx, OInst fs)], (∃ o, s.heap.get? p.1 = some o ∧ p.2 g o) ∧ ∀ g g' o, Ext g g' → p.2 g o → p.2 g' o) (r : Reps g vs [.sp (IsInst aSM x dx), .int alo]) :
    wpAny (model pw_ w) A (call (.ref aFlm) vs) (Gives (.sp (IsMat aMatch (flmR S_ xs ys js alo xs.length 0 ys.length).1 (flmR S_ xs ys js alo xs.length 0 ys.length).2.1 (flmR S_ xs ys js alo xs.length 0 ys.length).2.2)) g s) Ff s := by
  cases r using Reps.eCons with
  | @cons v0 _ r0 r =>
  cases r using Reps.eCons with
  | @cons v1 _ r1 r =>
  first | cases r using Reps.eNil | cases r using Rep.eInt | cases r using Rep.eRaw | cases r using Rep.eNone | cases r using Rep.eStr | cases r using Rep.eBool | cases r
  exact fn_entryR (fo := oFlm w.params) (name := S "find_longest_match") (qual := S "SequenceMatcher.find_longest_match") (params := fParams fmSt) (body := fBody fmSt) (sc := fScope fmSt) (binds := [(S "self", v0), (S "alo", v1), (S "ahi", .none), (S "blo", .int 0 tBlo), (S "bhi", .none)]) (vars := [(S "self", v0), (S "alo", v1), (S "ahi", .none), (S "blo", .int 0 tBlo), (S "bhi", .none)]) (cl := fun L => []) (own := fun L => []) [(dx, OInst fs)]
    hA F (by kernel_rfl) (by rfl) (codeRec_of (F.cx.ext F.sub).X (by kernel_rfl)) (kp_binds (F.cx.ext F.sub).X fun S => by kernel_rfl) (by kernel_rfl) (by decide +kernel) (fun L => by kernel_rfl) (by kernel_rfl) (fun L => by kernel_rfl) (by kernel_rfl)
    (.cons r0 (.cons r1 (.cons .none (.cons (.int _ _) (.cons .none .nil))))) (fun L => .nil) hro fun L => flm_walk (ahi := none) (blo := 0) (bhi := none) hA sa sb hf hx hy h1 (Nat.le_refl _) (Nat.zero_le _) (Nat.le_refl _) ok
end
end
section
section
variable {κ : Type} [DecidableEq κ]
structure Agr (xs ys : List κ) (alo ahi blo bhi i j k : Nat) : Prop where
  i0 : alo ≤ i
  i1 : i + k ≤ ahi
  j0 : blo ≤ j
  j1 : j + k ≤ bhi
  eq : ∀ t, t < k → ∃ c, xs[i + t]? = some c ∧ ys[j + t]? = some c
theorem mem_jx {xs ys : List κ} {i j : Nat} : ((j : Int)) ∈ jxOf xs (jsK ys) (i : Int) ↔ ∃ c, xs[i]? = some c ∧ ys[j]? = some c := by
  unfold jxOf
  rw [Int.toNat_natCast]
  cases q : xs[i]? with
  | none => simp
  | some c =>
    show (j : Int) ∈ jsK ys c ↔ _
    rw [mem_jsK]
    constructor
    · rintro ⟨n, h1, h2⟩
      have : j = n := by (first | lia | omega)
      subst this
      exact ⟨c, rfl, h2⟩
    · rintro ⟨c', h1, h2⟩
      cases h1
      exact ⟨j, rfl, h2⟩
theorem jsK_ok {ys : List κ} (h : ys.length ≤ 100000) : IdxOk (jsK ys) := ⟨fun c => Nat.le_trans (jsK_len ys c) h, fun c => jsK_asc ys c⟩
structure FlmSpec (xs ys : List κ) (alo ahi blo bhi : Nat) (r : Nat × Nat × Nat) : Prop where
  s1 : Agr xs ys alo ahi blo bhi r.1 r.2.1 r.2.2
  s2 : ∀ i j k, Agr xs ys alo ahi blo bhi i j k → k ≤ r.2.2
  s3 : ∀ i j, 0 < r.2.2 → Agr xs ys alo ahi blo bhi i j r.2.2 → r.1 < i ∨ (r.1 = i ∧ r.2.1 ≤ j)
  s0 : r.2.2 = 0 → r.1 = alo ∧ r.2.1 = blo
theorem flm_spec {xs ys : List κ} {alo ahi blo bhi : Nat} (hy : ys.length ≤ 100000) (h1 : alo ≤ ahi) (h2 : ahi ≤ xs.length) (h3 : blo ≤ bhi) (h4 : bhi ≤ ys.length) : FlmSpec xs ys alo ahi blo bhi (flmR (fun _ => false) xs ys (jsK ys) alo ahi blo bhi) := by
  have ok := jsK_ok hy
  have v := ok.inv xs alo ahi blo bhi
  obtain ⟨i, j, e1, e2, b1, b2, b3, b4⟩ := flmSt_in (js := jsK ys) ok (xs := xs) (blo := blo) (bhi := bhi) h1
  have hs2 : ∀ i' j' k', Agr xs ys alo ahi blo bhi i' j' k' → k' ≤ (flmSt xs (jsK ys) alo ahi blo bhi).bs := fun i' j' k' a =>
    v.b2 i' j' k' (by have := a.i0; (first | lia | omega)) (by have := a.i1; (first | lia | omega)) (by have := a.j0; (first | lia | omega)) (by have := a.j1; (first | lia | omega)) fun t ht => by
      have := mem_jx.mpr (a.eq t ht)
      push_cast at this
      exact this
  have hs1 : Agr xs ys alo ahi blo bhi i j (flmSt xs (jsK ys) alo ahi blo bhi).bs := by
    refine ⟨b1, b2, b3, by (first | lia | omega), fun t ht => ?_⟩
    have := (v.b1 (by (first | lia | omega))).2.2.2.2 t ht
    rw [e1, e2] at this
    apply mem_jx.mp
    push_cast
    exact this
  have hs3 : ∀ i' j', 0 < (flmSt xs (jsK ys) alo ahi blo bhi).bs → Agr xs ys alo ahi blo bhi i' j' (flmSt xs (jsK ys) alo ahi blo bhi).bs → i < i' ∨ (i = i' ∧ j ≤ j') := fun i' j' hp a => by
    have := v.b3 hp i' j' (by have := a.i0; (first | lia | omega)) (by have := a.i1; (first | lia | omega)) (by have := a.j0; (first | lia | omega)) (by have := a.j1; (first | lia | omega)) fun t ht => by
      have := mem_jx.mpr (a.eq t ht)
      push_cast at this
      exact this
    rw [e1, e2] at this
    (first | lia | omega)
  have hs0 : (flmSt xs (jsK ys) alo ahi blo bhi).bs = 0 → i = alo ∧ j = blo := fun h => by
    obtain ⟨a, b⟩ := v.b0 h
    (first | lia | omega)
  have hst1 : ∀ P : κ → Bool, alo < i → blo < j → same P xs[i - 1]? ys[j - 1]? = false := fun P h5 h6 => by
    cases q : same P xs[i - 1]? ys[j - 1]? with
    | false => rfl
    | true =>
      exfalso
      have : ∃ c, xs[i - 1]? = some c ∧ ys[j - 1]? = some c := by
        unfold same at q
        split at q
        · rename_i a b qa qb
          simp at q
          exact ⟨a, qa, by rw [qb, q.2]⟩
        · cases q
      have ha : Agr xs ys alo ahi blo bhi (i - 1) (j - 1) ((flmSt xs (jsK ys) alo ahi blo bhi).bs + 1) := by
        refine ⟨by (first | lia | omega), by (first | lia | omega), by (first | lia | omega), by have := hs1.j1; (first | lia | omega), fun t ht => ?_⟩
        cases t with
        | zero => exact this
        | succ t =>
          obtain ⟨c, c1, c2⟩ := hs1.eq t (by (first | lia | omega))
          exact ⟨c, by rw [← c1]; congr 1; (first | lia | omega), by rw [← c2]; congr 1; (first | lia | omega)⟩
      have := hs2 _ _ _ ha
      (first | lia | omega)
  have hst2 : ∀ P : κ → Bool, i + (flmSt xs (jsK ys) alo ahi blo bhi).bs < ahi → j + (flmSt xs (jsK ys) alo ahi blo bhi).bs < bhi → same P xs[i + (flmSt xs (jsK ys) alo ahi blo bhi).bs]? ys[j + (flmSt xs (jsK ys) alo ahi blo bhi).bs]? = false := fun P h5 h6 => by
    cases q : same P xs[i + (flmSt xs (jsK ys) alo ahi blo bhi).bs]? ys[j + (flmSt xs (jsK ys) alo ahi blo bhi).bs]? with
    | false => rfl
    | true =>
      exfalso
      have : ∃ c, xs[i + (flmSt xs (jsK ys) alo ahi blo bhi).bs]? = some c ∧ ys[j + (flmSt xs (jsK ys) alo ahi blo bhi).bs]? = some c := by
        unfold same at q
        split at q
        · rename_i a b qa qb
          simp at q
          exact ⟨a, qa, by rw [qb, q.2]⟩
        · cases q
      have ha : Agr xs ys alo ahi blo bhi i j ((flmSt xs (jsK ys) alo ahi blo bhi).bs + 1) := by
        refine ⟨by (first | lia | omega), by (first | lia | omega), by (first | lia | omega), by (first | lia | omega), fun t ht => ?_⟩
        by_cases e : t = (flmSt xs (jsK ys) alo ahi blo bhi).bs
        · subst e; exact this
        · exact hs1.eq t (by (first | lia | omega))
      have := hs2 _ _ _ ha
      (first | lia | omega)
  have hr : flmR (fun _ => false) xs ys (jsK ys) alo ahi blo bhi = (i, j, (flmSt xs (jsK ys) alo ahi blo bhi).bs) := by
    unfold flmR flmX
    rw [e1, e2, Int.toNat_natCast, Int.toNat_natCast]
    dsimp only
    rw [back_stop (hst1 _)]
    dsimp only
    rw [fwd_stop (hst2 _)]
    rw [back_stop (fun _ _ => same_none _ _)]
    dsimp only
    rw [fwd_stop (fun _ _ => same_none _ _)]
  rw [hr]
  exact ⟨hs1, hs2, hs3, hs0⟩
end
end
section
theorem flm_behind {κ : Type} [DecidableEq κ] {xs : List κ} {e : κ} {r : Nat} {z : Nat × Nat × Nat} (hr : r < xs.length) (he : e ∉ xs) (hp : ∀ t, t + r < xs.length → xs[t]? = xs[t + r]?)
    (h : FlmSpec xs (List.replicate xs.length e ++ xs) r xs.length 0 (xs.length + xs.length) z) : z = (r, xs.length, xs.length - r) := by
  obtain ⟨i, j, k⟩ := z
  have s1 : Agr xs (List.replicate xs.length e ++ xs) r xs.length 0 (xs.length + xs.length) i j k := h.s1
  have s2 : ∀ i' j' k', Agr xs (List.replicate xs.length e ++ xs) r xs.length 0 (xs.length + xs.length) i' j' k' → k' ≤ k := h.s2
  have s3 : ∀ i' j', 0 < k → Agr xs (List.replicate xs.length e ++ xs) r xs.length 0 (xs.length + xs.length) i' j' k → i < i' ∨ (i = i' ∧ j ≤ j') := h.s3
  have right : ∀ t, (List.replicate xs.length e ++ xs)[xs.length + t]? = xs[t]? := fun t => by
    rw [List.getElem?_append_right (by rw [List.length_replicate]; (first | lia | omega)), List.length_replicate, Nat.add_sub_cancel_left]
  have best : Agr xs (List.replicate xs.length e ++ xs) r xs.length 0 (xs.length + xs.length) r xs.length (xs.length - r) :=
    ⟨Nat.le_refl _, by (first | lia | omega), Nat.zero_le _, by (first | lia | omega), fun t ht => by
      have h1 := hp t (by (first | lia | omega))
      have h2 : xs[t]? = some xs[t] := List.getElem?_eq_getElem (by (first | lia | omega))
      exact ⟨xs[t], by rw [Nat.add_comm r t, ← h1, h2], by rw [right, h2]⟩⟩
  have hk1 := s2 _ _ _ best
  have hk2 := s1.i0
  have hk3 := s1.i1
  have hk : k = xs.length - r := by (first | lia | omega)
  subst hk
  have hi : i = r := by (first | lia | omega)
  subst hi
  have hj1 : j ≤ xs.length := by
    rcases s3 _ _ (by (first | lia | omega)) best with q | q
    · (first | lia | omega)
    · exact q.2
  have hj2 : xs.length ≤ j := by
    refine Nat.le_of_not_lt fun q => ?_
    obtain ⟨c, h1, h2⟩ := s1.eq 0 (by (first | lia | omega))
    rw [Nat.add_zero, List.getElem?_append_left (by rw [List.length_replicate]; exact q), List.getElem?_replicate, if_pos q] at h2
    cases h2
    exact he (List.mem_of_getElem? h1)
  rw [Nat.le_antisymm hj1 hj2]
end
section
noncomputable abbrev smSt (i : Nat) : Stmt := stAt (clsBody (stAt T iSM)) i
theorem setI {C : Cc} (h : C.K = K C.w.params) {name : PySem.Str} (ht : ∀ P, takerIn (K P) aSM name = some none) : SetI C aSM name := by
  refine ⟨?_, ?_, ?_, ?_⟩
  · rw [h]; kernel_rfl
  · rw [h]; kernel_rfl
  · rw [h]; exact ht _
  · rw [h]; kernel_rfl
section
variable {w : World} {x dx : Addr} {fs f1 f2 f3 f4 : Fs} {v1 v2 : Value} {T_ : Prop}
theorem hand_raw {v : Value} (h : handedIn v = true) : Hand (.raw v) := fun g u r => by cases r; exact h
theorem hand_none : Hand .none := fun g u r => by cases r; rfl
theorem hand_bool {b : Bool} : Hand (.bool b) := fun g u r => by cases r; rfl
theorem hand_str {y : PySem.Str} : Hand (.str y) := fun g u r => by cases r; rfl
theorem fn_seq1 {dA : D} (hd : ∀ g v, Rep g v dA → IsDec pw_ w (K w.params) (fun _ => True) v v2 T_) (ha : (S "a", D.raw v2) ∈ fs) (hh1 : Hand dA) (hn : (fs.map (·.1)).Nodup) (hl : fs.length ≤ 90) :
    FnW pw_ w (K w.params) 1 (.ref aSeq1) [.sp (IsInst aSM x dx), dA] [(dx, OInst fs)] (fun z : { b : Bool // b = true → T_ } => [(dx, OInst (if z.1 = true then fs else fput (S "opcodes") .none (fput (S "matching_blocks") .none (fput (S "a") dA fs))))]) (fun _ => .none) := by
  intro A hA g s vs F r hw
  cases r using Reps.eCons with
  | @cons u1 _ r1 r =>
  cases r using Reps.eCons with
  | @cons u2 _ r2 r =>
  first | cases r using Reps.eNil | cases r using Rep.eInt | cases r using Rep.eRaw | cases r using Rep.eNone | cases r using Rep.eStr | cases r using Rep.eBool | cases r
  refine fn_entryW (fo := oSeq1 w.params) (name := S "set_seq1") (qual := S "SequenceMatcher.set_seq1") (params := fParams (smSt 3)) (body := fBody (smSt 3)) (sc := fScope (smSt 3)) (binds := [(S "self", u1), (S "a", u2)]) (vars := [(S "self", u1), (S "a", u2)]) (cl := fun L => []) (own := fun L => [])
    hA F hw (by kernel_rfl) (by rfl) (codeRec_of (F.cx.ext F.sub).X (by kernel_rfl)) (kp_binds (F.cx.ext F.sub).X fun S => by kernel_rfl) (by kernel_rfl) (by decide +kernel) (fun L => by kernel_rfl) (by kernel_rfl) (fun L => by kernel_rfl) (by kernel_rfl)
    (.cons r1 (.cons (.raw u2) .nil)) (fun L => .nil) (ow := fun L => [(dx, OInst fs)]) (fun L => rfl) fun L => ?_
  have hh := hA.handled
  have hn1 := fput_nodup (name := S "a") (d := .raw u2) hn
  have hl1 := fput_len (name := S "a") (d := .raw u2) (fs := fs)
  have hl2 := fput_len (name := S "matching_blocks") (d := .none) (fs := fput (S "a") (.raw u2) fs)
  have hn2 := fput_nodup (name := S "matching_blocks") (d := .none) hn1
  refine Ex.body ?_
  walk_at "s"
  refine x_doc (by kernel_rfl) (by kernel_rfl) ?_
  walk_at "s"
  refine' x_ifIs (L := fun _ => True) ?a1 (Ev.attrI (attr := Option.none) ?e1 (.inl ?e2) ha ?e4 ?e5 ?e6 ?e7 ?e8) (hd _ _ r2) (fun _ _ _ => trivial) (by kernel_rfl) (fun hT => ?k1) ?k2
  case a1 => walk_at "nm"
  case e1 => walk_at "nm"
  case e2 => walk_at "m"
  case e4 => kernel_rfl
  case e5 => kernel_rfl
  case e6 => kernel_rfl
  case e7 => kernel_rfl
  case e8 => kernel_rfl
  case k1 =>
    refine Ex.cons ?_
    exact x_ret0 (wo' := fun z : { b : Bool // b = true → T_ } => [(dx, OInst (if z.1 = true then fs else fput (S "opcodes") .none (fput (S "matching_blocks") .none (fput (S "a") dA fs))))]) (dd := fun _ => .none) ⟨true, fun _ => hT⟩ rfl (DW.same .nil) fun v s h => h
  case k2 =>
    refine Ex.nil (K.cont ?_)
    walk_at "s"
    refine' x_asg1W (EvW.of (d := .raw u2) ?b1) (fun _ => Asg.attr (setI rfl (fun P => by kernel_rfl)) ?b2 ?b3 ?b4 (fput_ok hn) (hand_raw (hh1 _ _ r2)) (Nat.ble_eq.mpr (by (first | lia | omega)))) (fun _ => ?_) (by kernel_rfl)
    case b1 => walk_at "nm"
    case b2 => walk_at "nm"
    case b3 => walk_at "m"
    case b4 => walk_at "pu"
    walk_at "s"
    refine' x_asg2W (EvW.of (d := .none) Ev.none) (fun _ => Asg.attr (setI rfl (fun P => by kernel_rfl)) ?c2 ?c3 ?c4 (fput_ok hn1) hand_none (Nat.ble_eq.mpr (by (first | lia | omega)))) (fun _ => Asg.attr (setI rfl (fun P => by kernel_rfl)) ?c5 ?c6 ?c7 (fput_ok hn2) hand_none (Nat.ble_eq.mpr (by (first | lia | omega)))) (fun _ => ?_) (by kernel_rfl) (by kernel_rfl)
    case c2 => walk_at "nm"
    case c3 => walk_at "m"
    case c4 => walk_at "pu"
    case c5 => walk_at "nm"
    case c6 => walk_at "m"
    case c7 => walk_at "pu"
    refine Ex.end_ (by kernel_rfl) ?_
    intro g4 s4 hs4
    have t : FTell g4 (fput (S "opcodes") .none (fput (S "matching_blocks") .none (fput (S "a") (.raw u2) fs))) (fput (S "opcodes") .none (fput (S "matching_blocks") .none (fput (S "a") dA fs))) :=
      FTell.fput (FTell.fput (FTell.fput FTell.rfl_ fun v q => by cases q; exact r2.ext hs4.gr.ext) fun v q => q) fun v q => q
    have hs9 := hs4.tellG (.head _) .here (fun o q => q.tell t) OInst.mono
    exact FinW.of (wo' := fun z : { b : Bool // b = true → T_ } => [(dx, OInst (if z.1 = true then fs else fput (S "opcodes") .none (fput (S "matching_blocks") .none (fput (S "a") dA fs))))]) (dd := fun _ => .none) ⟨false, fun q => by cases q⟩ hs9 .none
end
end
section
section
variable {C : Cc} {vars vars' : DVars} {own own' : DOwn} {Q : Flow → Shared → Prop} {e : Expr} {b : List Stmt}
theorem Tr.noneV (h : Ev C vars own e .none) (he : PySem.isTrue e C.env (eval e C.env) = (do let v ← eval e C.env; standAt e.pos; holding [v] (truthy v))) : Tr C vars own e false := fun g s hs => by
  rw [he]
  refine wpAny_bind (h.run hs fun v g₁ s₁ x₁ a₁ r₁ => ?_)
  first | cases r₁ using Reps.eNil | cases r₁ using Rep.eInt | cases r₁ using Rep.eRaw | cases r₁ using Rep.eNone | cases r₁ using Rep.eStr | cases r₁ using Rep.eBool | cases r₁
  exact wpAny_bind (wpAny_standAt (wpAny_holding (wpAny_pure ⟨g₁, x₁, rfl⟩)))
theorem nodup_inj {α β : Type} {f : α → β} : ∀ {l : List α}, (l.map f).Nodup → ∀ {a b : α}, a ∈ l → b ∈ l → f a = f b → a = b
  | [], _, _, _, ha, _, _ => by cases ha
  | x :: l, h, a, b, ha, hb, e => by
    obtain ⟨h1, h2⟩ := List.nodup_cons.mp (by simpa only [List.map_cons] using h)
    rcases List.mem_cons.mp ha with e1 | h3
    · rcases List.mem_cons.mp hb with e2 | h4
      · rw [e1, e2]
      · exact absurd (by rw [← e1, e]; exact List.mem_map_of_mem h4) h1
    · rcases List.mem_cons.mp hb with e2 | h4
      · exact absurd (by rw [← e2, ← e]; exact List.mem_map_of_mem h3) h1
      · exact nodup_inj h2 h3 h4 e
theorem Ex.permO (h : own.Perm own') (k : Ex C vars own' b Q) : Ex C vars own b Q := fun g s hs => k g s (hs.permO h)
end
section
variable {w : World} {κ : Type} [DecidableEq κ] {knd : PySem.KeyKind pw_ w κ} {ι : κ → D} {dB : D} {ks : List κ} {x dx : Addr} {fs : Fs}
noncomputable abbrev dNo (knd : PySem.KeyKind pw_ w κ) : D := .sp (IsSetK knd fun _ => false)
noncomputable abbrev dIdx (knd : PySem.KeyKind pw_ w κ) (ks : List κ) : D := .sp (IsIdx knd (jsK ks))
noncomputable abbrev fsChain (fs : Fs) (d1 d2 d3 : D) : Fs := fput (S "bpopular") d3 (fput (S "bjunk") d2 (fput (S "b2j") d1 fs))
end
end
section
theorem EvW.conv {C : Cc} {vars : DVars} {own : DOwn} {e : Expr} {σ : Type} {o₁ o₂ : σ → DOwn} {dd : σ → D} (h : EvW C vars own e o₁ dd) (q : ∀ z, o₁ z = o₂ z) : EvW C vars own e o₂ dd := by
  have : o₁ = o₂ := funext q
  subst this; exact h
theorem methI {C : Cc} (h : C.K = K C.w.params) {f : Addr} {name : PySem.Str} {o : Expr} {args : List Expr} {apos pos : Pos} (c1 : attributeBase o name C.env (eval o C.env) = eval o C.env)
    (c2 : ((((backTo pos (starEach args C.env)).all fun x => !x.fst) && (backToKw pos (keywordEach [] C.env)).all fun x => x.fst.isSome) && decide ((args.length + ([] : List Keyword).length + if ([] : List Keyword).isEmpty = true then 0 else 1) < 30)) = true) (c3 : (apos.endLine == pos.line) = true)
    (pg : ∀ P, plainGet (K P) aSM name = true) (hf : ∀ P, findIn (K P) (.ref aSM) name = some (some (.ref f))) (ht : ∀ P, isFn (K P) (.ref f) = true) (kp : ∀ P, keepIn (K P) (.ref f) = true) : MethI C aSM f name o args apos pos :=
  ⟨c1, c2, c3, by rw [h]; exact pg _, by rw [h]; exact hf _, by rw [h]; exact ht _, by rw [h]; exact kp _⟩
section
variable {w : World} {κ : Type} [DecidableEq κ] {knd : PySem.KeyKind pw_ w κ} {ι : κ → D} {dA dB : D} {ks : List κ} {x dx : Addr} {fs : Fs} {v2 : Value}
noncomputable abbrev fsSeq2 (fs : Fs) (dB : D) : Fs := fput (S "fullbcount") .none (fput (S "opcodes") .none (fput (S "matching_blocks") .none (fput (S "b") dB fs)))
noncomputable def ChainTo (w : World) (x dx : Addr) (fs fs' : Fs) : Prop := FnW pw_ w (K w.params) 1 (.ref aChain) [.sp (IsInst aSM x dx)] [(dx, OInst fs)] (fun _ : Unit => [(dx, OInst fs')]) (fun _ => .none)
theorem fn_seq2 {fs' : Fs} (hd : ∀ g v, Rep g v dB → IsDec pw_ w (K w.params) (fun _ => True) v v2 False) (hb : (S "b", D.raw v2) ∈ fs) (hh1 : Hand dB) (hn : (fs.map (·.1)).Nodup) (hl : fs.length ≤ 80) (hc : ChainTo w x dx (fsSeq2 fs dB) fs') (hcn : ((fsSeq2 fs dB).map (·.1)).contains (S "_SequenceMatcher__chain_b") = false) :
    FnW pw_ w (K w.params) 2 (.ref aSeq2) [.sp (IsInst aSM x dx), dB] [(dx, OInst fs)] (fun _ : Unit => [(dx, OInst fs')]) (fun _ => .none) := by
  intro A hA g s vs F r hw
  cases r using Reps.eCons with
  | @cons u1 _ r1 r =>
  cases r using Reps.eCons with
  | @cons u2 _ r2 r =>
  first | cases r using Reps.eNil | cases r using Rep.eInt | cases r using Rep.eRaw | cases r using Rep.eNone | cases r using Rep.eStr | cases r using Rep.eBool | cases r
  refine fn_entryW (fo := oSeq2 w.params) (name := S "set_seq2") (qual := S "SequenceMatcher.set_seq2") (params := fParams (smSt 4)) (body := fBody (smSt 4)) (sc := fScope (smSt 4)) (binds := [(S "self", u1), (S "b", u2)]) (vars := [(S "self", u1), (S "b", u2)]) (cl := fun L => []) (own := fun L => [])
    hA F hw (by kernel_rfl) (by rfl) (codeRec_of (F.cx.ext F.sub).X (by kernel_rfl)) (kp_binds (F.cx.ext F.sub).X fun S => by kernel_rfl) (by kernel_rfl) (by decide +kernel) (fun L => by kernel_rfl) (by kernel_rfl) (fun L => by kernel_rfl) (by kernel_rfl)
    (.cons r1 (.cons (.raw u2) .nil)) (fun L => .nil) (ow := fun L => [(dx, OInst fs)]) (fun L => rfl) fun L => ?_
  have hh := hA.handled
  have hR : RmN 1 (fCw pw_ w (K w.params) A s g (S "SequenceMatcher.set_seq2") (fScope (smSt 4)) L aSeq2 (.ref (aSeq2 - 1)) [] [(dx, OInst fs)]).A := hA.deeper _
  have hn1 := fput_nodup (name := S "b") (d := .raw u2) hn
  have hn2 := fput_nodup (name := S "matching_blocks") (d := .none) hn1
  have hn3 := fput_nodup (name := S "opcodes") (d := .none) hn2
  have hl1 := fput_len (name := S "b") (d := .raw u2) (fs := fs)
  have hl2 := fput_len (name := S "matching_blocks") (d := .none) (fs := fput (S "b") (.raw u2) fs)
  have hl3 := fput_len (name := S "opcodes") (d := .none) (fs := fput (S "matching_blocks") .none (fput (S "b") (.raw u2) fs))
  refine Ex.body ?_
  walk_at "s"
  refine x_doc (by kernel_rfl) (by kernel_rfl) ?_
  walk_at "s"
  refine' x_ifIs (L := fun _ => True) ?a1 (Ev.attrI (attr := Option.none) ?e1 (.inl ?e2) hb ?e4 ?e5 ?e6 ?e7 ?e8) (hd _ _ r2) (fun _ _ _ => trivial) (by kernel_rfl) (fun hT => hT.elim) ?k2
  case a1 => walk_at "nm"
  case e1 => walk_at "nm"
  case e2 => walk_at "m"
  case e4 => kernel_rfl
  case e5 => kernel_rfl
  case e6 => kernel_rfl
  case e7 => kernel_rfl
  case e8 => kernel_rfl
  case k2 =>
    refine Ex.nil (K.cont ?_)
    walk_at "s"
    refine' x_asg1W (EvW.of (d := .raw u2) ?b1) (fun _ => Asg.attr (setI rfl (fun P => by kernel_rfl)) ?b2 ?b3 ?b4 (fput_ok hn) (hand_raw (hh1 _ _ r2)) (Nat.ble_eq.mpr (by (first | lia | omega)))) (fun _ => ?_) (by kernel_rfl)
    case b1 => walk_at "nm"
    case b2 => walk_at "nm"
    case b3 => walk_at "m"
    case b4 => walk_at "pu"
    walk_at "s"
    refine' x_asg2W (EvW.of (d := .none) Ev.none) (fun _ => Asg.attr (setI rfl (fun P => by kernel_rfl)) ?c2 ?c3 ?c4 (fput_ok hn1) hand_none (Nat.ble_eq.mpr (by (first | lia | omega)))) (fun _ => Asg.attr (setI rfl (fun P => by kernel_rfl)) ?c5 ?c6 ?c7 (fput_ok hn2) hand_none (Nat.ble_eq.mpr (by (first | lia | omega)))) (fun _ => ?_) (by kernel_rfl) (by kernel_rfl)
    case c2 => walk_at "nm"
    case c3 => walk_at "m"
    case c4 => walk_at "pu"
    case c5 => walk_at "nm"
    case c6 => walk_at "m"
    case c7 => walk_at "pu"
    walk_at "s"
    refine' x_asg1W (EvW.of (d := .none) Ev.none) (fun _ => Asg.attr (setI rfl (fun P => by kernel_rfl)) ?d2 ?d3 ?d4 (fput_ok hn3) hand_none (Nat.ble_eq.mpr (by (first | lia | omega)))) (fun _ => ?_) (by kernel_rfl)
    case d2 => walk_at "nm"
    case d3 => walk_at "m"
    case d4 => walk_at "pu"
    have hT : Ex (fCw pw_ w (K w.params) A s g (S "SequenceMatcher.set_seq2") (fScope (smSt 4)) L aSeq2 (.ref (aSeq2 - 1)) [] [(dx, OInst fs)]) [(S "self", .sp (IsInst aSM x dx))] [(dx, OInst (fsSeq2 fs dB))] ((fBody (smSt 4)).drop 5) (FinW (fCw pw_ w (K w.params) A s g (S "SequenceMatcher.set_seq2") (fScope (smSt 4)) L aSeq2 (.ref (aSeq2 - 1)) [] [(dx, OInst fs)]) (fun _ : Unit => [(dx, OInst fs')]) (fun _ => .none)) := by
      walk_at "s"
      refine' x_exprW (EvW.conv (o₂ := fun _ : Unit => [(dx, OInst fs')]) (EvW.methI0 (fs := fsSeq2 fs dB) (f := aChain) (methI rfl (by kernel_rfl) (by kernel_rfl) (by kernel_rfl) (fun P => by kernel_rfl) (fun P => by kernel_rfl) (fun P => by kernel_rfl) (fun P => by kernel_rfl)) ?m1 ?m2 hcn hc hR (Nat.le_refl _) (.cons .here .nil)) (fun _ => rfl)) (fun _ => ?_) (by kernel_rfl) (by kernel_rfl)
      case m1 => walk_at "nm"
      case m2 => walk_at "m"
      exact Ex.end_ (by kernel_rfl) (K.finW (wo' := fun _ : Unit => [(dx, OInst fs')]) (dd := fun _ => .none) () rfl (DW.same .nil))
    intro g4 s4 hs4
    have t : FTell g4 (fsSeq2 fs (.raw u2)) (fsSeq2 fs dB) :=
      FTell.fput (FTell.fput (FTell.fput (FTell.fput FTell.rfl_ fun v q => by cases q; exact r2.ext hs4.gr.ext) fun v q => q) fun v q => q) fun v q => q
    refine hT g4 s4 ((hs4.tellG (.head _) .here (fun o q => q.tell t) OInst.mono).forget ?_)
    walk_at "vs"
end
end
section
theorem EvW.map {C : Cc} {vars : DVars} {own : DOwn} {e : Expr} {σ τ : Type} {o₁ : σ → DOwn} {o₂ : τ → DOwn} {d₁ : σ → D} {d₂ : τ → D} (h : EvW C vars own e o₁ d₁) (f : σ → τ) (ho : ∀ z, o₁ z = o₂ (f z)) (hd : ∀ z, d₁ z = d₂ (f z)) : EvW C vars own e o₂ d₂ := fun g s hs =>
  wmono (h g s hs) fun v s' ⟨z, g', x, a, r⟩ => ⟨f z, g', x, ho z ▸ a, hd z ▸ r⟩
theorem Ev.noneR {C : Cc} {vars : DVars} {own : DOwn} {kk : Nat} {pos : Pos} : Ev C vars own (.Constant .none kk pos) (.raw .none) := fun g s hs => wpAny_Constant_none ⟨g, Gr.refl hs.sub, .raw _⟩
section
variable {w : World} {dj dA dB : D} {x dx : Addr} {aj : Bool}
noncomputable abbrev fs0 (dj : D) (aj : Bool) : Fs := [(S "isjunk", dj), (S "a", .raw .none), (S "b", .raw .none), (S "autojunk", .bool aj)]
noncomputable abbrev fs1 (dj dA : D) (aj : Bool) : Fs := [(S "isjunk", dj), (S "a", dA), (S "b", .raw .none), (S "autojunk", .bool aj), (S "matching_blocks", .none), (S "opcodes", .none)]
noncomputable abbrev fs2 (dj dA dB : D) (aj : Bool) : Fs := [(S "isjunk", dj), (S "a", dA), (S "b", dB), (S "autojunk", .bool aj), (S "matching_blocks", .none), (S "opcodes", .none), (S "fullbcount", .none)]
theorem fs1_eq : fput (S "opcodes") .none (fput (S "matching_blocks") .none (fput (S "a") dA (fs0 dj aj))) = fs1 dj dA aj := by kernel_rfl
theorem fs2_eq : fsSeq2 (fs1 dj dA aj) dB = fs2 dj dA dB aj := by kernel_rfl
theorem fs0_nodup : ((fs0 dj aj).map (·.1)).Nodup := by
  show ([S "isjunk", S "a", S "b", S "autojunk"] : List PySem.Str).Nodup
  decide +kernel
theorem fs1_nodup : ((fs1 dj dA aj).map (·.1)).Nodup := by
  show ([S "isjunk", S "a", S "b", S "autojunk", S "matching_blocks", S "opcodes"] : List PySem.Str).Nodup
  decide +kernel
noncomputable abbrev Some_ (d : D) : Prop := ∀ g v, Rep g v d → v ≠ .none
theorem Some_.str {y : PySem.Str} : Some_ (.str y) := fun g v r => by cases r; simp
theorem fn_seqs {fs' : Fs} (sA : Some_ dA) (sB : Some_ dB) (hA_ : Hand dA) (hB_ : Hand dB) (hc : ChainTo w x dx (fs2 dj dA dB aj) fs') :
    FnW pw_ w (K w.params) 3 (.ref aSeqs) [.sp (IsInst aSM x dx), dA, dB] [(dx, OInst (fs0 dj aj))] (fun _ : Unit => [(dx, OInst fs')]) (fun _ => .none) := by
  intro A hA g s vs F r hw
  cases r using Reps.eCons with
  | @cons u1 _ r1 r =>
  cases r using Reps.eCons with
  | @cons u2 _ r2 r =>
  cases r using Reps.eCons with
  | @cons u3 _ r3 r =>
  first | cases r using Reps.eNil | cases r using Rep.eInt | cases r using Rep.eRaw | cases r using Rep.eNone | cases r using Rep.eStr | cases r using Rep.eBool | cases r
  refine fn_entryW (fo := oSeqs w.params) (name := S "set_seqs") (qual := S "SequenceMatcher.set_seqs") (params := fParams (smSt 2)) (body := fBody (smSt 2)) (sc := fScope (smSt 2)) (binds := [(S "self", u1), (S "a", u2), (S "b", u3)]) (vars := [(S "self", u1), (S "a", u2), (S "b", u3)]) (cl := fun L => []) (own := fun L => [])
    hA F hw (by kernel_rfl) (by rfl) (codeRec_of (F.cx.ext F.sub).X (by kernel_rfl)) (kp_binds (F.cx.ext F.sub).X fun S => by kernel_rfl) (by kernel_rfl) (by decide +kernel) (fun L => by kernel_rfl) (by kernel_rfl) (fun L => by kernel_rfl) (by kernel_rfl)
    (.cons r1 (.cons r2 (.cons r3 .nil))) (fun L => .nil) (ow := fun L => [(dx, OInst (fs0 dj aj))]) (fun L => rfl) fun L => ?_
  have hR : RmN 2 (fCw pw_ w (K w.params) A s g (S "SequenceMatcher.set_seqs") (fScope (smSt 2)) L aSeqs (.ref (aSeqs - 1)) [] [(dx, OInst (fs0 dj aj))]).A := hA.deeper _
  have h1 := fn_seq1 (w := w) (x := x) (dx := dx) (fs := fs0 dj aj) (dA := dA) (v2 := .none) (T_ := False) (fun g v r => IsDec.nothing (sA g v r)) (.tail _ (.head _)) hA_ fs0_nodup (by simp)
  have h2 := fn_seq2 (w := w) (x := x) (dx := dx) (fs := fs1 dj dA aj) (dB := dB) (v2 := .none) (fs' := fs') (fun g v r => IsDec.nothing (sB g v r)) (.tail _ (.tail _ (.head _))) hB_ fs1_nodup (by simp) (by rw [fs2_eq]; exact hc) (by kernel_rfl)
  rw [fs1_eq] at h1
  refine Ex.body ?_
  walk_at "s"
  refine x_doc (by kernel_rfl) (by kernel_rfl) ?_
  walk_at "s"
  refine' x_exprW (EvW.map (τ := Unit) (o₂ := fun _ => [(dx, OInst (fs1 dj dA aj))]) (EvW.methI (fs := fs0 dj aj) (f := aSeq1) (methI rfl (by kernel_rfl) (by kernel_rfl) (by kernel_rfl) (fun P => by kernel_rfl) (fun P => by kernel_rfl) (fun P => by kernel_rfl) (fun P => by kernel_rfl)) ?m1 ?m2 (by kernel_rfl) ?m3 h1 hR (by (first | lia | omega)) (.cons .here .nil) (by kernel_rfl) (by kernel_rfl)) (fun _ => ()) (fun z => ?m4) (fun _ => rfl)) (fun _ => ?_) (by kernel_rfl) (by kernel_rfl)
  case m1 => walk_at "nm"
  case m2 => walk_at "m"
  case m3 => walk_at "args"
  case m4 =>
    obtain ⟨b, hb⟩ := z
    cases b with
    | true => exact (hb rfl).elim
    | false => rfl
  walk_at "s"
  refine' x_exprW (EvW.conv (o₂ := fun _ : Unit => [(dx, OInst fs')]) (EvW.methI (fs := fs1 dj dA aj) (f := aSeq2) (methI rfl (by kernel_rfl) (by kernel_rfl) (by kernel_rfl) (fun P => by kernel_rfl) (fun P => by kernel_rfl) (fun P => by kernel_rfl) (fun P => by kernel_rfl)) ?k1 ?k2 (by kernel_rfl) ?k3 h2 hR (Nat.le_refl _) (.cons .here .nil) (by kernel_rfl) (by kernel_rfl)) (fun _ => rfl)) (fun _ => ?_) (by kernel_rfl) (by kernel_rfl)
  case k1 => walk_at "nm"
  case k2 => walk_at "m"
  case k3 => walk_at "args"
  exact Ex.end_ (by kernel_rfl) (K.finW (wo' := fun _ : Unit => [(dx, OInst fs')]) (dd := fun _ => .none) () rfl (DW.same .nil))
theorem init_walk {A : Around} {g : Heap} {s : Shared} {L : Addr} {fs' : Fs} (hA : RmN 4 A) (sA : Some_ dA) (sB : Some_ dB) (hj : Hand dj) (hA_ : Hand dA) (hB_ : Hand dB) (hc : ChainTo w x dx (fs2 dj dA dB aj) fs') :
    Ex (fCw pw_ w (K w.params) A s g (S "SequenceMatcher.__init__") (fScope (smSt 1)) L aInit (.ref (aInit - 1)) [] [(dx, OInst [])]) [(S "self", .sp (IsInst aSM x dx)), (S "isjunk", dj), (S "a", dA), (S "b", dB), (S "autojunk", .bool aj)] [(dx, OInst [])] (fBody (smSt 1)) (FinW (fCw pw_ w (K w.params) A s g (S "SequenceMatcher.__init__") (fScope (smSt 1)) L aInit (.ref (aInit - 1)) [] [(dx, OInst [])]) (fun _ : Unit => [(dx, OInst fs')]) (fun _ => .none)) := by
  have hh := hA.handled
  have hR : RmN 3 (fCw pw_ w (K w.params) A s g (S "SequenceMatcher.__init__") (fScope (smSt 1)) L aInit (.ref (aInit - 1)) [] [(dx, OInst [])]).A := hA.deeper _
  refine Ex.body ?_
  walk_at "s"
  refine x_doc (by kernel_rfl) (by kernel_rfl) ?_
  walk_at "s"
  refine' x_asg1W (EvW.of (d := dj) ?b1) (fun _ => Asg.attr (setI rfl (fun P => by kernel_rfl)) ?b2 ?b3 ?b4 .nil hj (by kernel_rfl)) (fun _ => ?_) (by kernel_rfl)
  case b1 => walk_at "nm"
  case b2 => walk_at "nm"
  case b3 => walk_at "m"
  case b4 => walk_at "pu"
  walk_at "s"
  refine' x_asg2W (EvW.of (d := .raw .none) Ev.noneR) (fun _ => Asg.attr (setI rfl (fun P => by kernel_rfl)) ?c2 ?c3 ?c4 (.there (by kernel_rfl) .nil) (hand_raw rfl) (by kernel_rfl)) (fun _ => Asg.attr (setI rfl (fun P => by kernel_rfl)) ?c5 ?c6 ?c7 (.there (by kernel_rfl) (.there (by kernel_rfl) .nil)) (hand_raw rfl) (by kernel_rfl)) (fun _ => ?_) (by kernel_rfl) (by kernel_rfl)
  case c2 => walk_at "nm"
  case c3 => walk_at "m"
  case c4 => walk_at "pu"
  case c5 => walk_at "nm"
  case c6 => walk_at "m"
  case c7 => walk_at "pu"
  walk_at "s"
  refine' x_asg1W (EvW.of (d := .bool aj) ?d1) (fun _ => Asg.attr (setI rfl (fun P => by kernel_rfl)) ?d2 ?d3 ?d4 (.there (by kernel_rfl) (.there (by kernel_rfl) (.there (by kernel_rfl) .nil))) hand_bool (by kernel_rfl)) (fun _ => ?_) (by kernel_rfl)
  case d1 => walk_at "nm"
  case d2 => walk_at "nm"
  case d3 => walk_at "m"
  case d4 => walk_at "pu"
  walk_at "s"
  refine' x_exprW (EvW.conv (o₂ := fun _ : Unit => [(dx, OInst fs')]) (EvW.methI (fs := fs0 dj aj) (f := aSeqs) (methI rfl (by kernel_rfl) (by kernel_rfl) (by kernel_rfl) (fun P => by kernel_rfl) (fun P => by kernel_rfl) (fun P => by kernel_rfl) (fun P => by kernel_rfl)) ?k1 ?k2 (by kernel_rfl) ?k3 (fn_seqs sA sB hA_ hB_ hc) hR (Nat.le_refl _) (.cons .here .nil) (by kernel_rfl) (by kernel_rfl)) (fun _ => rfl)) (fun _ => ?_) (by kernel_rfl) (by kernel_rfl)
  case k1 => walk_at "nm"
  case k2 => walk_at "m"
  case k3 => walk_at "args"
  exact Ex.end_ (by kernel_rfl) (K.finW (wo' := fun _ : Unit => [(dx, OInst fs')]) (dd := fun _ => .none) () rfl (DW.same .nil))
theorem fn_make3 {fs' : Fs} (sA : Some_ dA) (sB : Some_ dB) (hj : Hand dj) (hA_ : Hand dA) (hB_ : Hand dB) (hc : ∀ x dx, ChainTo w x dx (fs2 dj dA dB true) fs') :
    FnW pw_ w (K w.params) 5 (.ref aSM) [dj, dA, dB] [] (fun z : Addr × Addr => [(z.2, OInst fs')]) (fun z => .sp (IsInst aSM z.1 z.2)) := by
  refine fnW_make (fI := aInit) (by kernel_rfl) (by kernel_rfl) (by kernel_rfl) fun x dx => ?_
  intro A hA g s vs F r hw
  cases r using Reps.eCons with
  | @cons u1 _ r1 r =>
  cases r using Reps.eCons with
  | @cons u2 _ r2 r =>
  cases r using Reps.eCons with
  | @cons u3 _ r3 r =>
  cases r using Reps.eCons with
  | @cons u4 _ r4 r =>
  first | cases r using Reps.eNil | cases r using Rep.eInt | cases r using Rep.eRaw | cases r using Rep.eNone | cases r using Rep.eStr | cases r using Rep.eBool | cases r
  exact fn_entryW (fo := oInit w.params) (name := S "__init__") (qual := S "SequenceMatcher.__init__") (params := fParams (smSt 1)) (body := fBody (smSt 1)) (sc := fScope (smSt 1)) (binds := [(S "self", u1), (S "isjunk", u2), (S "a", u3), (S "b", u4), (S "autojunk", .bool true)]) (vars := [(S "self", u1), (S "isjunk", u2), (S "a", u3), (S "b", u4), (S "autojunk", .bool true)]) (cl := fun L => []) (own := fun L => [])
    hA F hw (by kernel_rfl) (by rfl) (codeRec_of (F.cx.ext F.sub).X (by kernel_rfl)) (kp_binds (F.cx.ext F.sub).X fun S => by kernel_rfl) (by kernel_rfl) (by decide +kernel) (fun L => by kernel_rfl) (by kernel_rfl) (fun L => by kernel_rfl) (by kernel_rfl)
    (.cons r1 (.cons r2 (.cons r3 (.cons r4 (.cons (.bool _) .nil))))) (fun L => .nil) (ow := fun L => [(dx, OInst [])]) (fun L => rfl) fun L => init_walk hA sA sB hj hA_ hB_ (hc x dx)
end
end
section
section
variable {w : World}
end
end
section
noncomputable abbrev kT (cs : List Nat) : List PySem.Str := cs.map fun c => Ls [c]
theorem matK {w : World} : MatK (K w.params) aMatch := ⟨by kernel_rfl, by kernel_rfl, by kernel_rfl⟩
theorem flmR_junk {S_ : PySem.Str → Bool} {W : List Nat} {i j : Nat} (hS : ∀ k ∈ kT W, S_ k = true) :
    flmR S_ (kT W) (kT W) (fun _ => []) i W.length j W.length = (i, j, lcpN (fun p => W.getD p 0) W.length i j) := by
  have e0 : jxOf (kT W) (fun _ => ([] : List Int)) = fun _ => [] := by
    funext x
    unfold jxOf
    split <;> rfl
  obtain ⟨e1, e2, e3⟩ := allSt_junk i j W.length (W.length - i)
  unfold flmR flmSt
  rw [e0, e1, e2, e3, Int.toNat_natCast, Int.toNat_natCast]
  have hl : (kT W).length = W.length := List.length_map _
  have h := flmX_junk (S := S_) (ks := kT W) (g := fun p => W.getD p 0) (f := fun c => Ls [c]) (i := i) (j := j) hS (fun p hp => by
    rw [hl] at hp
    rw [List.getElem?_map, List.getD_eq_getElem?_getD, List.getElem?_eq_getElem hp]; rfl) (fun a b h => by
    have := congrArg (fun s : PySem.Str => s.cps.toList) h
    have h2 : [a] = [b] := this
    cases h2; rfl)
  rw [hl] at h
  exact h
noncomputable abbrev ltSt : Stmt := stAt T 11
theorem fn_later {w : World} {x dx : Addr} {fs : Fs} {W : List Nat} {S_ : PySem.Str → Bool} {one two : Nat} {t : Bool} (hf : FmFs (strKind pw_ w) fs (.str (Ls W)) (.str (Ls W)) (fun _ => []) S_) (hfn : (fs.map (·.1)).contains (S "find_longest_match") = false) (hS : ∀ k ∈ kT W, S_ k = true) (hW : W.length ≤ 100) (h1 : one < two) (h2 : two < W.length) :
    FnR pw_ w (K w.params) 4 (.ref 267) [.sp (IsInst aSM x dx), .str (Ls W), .bool t, .int one, .int two] [(dx, OInst fs)] (.int (laterN (fun p => W.getD p 0) W.length t one two)) := by
  intro A hA g s vs F r hro
  cases r using Reps.eCons with
  | @cons v1 _ r1 r =>
  cases r using Reps.eCons with
  | @cons v2 _ r2 r =>
  cases r using Reps.eCons with
  | @cons v3 _ r3 r =>
  cases r using Reps.eCons with
  | @cons v4 _ r4 r =>
  cases r using Reps.eCons with
  | @cons v5 _ r5 r =>
  cases r using Reps.eNil
  refine fn_entryR (fo := o_267 w.params) (name := S "_law_later") (qual := S "_law_later") (params := fParams ltSt) (body := fBody ltSt) (sc := fScope ltSt) (binds := [(S "matcher", v1), (S "text", v2), (S "turned", v3), (S "one", v4), (S "two", v5)]) (vars := [(S "matcher", v1), (S "text", v2), (S "turned", v3), (S "one", v4), (S "two", v5)]) (cl := fun L => []) (own := fun L => []) [(dx, OInst fs)]
    hA F (by kernel_rfl) (by rfl) (codeRec_of (F.cx.ext F.sub).X (by kernel_rfl)) (kp_binds (F.cx.ext F.sub).X fun S => by kernel_rfl) (by kernel_rfl) (by decide +kernel) (fun L => by kernel_rfl) (by kernel_rfl) (fun L => by kernel_rfl) (by kernel_rfl)
    (.cons r1 (.cons r2 (.cons r3 (.cons r4 (.cons r5 .nil))))) (fun L => .nil) hro fun L => ?_
  have hh := hA.handled
  have hR : RmN 3 (fCr pw_ w (K w.params) A s g (S "_law_later") (fScope ltSt) L 267 (.ref 266) [] [(dx, OInst fs)]).A := hA.deeper _
  have hl : (kT W).length = W.length := List.length_map _
  have hflm : FnR pw_ w (K w.params) 3 (.ref aFlm) [.sp (IsInst aSM x dx), .int one, .none, .int two, .none] [(dx, OInst fs)] (.sp (IsMat aMatch one two (lcpN (fun p => W.getD p 0) W.length one two))) := by
    intro A' hA' g' s' vs' F' r' hro'
    have := flm_call5 (w := w) (knd := strKind pw_ w) (ι := D.str) (dA := .str (Ls W)) (dB := .str (Ls W)) (xs := kT W) (ys := kT W) (js := fun _ => []) (S_ := S_) (fs := fs) (alo := one) (blo := two) (ahi := none) (bhi := none) hA' F' (seqT (by (first | lia | omega))) (seqT (by (first | lia | omega))) hf (by (first | lia | omega)) (by (first | lia | omega)) (by simp; (first | lia | omega)) (by simp) (by (first | lia | omega)) (by simp) ⟨fun c => Nat.zero_le _, fun c => List.Pairwise.nil⟩ hro' r'
    simp only [Option.getD_none, hl] at this
    rw [flmR_junk hS] at this
    exact this
  obtain ⟨sp1, _⟩ := lcpG_spec (fun p => W.getD p 0) W.length W.length one two
  have hle : two + lcpN (fun p => W.getD p 0) W.length one two ≤ W.length := by
    rcases Nat.lt_or_ge 0 (lcpN (fun p => W.getD p 0) W.length one two) with q | q
    · have := (sp1 (lcpN (fun p => W.getD p 0) W.length one two - 1) (by unfold lcpN at *; (first | lia | omega))).2.1; (first | lia | omega)
    · (first | lia | omega)
  clear sp1
  unfold laterN
  refine Ex.body ?_
  walk_at "s"
  refine' x_asgN (d := .int (lcpN (fun p => W.getD p 0) W.length one two)) (Ev.matItem (n := 2) matK (Ev.methI (fs := fs) (f := aFlm) (methI rfl (by kernel_rfl) (by kernel_rfl) (by kernel_rfl) (fun P => by kernel_rfl) (fun P => by kernel_rfl) (fun P => by kernel_rfl) (fun P => by kernel_rfl)) ?m1 (.inr ?m2) hfn ?m3 hflm hR (by (first | lia | omega)) (by kernel_rfl) (by kernel_rfl)) Ev.int rfl (by intro _ _; kernel_rfl)) ?m4 ?_ (by kernel_rfl)
  case m1 => walk_at "nm"
  case m2 => exact .head _
  case m3 =>
    refine' EvArgs.cons ?a1 (EvArgs.cons Ev.none (EvArgs.cons ?a2 (EvArgs.cons Ev.none EvArgs.nil (by kernel_rfl)) (by kernel_rfl)) (by kernel_rfl)) (by kernel_rfl)
    case a1 => walk_at "nm"
    case a2 => walk_at "nm"
  case m4 => walk_at "sto"
  generalize lcpN (fun p => W.getD p 0) W.length one two = L_ at hle ⊢
  have hWl : W.length ≤ 1000000 := by (first | lia | omega)
  walk_at "s"
  by_cases q1 : two + L_ = W.length
  · rw [if_pos q1]
    refine' x_if (b := true) (Tr.eq (Tr.cmp (Ev.bin ?n1 ?n2 Bin.add) ?n3 Cmp.eq (by kernel_rfl)) ?n4) (fun _ => Ex.cons ?n5) (fun h => by cases h)
    case n1 => walk_at "nm"
    case n2 => walk_at "nm"
    case n3 => walk_at "ev"
    case n4 => exact decide_eq_true (by (first | lia | omega))
    case n5 =>
      refine' x_ret ?n6 (Ret.cont Ret.fin)
      case n6 => walk_at "nm"
  · rw [if_neg q1]
    refine' x_if (b := false) (Tr.eq (Tr.cmp (Ev.bin ?n1 ?n2 Bin.add) ?n3 Cmp.eq (by kernel_rfl)) ?n4) (fun h => by cases h) (fun _ => Ex.nil (K.cont ?_))
    case n1 => walk_at "nm"
    case n2 => walk_at "nm"
    case n3 => walk_at "ev"
    case n4 => exact decide_eq_false (by (first | lia | omega))
    have c1 : W[((one : Int) + (L_ : Int)).toNat]? = some (W.getD (one + L_) 0) := by
      rw [show ((one : Int) + (L_ : Int)).toNat = one + L_ by (first | lia | omega), List.getD_eq_getElem?_getD, List.getElem?_eq_getElem (show one + L_ < W.length by (first | lia | omega))]; rfl
    have c2 : W[((two : Int) + (L_ : Int)).toNat]? = some (W.getD (two + L_) 0) := by
      rw [show ((two : Int) + (L_ : Int)).toNat = two + L_ by (first | lia | omega), List.getD_eq_getElem?_getD, List.getElem?_eq_getElem (show two + L_ < W.length by (first | lia | omega))]; rfl
    walk_at "s"
    refine' x_if (b := (decide (W.getD (one + L_) 0 < W.getD (two + L_) 0) == t)) (Tr.cmp (Ev.cmp ?p1 ?p2 Cmp.ltLs1 (by kernel_rfl)) ?p3 Cmp.eqBool (by kernel_rfl)) (fun h => Ex.cons ?p4) (fun h => Ex.nil (K.cont ?p5))
    case p1 => walk_at "ev"
    case p2 => walk_at "ev"
    case p3 => walk_at "nm"
    case p4 =>
      rw [if_pos h]
      refine' x_ret ?p6 (Ret.cont Ret.fin)
      case p6 => walk_at "nm"
    case p5 =>
      rw [if_neg (by rw [h]; exact Bool.false_ne_true)]
      walk_at "s"
      refine' x_ret ?p7 Ret.fin
      case p7 => walk_at "nm"
end
section
theorem Cmp.isRef {C : Cc} {a : Addr} : Cmp C .Is (.raw (.ref a)) (.raw (.ref a)) (.bool true) := fun g s v₁ v₂ f r₁ r₂ => by
  cases r₁ using Rep.eRaw
  cases r₂ using Rep.eRaw
  exact wpAny_is_ref_self ⟨g, Gr.refl f.sub, .bool _⟩
section
variable {w : World}
noncomputable abbrev rdSt1 : Stmt := stAt T iReduce
theorem fn_reduce1 {P : Heap → Value → Prop} {ds : List D} {acc : Nat → D} {ro : DOwn} {n : Nat} (hstep : ∀ i d, ds[i]? = some d → FnV pw_ w (K w.params) n P [acc i, d] ro (acc (i + 1))) : FnR pw_ w (K w.params) (n + 1) (.ref aReduce) [.sp P, .lst (acc 0 :: ds)] ro (acc ds.length) := by
  intro A hA g s vs F r hro
  cases r using Reps.eCons with
  | @cons u1 _ r1 r =>
  cases r using Reps.eCons with
  | @cons u2 _ r2 r =>
  cases r using Reps.eNil
  refine fn_entryR (fo := oReduce w.params) (name := S "reduce") (qual := S "reduce") (params := fParams rdSt1) (body := fBody rdSt1) (sc := fScope rdSt1) (binds := [(S "function", u1), (S "sequence", u2), (S "initial", .ref aMissing)]) (vars := [(S "function", u1), (S "sequence", u2), (S "initial", .ref aMissing)]) (cl := fun L => []) (own := fun L => []) ro
    hA F (by kernel_rfl) (by rfl) (codeRec_of (F.cx.ext F.sub).X (by kernel_rfl)) (kp_binds (F.cx.ext F.sub).X fun S => by kernel_rfl) (by kernel_rfl) (by decide +kernel) (fun L => by kernel_rfl) (by kernel_rfl) (fun L => by kernel_rfl) (by kernel_rfl)
    (.cons r1 (.cons r2 (.cons (.raw _) .nil))) (fun L => .nil) hro fun L => ?_
  have hh := hA.handled
  have hR : RmN n (fCr pw_ w (K w.params) A s g (S "reduce") (fScope rdSt1) L aReduce (.ref (aReduce - 1)) [] ro).A := hA.deeper _
  refine Ex.body ?_
  walk_at "s"
  refine x_doc (by kernel_rfl) (by kernel_rfl) ?_
  walk_at "s"
  refine' x_asgNW (EvW.iterL hh ?a1 ?a2 (by kernel_rfl)) (fun I => ?a3) (fun I => ?_) (by kernel_rfl)
  case a1 => walk_at "blt"
  case a2 => walk_at "nm"
  case a3 => walk_at "sto"
  walk_at "s"
  refine' x_if (b := true) (Tr.cmp (d₁ := .raw (.ref aMissing)) (d₂ := .raw (.ref aMissing)) ?b1 ?b2 Cmp.isRef (by kernel_rfl)) (fun _ => Ex.cons ?_) (fun h => by cases h)
  case b1 => walk_at "nm"
  case b2 => exact Ev.globV (by kernel_rfl) (by kernel_rfl) (by kernel_rfl) (by kernel_rfl) (by kernel_rfl)
  refine' x_try (Ex.cons ?_)
  refine' x_asgNW (EvW.next1 ?c1 ?c2 (by kernel_rfl)) (fun _ => ?c3) (fun _ => ?_) (by kernel_rfl)
  case c1 => walk_at "blt"
  case c2 => walk_at "nm"
  case c3 => walk_at "sto"
  refine Ex.nil (K.cont (Ex.nil (K.cont ?_)))
  walk_at "s"
  refine' x_forI (k0 := 1) (dsA := acc 0 :: ds) (ds := ds) (σ := Unit) ?e1 (OItN.walks hh (Nat.le_add_left _ _)) (fun i _ => [(S "value", acc i), (S "function", .sp P)]) (fun _ _ => []) (fun _ _ => True) () trivial ?e2 .nil (fun s₀ gb hS i _ d hd _ => ?_) (fun _ _ => ?_) (fun _ => by kernel_rfl)
  case e1 => walk_at "nm"
  case e2 => walk_at "vs"
  · refine' Turn1.mk (Asg.name ?as) ?_
    case as => walk_at "sto"
    refine Ex.cons ?_
    refine' x_asgN (d := acc (i + 1)) (Ev.callV (P := P) ?f1 ?f2 (hstep i d hd) hR (Nat.le_refl _) (by kernel_rfl) (by kernel_rfl)) ?f3 ?_ (by kernel_rfl)
    case f1 => walk_at "nm"
    case f2 => walk_at "args"
    case f3 => walk_at "sto"
    refine Ex.nil ?_
    refine' K.turn () trivial ?f4 .nil
    walk_at "vs"
  · walk_at "s"
    refine' x_ret (d := acc ds.length) ?z1 Ret.fin
    walk_at "nm"
end
end
section
section
variable {C : Cc} {vars : DVars} {own rest : DOwn} {pos : Pos}
theorem EvW.ofPerm {σ : Type} {own₂ : DOwn} {o₂ : σ → DOwn} {dd : σ → D} {e : Expr} (h : own.Perm own₂) (k : EvW C vars own₂ e o₂ dd) : EvW C vars own e o₂ dd := fun g s hs => k g s (hs.permO h)
theorem At2.standRs {g : Heap} {s : Shared} {ro : DOwn} (a : At2 C vars own g s) (h : ∀ p ∈ ro, p ∈ own ∨ p ∈ C.ro) : StandR ro g s := fun p hp => (a.standR (h p hp)) p (.head _)
theorem EvW.lamAt {params : Arguments} {body : Expr} {sc : Scope} {c P bm : Addr} {clos : List (PySem.Str × Addr)} (m : LamOk C params sc c P bm clos) (r : Rm1 (P, OTab pos (C.env.qual ++ "<lambda>")) own rest) :
    EvW C vars own (.Lambda params body sc pos) (fun _ : Unit => own) (fun _ => .sp (IsLam (C.env.qual ++ "<lambda>") params body sc clos)) :=
  ((EvW.lam m).perm fun _ => r.perm.symm).ofPerm r.perm
theorem x_retE {σ τ : Type} {wo' : τ → DOwn} {dd : τ → D} {o₂ : σ → DOwn} {dd' : σ → D} {e : Expr} {rs : List Stmt} {Q : Flow → Shared → Prop} (hv : EvW C vars own e o₂ dd') (z : σ → τ) (hd : ∀ y, dd (z y) = dd' y) (ho : ∀ y, DW (o₂ y) (wo' (z y))) (k : ∀ v s, FinW C wo' dd (.ret v) s → Q (.ret v) s) : Ex2 C vars own (.Return (some e) pos) rs Q := fun g s hs =>
  wpAny_Return_some (wmono (hv g s hs) fun v s₁ ⟨y, g₁, x₁, a₁, r₁⟩ => k v s₁ (FinW.of (z y) (a₁.weak (ho y)) (by rw [hd]; exact r₁)))
end
noncomputable abbrev ctSt : Stmt := stAt T 12
noncomputable abbrev cPos : Pos := ⟨459, 18, 459, 78⟩
noncomputable abbrev cQual : PySem.Str := S "_law_cut.<locals>.<lambda>"
theorem fn_cut {w : World} {x dx : Addr} {fs : Fs} {W : List Nat} {S_ : PySem.Str → Bool} {t : Bool} (hf : FmFs (strKind pw_ w) fs (.str (Ls W)) (.str (Ls W)) (fun _ => []) S_) (hfn : (fs.map (·.1)).contains (S "find_longest_match") = false) (hS : ∀ k ∈ kT W, S_ k = true) (hW : W.length ≤ 100) (hW1 : 1 ≤ W.length) :
    FnW pw_ w (K w.params) 8 (.ref 274) [.sp (IsInst aSM x dx), .str (Ls W), .bool t] [(dx, OInst fs), (269, OTab cPos cQual)] (fun _ : Unit => [(dx, OInst fs), (269, OTab cPos cQual)]) (fun _ => .int (cutN (fun p => W.getD p 0) W.length t (W.length - 1))) := by
  intro A hA g s vs F r hst
  cases r using Reps.eCons with
  | @cons u1 _ r1 r =>
  cases r using Reps.eCons with
  | @cons u2 _ r2 r =>
  cases r using Reps.eCons with
  | @cons u3 _ r3 r =>
  cases r using Reps.eNil
  refine fn_entryW (fo := o_274 w.params) (name := S "_law_cut") (qual := S "_law_cut") (params := fParams ctSt) (body := fBody ctSt) (sc := fScope ctSt) (binds := [(S "matcher", u1), (S "text", u2), (S "turned", u3)]) (vars := []) (cl := fun L => [(S "turned", L + 3), (S "text", L + 2), (S "matcher", L + 1)]) (own := fun L => [(L + 3, Cel (some u3)), (L + 2, Cel (some u2)), (L + 1, Cel (some u1))])
    hA F hst (by kernel_rfl) (by rfl) (codeRec_of (F.cx.ext F.sub).X (by kernel_rfl)) (kp_binds (F.cx.ext F.sub).X fun S => by kernel_rfl) (by kernel_rfl) (by decide +kernel) (fun L => by kernel_rfl) (by kernel_rfl) (fun L => by kernel_rfl) (by kernel_rfl)
    .nil (fun L => .cell r3 (.cell r2 (.cell r1 .nil))) (ow := fun L => [(dx, OInst fs), (269, OTab cPos cQual), (L + 3, CelD (.bool t)), (L + 2, CelD (.str (Ls W))), (L + 1, CelD (.sp (IsInst aSM x dx)))]) (fun L => rfl) fun L => ?_
  have hh := hA.handled
  have hR : RmN 7 (fCw pw_ w (K w.params) A s g (S "_law_cut") (fScope ctSt) L 274 (.ref 273) [(S "turned", L + 3), (S "text", L + 2), (S "matcher", L + 1)] [(dx, OInst fs), (269, OTab cPos cQual)]).A := hA.deeper _
  have hWl : W.length ≤ 1000000 := by (first | lia | omega)
  refine Ex.body ?_
  walk_at "s"
  refine' x_asgN (d := .lst (dInts (rangeI 0 W.length))) (Ev.call (fv := .type "list") ?a1 (EvArgs.cons ?a2 EvArgs.nil (by kernel_rfl)) (FnC.listRng hh (by (first | lia | omega)) (by (first | lia | omega))) (by kernel_rfl) (by kernel_rfl)) ?a3 ?_ (by kernel_rfl)
  case a1 => walk_at "blt"
  case a2 => walk_at "ev"
  case a3 => walk_at "sto"
  walk_at "s"
  have hds : D.lst (dInts (rangeI 0 W.length)) = .lst (D.int (cutN (fun p => W.getD p 0) W.length t 0 : Nat) :: (dInts (rangeI 0 W.length)).tail) := by
    obtain ⟨m, hm⟩ : ∃ m, W.length = m + 1 := ⟨W.length - 1, by (first | lia | omega)⟩
    rw [hm]
    unfold rangeI
    rw [show ((((m + 1 : Nat) : Int) - 0).toNat) = m + 1 by (first | lia | omega), List.range_succ_eq_map]
    rfl
  have hlen : (dInts (rangeI 0 W.length)).tail.length = W.length - 1 := by
    rw [List.length_tail, List.length_map, rangeI_len]; (first | lia | omega)
  have hget : ∀ i d, (dInts (rangeI 0 W.length)).tail[i]? = some d → d = .int ((i + 1 : Nat) : Int) ∧ i + 1 < W.length := fun i d h => by
    rw [List.getElem?_tail, dInts, rangeI, List.getElem?_map, List.getElem?_map] at h
    simp only [Option.map_eq_some_iff] at h
    obtain ⟨_, ⟨k, hk, rfl⟩, rfl⟩ := h
    obtain ⟨h1, h2⟩ := List.getElem?_eq_some_iff.mp hk
    rw [List.getElem_range] at h2
    rw [List.length_range] at h1
    subst h2
    exact ⟨by rw [Int.zero_add], by (first | lia | omega)⟩
  rw [hds]
  generalize (dInts (rangeI 0 W.length)).tail = ds at hlen hget ⊢
  refine' x_retE (EvW.callLam (n := 6) (fv := .ref aReduce) (ds := [.lst (D.int (cutN (fun p => W.getD p 0) W.length t 0 : Nat) :: ds)]) (ro := [(dx, OInst fs), (L + 3, CelD (.bool t)), (L + 2, CelD (.str (Ls W))), (L + 1, CelD (.sp (IsInst aSM x dx)))]) (d := .int (cutN (fun p => W.getD p 0) W.length t ds.length : Nat)) (fun own => ?z4) (EvW.lamAt (P := 269) (c := 273) (bm := 4) (clos := [(S "turned", L + 3), (S "text", L + 2), (S "matcher", L + 1)]) ⟨by kernel_rfl, by kernel_rfl, by kernel_rfl, by kernel_rfl, by kernel_rfl, by kernel_rfl, by decide⟩ ?z5) ?z6 ?z7 hR (by (first | lia | omega)) (fun g' s' a' => a'.standRs ?z9) (by kernel_rfl) (by kernel_rfl)) (fun _ => ()) (fun _ => by rw [hlen]) (fun _ => ?z8) (fun _ _ h => h)
  case z4 => walk_at "glob"
  case z5 => exact .there .here
  case z6 => walk_at "args"
  case z8 => exact .same (.same (.drop (.drop (.drop .nil))))
  case z9 =>
    intro p hp
    rcases List.mem_cons.mp hp with rfl | hp
    · exact .inl (.head _)
    · exact .inl (.tail _ (.tail _ hp))
  case z7 =>
    refine fn_reduce1 (acc := fun i => .int (cutN (fun p => W.getD p 0) W.length t i : Nat)) (n := 5) (fun i d hd => ⟨fun A' hA' g' s' v vs' F' hP r' hro' => ?y2, fun g' s' v F' hP => IsLam.kp hP F'.sub⟩)
    case y2 =>
      obtain ⟨rfl, hi⟩ := hget i d hd
      cases r' using Reps.eCons with
      | @cons v1' _ r1' r' =>
      cases r' using Reps.eCons with
      | @cons v2' _ r2' r' =>
      cases r' using Reps.eNil
      refine lam_call (binds := [(S "one", v1'), (S "two", v2')]) (dv := [(S "one", .int (cutN (fun p => W.getD p 0) W.length t i : Nat)), (S "two", .int ((i + 1 : Nat) : Int))]) hA' F' hP hro' (fun _ _ _ => by rfl) (by kernel_rfl) (by kernel_rfl) (by kernel_rfl) ?y3 (fun L' f' c' => ?y4)
      case y3 =>
        intro p hp
        cases hp with
        | head => exact ⟨_, by rfl, r1'⟩
        | tail _ hp =>
          cases hp with
          | head => exact ⟨_, by rfl, r2'⟩
          | tail _ hp => cases hp
      case y4 =>
        have hle := (cutN_spec (g := fun p => W.getD p 0) (n := W.length) (t := t) i (by (first | lia | omega))).1
        refine Ev.callR (n := 4) (m := 4) (fv := .ref 267) (ro := [(dx, OInst fs)]) ?y5 ?y6 (fn_later (x := x) hf hfn hS hW (by (first | lia | omega)) hi) (hA'.deeper _) (Nat.le_refl _) (fun g s a => a.standR (.inr ?y7)) (by kernel_rfl) (by kernel_rfl)
        case y5 => walk_at "glob"
        case y6 =>
          refine' EvArgs.cons (Ev.freeR ?c1 ?c2 (by kernel_rfl) (by kernel_rfl) (by kernel_rfl) (by kernel_rfl)) (EvArgs.cons (Ev.freeR ?c3 ?c4 (by kernel_rfl) (by kernel_rfl) (by kernel_rfl) (by kernel_rfl)) (EvArgs.cons (Ev.freeR ?c5 ?c6 (by kernel_rfl) (by kernel_rfl) (by kernel_rfl) (by kernel_rfl)) ?c7 (by kernel_rfl)) (by kernel_rfl)) (by kernel_rfl)
          case c1 => walk_at "lu"
          case c3 => walk_at "lu"
          case c5 => walk_at "lu"
          case c2 => exact .tail _ (.tail _ (.tail _ (.head _)))
          case c4 => exact .tail _ (.tail _ (.head _))
          case c6 => exact .tail _ (.head _)
          case c7 => walk_at "args"
        case y7 => exact .head _
end
section
theorem Cmp.eqNil {C : Cc} {as : List Int} (hu : C.A.units + 1 < 9900) : Cmp C .Eq (.lst (dInts as)) (.lst []) (.bool as.isEmpty) := fun g s v w f r₁ r₂ => by
  cases r₁ using Rep.eLst with
  | @lst a vs p rs =>
  cases r₂ using Rep.eLst with
  | @lst b ws p' rs' =>
  cases rs' using Reps.eNil
  have hl := rs.length
  rw [List.length_map] at hl
  cases as with
  | nil =>
    have e : vs = [] := List.length_eq_zero_iff.mp hl
    subst e
    have h := RcAt.lists (A := C.A) (s := s) (l := a) (b := b) (items := #[]) (items2 := #[]) (e := fun _ => true) (p.ext f.sub).isList (p'.ext f.sub).isList rfl (Nat.lt_of_succ_lt hu) (fun j h1 _ => absurd h1 (Nat.not_lt_zero _))
    exact h _ _ _ _ ⟨g, Gr.refl f.sub, .bool _⟩
  | cons x as =>
    have h := RcAt.lists_lengths (A := C.A) (s := s) (l := a) (b := b) (p.ext f.sub).isList (p'.ext f.sub).isList (by rw [List.size_toArray, hl]; rfl) (Nat.lt_of_succ_lt hu)
    exact h _ _ _ _ ⟨g, Gr.refl f.sub, .bool _⟩
theorem mem_rangeI2 {a b x : Int} (h : x ∈ rangeI a b) : ∃ k : Nat, x = a + k ∧ a + (k : Int) < b := by
  obtain ⟨k, h1, rfl⟩ := List.mem_map.mp h
  have := List.mem_range.mp h1
  exact ⟨k, rfl, by (first | lia | omega)⟩
theorem rangeI_mem2 {a b : Int} {k : Nat} (h : a + (k : Int) < b) : a + (k : Int) ∈ rangeI a b := List.mem_map.mpr ⟨k, List.mem_range.mpr (by (first | lia | omega)), rfl⟩
theorem mem_about {n cut r : Nat} {z : Int} (h : z ∈ rangeI ((cut - r : Nat) : Int) ((min cut (n - r) : Nat) : Int)) : ∃ p : Nat, z = (p : Int) ∧ cut ≤ p + r ∧ p < cut ∧ p + r < n := by
  obtain ⟨k, rfl, hk⟩ := mem_rangeI2 h
  have h1 : cut - r + k < min cut (n - r) := Int.ofNat_lt.mp hk
  obtain ⟨h2, h3⟩ := Nat.lt_min.mp h1
  exact ⟨cut - r + k, rfl, Nat.le_trans (Nat.le_add_of_sub_le (Nat.le_refl _)) (Nat.add_le_add_right (Nat.le_add_right _ _) _), h2, Nat.add_lt_of_lt_sub h3⟩
theorem about_mem {n cut r p : Nat} (h1 : cut ≤ p + r) (h2 : p < cut) (h3 : p + r < n) : (p : Int) ∈ rangeI ((cut - r : Nat) : Int) ((min cut (n - r) : Nat) : Int) := by
  have h4 : cut - r ≤ p := Nat.sub_le_of_le_add h1
  have h5 : cut - r + (p - (cut - r)) = p := Nat.add_sub_cancel' h4
  have h6 : p < min cut (n - r) := Nat.lt_min.mpr ⟨h2, Nat.lt_sub_of_add_lt h3⟩
  have := rangeI_mem2 (a := ((cut - r : Nat) : Int)) (b := ((min cut (n - r) : Nat) : Int)) (k := p - (cut - r)) (Int.ofNat_lt.mpr (by rw [h5]; exact h6))
  rwa [show (((cut - r : Nat) : Int) + ((p - (cut - r) : Nat) : Int)) = ((cut - r + (p - (cut - r)) : Nat) : Int) from rfl, h5] at this
theorem loc_iff {g : Nat → Nat} {n cut r : Nat} : ((rangeI ((cut - r : Nat) : Int) ((min cut (n - r) : Nat) : Int)).filter fun z => decide (g z.toNat ≠ g (z.toNat + r))).isEmpty = true ↔ Loc g n cut r := by
  rw [List.isEmpty_iff, List.filter_eq_nil_iff]
  constructor
  · intro h p h1 h2 h3
    exact Classical.byContradiction fun q => h _ (about_mem h1 h2 h3) (decide_eq_true q)
  · intro h x hx q
    obtain ⟨p, rfl, h1, h2, h3⟩ := mem_about hx
    exact of_decide_eq_true q (h p h1 h2 h3)
theorem nat_lt62 {n : Nat} (h : n ≤ 1000000) : (n : Int) < 2 ^ 62 := Int.lt_of_le_of_lt (Int.ofNat_le.mpr h) (by decide)
theorem nat_gt62 (n : Nat) : -(2 ^ 62) < (n : Int) := Int.lt_of_lt_of_le (by decide) (Int.natCast_nonneg n)
theorem cut_sub (cut r : Nat) : max (0 : Int) ((cut : Int) - (r : Int)) = ((cut - r : Nat) : Int) := by
  rcases Nat.le_total r cut with h | h
  · rw [← Int.ofNat_sub h]; exact Int.max_eq_right (Int.natCast_nonneg _)
  · rw [Nat.sub_eq_zero_of_le h]; exact Int.max_eq_left (Int.sub_nonpos_of_le (Int.ofNat_le.mpr h))
theorem cut_min {cut n r : Nat} (h : r ≤ n) : min (cut : Int) ((n : Int) - (r : Int)) = ((min cut (n - r) : Nat) : Int) := by
  rw [← Int.ofNat_sub h]
  rcases Nat.le_total cut (n - r) with h | h
  · rw [Nat.min_eq_left h]; exact Int.min_eq_left (Int.ofNat_le.mpr h)
  · rw [Nat.min_eq_right h]; exact Int.min_eq_right (Int.ofNat_le.mpr h)
noncomputable abbrev abSt : Stmt := stAt T 13
theorem fn_about {w : World} {W : List Nat} {cut q : Nat} (hW : W.length ≤ 100) (hc : cut < W.length) (hq1 : 1 ≤ q) (hqn : q ≤ W.length) (hq : Loc (fun p => W.getD p 0) W.length cut q) (least : ∀ r, 1 ≤ r → r < q → ¬ Loc (fun p => W.getD p 0) W.length cut r) :
    Fn pw_ w (K w.params) 1 (.ref 279) [.str (Ls W), .int cut] (.int q) := by
  intro A hA g s vs F r
  cases r using Reps.eCons with
  | @cons v1 _ r1 r =>
  cases r using Reps.eCons with
  | @cons v2 _ r2 r =>
  cases r using Reps.eNil
  refine fn_entry (fo := o_279 w.params) (name := S "_law_about") (qual := S "_law_about") (params := fParams abSt) (body := fBody abSt) (sc := fScope abSt) (binds := [(S "text", v1), (S "cut", v2)]) (vars := [(S "cut", v2)]) (cl := fun L => [(S "r", L + 2), (S "text", L + 1)]) (own := fun L => [(L + 2, Cel .none), (L + 1, Cel (some v1))])
    hA F (by kernel_rfl) (by rfl) (codeRec_of (F.cx.ext F.sub).X (by kernel_rfl)) (kp_binds (F.cx.ext F.sub).X fun S => by kernel_rfl) (by kernel_rfl) (by decide +kernel) (fun L => by kernel_rfl) (by kernel_rfl) (fun L => by kernel_rfl) (by kernel_rfl)
    (.cons r2 .nil) (fun L => .open_ (.cell r1 .nil)) fun L => ?_
  have hh := hA.handled
  have hWl : W.length ≤ 1000000 := by (first | lia | omega)
  refine Ex.body ?_
  walk_at "s"
  refine' x_forG (σ := Unit) (EvIt.of (d := dRng 1 ((W.length : Int) + 1)) ?it (ItD.rng hh (by (first | lia | omega)) (by (first | lia | omega)) (by (first | lia | omega)) (by (first | lia | omega)))) (fun i _ => [(S "cut", .int cut)]) (fun i _ => [(L + 2, CelAny), (L + 1, CelD (.str (Ls W)))]) (fun i _ => i + 1 ≤ q) () hq1 ?hv ?ho (fun s₀ gb hS i _ d hd hF => ?turn) (fun _ hF => ?fin) (fun _ => by kernel_rfl)
  case it => walk_at "ev"
  case hv => walk_at "vs"
  case ho => walk_at "dw"
  case fin => exfalso; rw [List.length_map, rangeI_len] at hF; (first | lia | omega)
  case turn =>
    obtain ⟨rfl, hi⟩ : d = .int ((i + 1 : Nat) : Int) ∧ i + 1 ≤ W.length := by
      rw [dInts, List.getElem?_map, Option.map_eq_some_iff] at hd
      obtain ⟨x, hx, rfl⟩ := hd
      rw [rangeI, List.getElem?_map, Option.map_eq_some_iff] at hx
      obtain ⟨k, hk, rfl⟩ := hx
      obtain ⟨h1, h2⟩ := List.getElem?_eq_some_iff.mp hk
      rw [List.getElem_range] at h2
      subst h2
      exact ⟨by rw [show (1 : Int) + (i : Int) = ((i + 1 : Nat) : Int) by (first | lia | omega)], by rw [List.length_range] at h1; (first | lia | omega)⟩
    generalize hr : i + 1 = r at hi hF ⊢
    refine' Turn1.mk (Asg.name ?as) ?_
    case as => walk_at "sto"
    have hm1 : cut - r ≤ 1000000 := Nat.le_trans (Nat.sub_le _ _) (Nat.le_trans (Nat.le_of_lt hc) hWl)
    have hm2 : min cut (W.length - r) ≤ 1000000 := Nat.le_trans (Nat.min_le_left _ _) (Nat.le_trans (Nat.le_of_lt hc) hWl)
    refine Ex.cons ?_
    refine' x_asgN (d := dRng ((cut - r : Nat) : Int) ((min cut (W.length - r) : Nat) : Int)) (Ev.eq (Ev.call (fv := .type "range") ?b1 (EvArgs.cons ?b2 (EvArgs.cons ?b3 EvArgs.nil (by kernel_rfl)) (by kernel_rfl)) FnC.range2 (by kernel_rfl) (by kernel_rfl)) ?b4) ?b5 ?_ (by kernel_rfl)
    case b1 => walk_at "blt"
    case b2 => walk_at "ev"
    case b3 => walk_at "ev"
    case b4 => rw [cut_sub, cut_min hi]
    case b5 => walk_at "sto"
    refine Ex.cons ?_
    refine' x_if (b := ((rangeI ((cut - r : Nat) : Int) ((min cut (W.length - r) : Nat) : Int)).filter fun z => decide ((fun p => W.getD p 0) z.toNat ≠ (fun p => W.getD p 0) (z.toNat + r))).isEmpty)
      (Tr.cmp (Ev.eq (Ev.comp (xs := rangeI ((cut - r : Nat) : Int) ((min cut (W.length - r) : Nat) : Int)) (ι := D.int) (p := fun z => decide ((fun p => W.getD p 0) z.toNat ≠ (fun p => W.getD p 0) (z.toNat + r))) (f := D.int) (cl := [(S "text", L + 1), (S "r", L + 2)]) (EvIt.of (d := dRng ((cut - r : Nat) : Int) ((min cut (W.length - r) : Nat) : Int)) ?it (ItD.rng hh (nat_gt62 _) (nat_lt62 hm2) (nat_lt62 hm1) (nat_gt62 _))) ⟨fun F s₀ gb a ha => TrAll.one (Tr.eq ?t1 ?t2), fun F s₀ gb a ha hp => ?el⟩ ?c1 ?c2 ?c3 ?c4 ?c5 ?c6 ?c7) rfl) (Ev.list EvArgs.nil (Nat.zero_le _)) (Cmp.eqNil ?u) (by kernel_rfl)) (fun h => Ex.cons ?ret) (fun h => Ex.nil (K.cont ?more))
    case it => walk_at "ev"
    case t1 =>
      obtain ⟨p, ep, q1, q2, q3⟩ := mem_about ha
      have p1 : (0 : Int) ≤ a := by rw [ep]; exact Int.natCast_nonneg _
      have p2 : (0 : Int) ≤ a + (r : Int) := by rw [ep]; exact Int.natCast_nonneg (p + r)
      have c1 : W[a.toNat]? = some (W.getD a.toNat 0) := by
        rw [ep, List.getD_eq_getElem?_getD, Int.toNat_natCast, List.getElem?_eq_getElem (Nat.lt_trans q2 hc)]; rfl
      have c2 : W[(a + (r : Int)).toNat]? = some (W.getD (a.toNat + r) 0) := by
        rw [ep, show ((p : Int) + (r : Int)).toNat = p + r from rfl, Int.toNat_natCast, List.getD_eq_getElem?_getD, List.getElem?_eq_getElem q3]; rfl
      walk_at "tr"
    case t2 =>
      exact decide_eq_decide.mpr ⟨fun h e => h (congrArg (fun x => [x]) e), fun h e => h (List.cons.inj e).1⟩
    case el => walk_at "ev"
    case c1 => rw [rangeI_len]; exact Nat.le_trans (Int.toNat_le_toNat (Int.sub_le_self _ (Int.natCast_nonneg _))) hm2
    case c2 => kernel_rfl
    case c3 => decide +kernel
    case c4 => rfl
    case c5 => decide +kernel
    case c6 => kernel_rfl
    case c7 => intro _; kernel_rfl
    case u => have := hA.units; show A.units + 3 + 1 < 9900; (first | lia | omega)
    case ret =>
      have hloc := (loc_iff (g := fun p => W.getD p 0) (n := W.length) (cut := cut) (r := r)).mp h
      have e : r = q := by
        rcases Nat.lt_or_ge r q with z | z
        · exact absurd hloc (least r (by (first | lia | omega)) z)
        · (first | lia | omega)
      subst e
      refine' x_ret ?r1 (Ret.cont (Ret.turn hS (Ret.cont Ret.fin)))
      walk_at "nm"
    case more =>
      have hne : r ≠ q := fun e => by
        subst e
        rw [(loc_iff (g := fun p => W.getD p 0) (n := W.length) (cut := cut) (r := r)).mpr hq] at h
        cases h
      refine Ex.nil (K.turn () (by (first | lia | omega)) ?v1 ?v2)
      case v1 => walk_at "vs"
      case v2 => walk_at "dw"
end
section
section
variable {κ : Type} [DecidableEq κ]
set_option linter.unusedSectionVars false
theorem take_filter_succ {l : List κ} {p : Nat} {k : κ} (h : l[p]? = some k) (f : κ → Bool) : (l.take (p + 1)).filter f = if f k then (l.take p).filter f ++ [k] else (l.take p).filter f := by
  rw [List.take_add_one, h, List.filter_append]
  cases q : f k <;> simp [q]
theorem take_not {l : List κ} {p : Nat} {k : κ} (hn : l.Nodup) (h : l[p]? = some k) : k ∉ l.take p := fun hm => by
  obtain ⟨i, hi, e⟩ := List.getElem_of_mem hm
  rw [List.length_take] at hi
  rw [List.getElem_take] at e
  have h1 : l[i]? = some k := by rw [← e]; exact List.getElem?_eq_getElem (by (first | lia | omega))
  have := (List.getElem?_inj (by (first | lia | omega) : i < l.length) hn).mp (h1.trans h.symm)
  (first | lia | omega)
theorem without_take {kvs : List (κ × Value)} {l : List κ} {p : Nat} {k : κ} (h : l[p]? = some k) : without (kvs.filter fun kv => decide (kv.1 ∉ l.take p)) k = kvs.filter fun kv => decide (kv.1 ∉ l.take (p + 1)) := by
  unfold without
  rw [List.filter_filter]
  refine List.filter_congr fun kv _ => ?_
  rw [List.take_add_one, h]
  simp only [Option.toList_some, List.mem_append, List.mem_singleton, not_or]
  by_cases a : kv.1 ∈ l.take p <;> by_cases b : kv.1 = k <;> simp [a, b]
theorem entO_weak {tail : DOwn} {f : Ent κ → Bool} : ∀ z : List (Ent κ), DW (entO z ++ tail) (entO (z.filter f) ++ tail)
  | [] => DW.rfl_ _
  | e :: z => by
    cases q : f e with
    | true => rw [List.filter_cons_of_pos q]; exact .same (entO_weak z)
    | false => rw [List.filter_cons_of_neg (by rw [q]; simp)]; exact .drop (entO_weak z)
theorem find_filter {z : List (Ent κ)} {j : κ → Bool} (k : κ) : (z.filter fun e => !j e.k).find? (fun e => decide (e.k = k)) = if j k then none else z.find? (fun e => decide (e.k = k)) := by
  induction z with
  | nil => simp
  | cons e z ih =>
    by_cases hk : e.k = k
    · cases q : j e.k with
      | true => rw [List.filter_cons_of_neg (by simp [q]), ih, ← hk, q]; simp
      | false => rw [List.filter_cons_of_pos (by simp [q]), List.find?_cons_of_pos (by simp [hk]), List.find?_cons_of_pos (by simp [hk]), ← hk, q]; simp
    · cases q : j e.k with
      | true => rw [List.filter_cons_of_neg (by simp [q]), ih, List.find?_cons_of_neg (by simp [hk])]
      | false => rw [List.filter_cons_of_pos (by simp [q]), List.find?_cons_of_neg (by simp [hk]), ih, List.find?_cons_of_neg (by simp [hk])]
theorem idxN_mem (ks : List κ) (k : κ) : ∀ n, n ≤ ks.length → (k ∈ (idxN ks n).map (·.1) ↔ k ∈ ks.take n) := fun n => by
  induction n with
  | zero => intro _; simp [idxN]
  | succ n ih =>
    intro hn
    have hk : ks[n]? = some ks[n] := List.getElem?_eq_getElem (by (first | lia | omega))
    have e : idxN ks (n + 1) = idxAdd (idxN ks n) ks[n] n := by
      conv => lhs; unfold idxN
      rw [hk]
    rw [e, List.take_add_one, hk]
    unfold idxAdd
    simp only [Option.toList_some, List.mem_append, List.mem_singleton]
    rw [← ih (by (first | lia | omega))]
    split
    · rename_i h
      rw [List.map_map]
      have e2 : ((fun x => x.1) ∘ fun kv : κ × List Int => if kv.1 = ks[n] then (kv.1, kv.2 ++ [(n : Int)]) else kv) = fun x => x.1 := by
        funext kv
        simp only [Function.comp]
        split <;> rfl
      first
        | rw [e2]
        | skip
      constructor
      · exact .inl
      · rintro (h' | rfl)
        · exact h'
        · exact h
    · simp
end
section
variable {w : World} {κ : Type} [DecidableEq κ] {knd : PySem.KeyKind pw_ w κ} {ι : κ → D} {dB : D} {ks : List κ} {x dx : Addr} {fs : Fs}
theorem fn_chainG {dj : D} {tj : Bool} {jk jke S_ : κ → Bool} {js : κ → List Int} {nj : Nat} {aj : Bool} (hb : (S "b", dB) ∈ fs) (hj : (S "isjunk", dj) ∈ fs) (ha : (S "autojunk", D.bool aj) ∈ fs) (haj : aj = true → ks.length < 200) (sb : SeqK knd ι dB ks) (en : ∀ {C : Cc}, C.A.handled = none → ItDT C (.type "enumerate") dB (dEnum (ks.map ι))) (hn : (fs.map (·.1)).Nodup) (hl : fs.length ≤ 80) (hks : ks.length ≤ 3000)
    (htr : ∀ {C : Cc} {vars : DVars} {own : DOwn} {e : Expr}, Ev C vars own e dj → PySem.isTrue e C.env (eval e C.env) = (do let v ← eval e C.env; standAt e.pos; holding [v] (truthy v)) → Tr C vars own e tj)
    (hcall : tj = true → ∃ P, dj = .sp P ∧ ∀ k, FnV pw_ w (K w.params) nj P [ι k] [] (.bool (jk k))) (hι : tj = true → ∀ k v, knd.is k v = true → ∀ g, Rep g v (ι k)) (hnp : tj = true → ∀ g v k, Rep g v (ι k) → plainKind v = false) (hje : ∀ k, jke k = (tj && jk k)) (hjs : ∀ k, js k = if jke k then [] else jsK ks k) (hS : ∀ k, S_ k = (decide (k ∈ ks) && jke k)) :
    FnW pw_ w (K w.params) (nj + 1) (.ref aChain) [.sp (IsInst aSM x dx)] [(dx, OInst fs)] (fun _ : Unit => [(dx, OInst (fsChain fs (.sp (IsIdx knd js)) (.sp (IsSetK knd S_)) (dNo knd)))]) (fun _ => .none) := by
  intro A hA g s vs F r hw
  cases r using Reps.eCons with
  | @cons u1 _ r1 r =>
  first | cases r using Reps.eNil | cases r using Rep.eInt | cases r using Rep.eRaw | cases r using Rep.eNone | cases r using Rep.eStr | cases r using Rep.eBool | cases r
  refine fn_entryW (fo := oChain w.params) (name := S "__chain_b") (qual := S "SequenceMatcher.__chain_b") (params := fParams (smSt 5)) (body := fBody (smSt 5)) (sc := fScope (smSt 5)) (binds := [(S "self", u1)]) (vars := [(S "self", u1)]) (cl := fun L => []) (own := fun L => [])
    hA F hw (by kernel_rfl) (by rfl) (codeRec_of (F.cx.ext F.sub).X (by kernel_rfl)) (kp_binds (F.cx.ext F.sub).X fun S => by kernel_rfl) (by kernel_rfl) (by decide +kernel) (fun L => by kernel_rfl) (by kernel_rfl) (fun L => by kernel_rfl) (by kernel_rfl)
    (.cons r1 .nil) (fun L => .nil) (ow := fun L => [(dx, OInst fs)]) (fun L => rfl) fun L => ?_
  have hh := hA.handled
  have R : RunC (fCw pw_ w (K w.params) A s g (S "SequenceMatcher.__chain_b") (fScope (smSt 5)) L aChain (.ref (aChain - 1)) [] [(dx, OInst fs)]) := ⟨rfl, rfl, (hA.deeper _).le (Nat.zero_le _)⟩
  refine Ex.body ?_
  walk_at "s"
  refine' x_asgN (d := dB) (Ev.attrI (attr := Option.none) ?e1 (.inl ?e2) hb ?e4 ?e5 ?e6 ?e7 ?e8) ?e9 ?_ (by kernel_rfl)
  case e1 => walk_at "nm"
  case e2 => walk_at "m"
  case e4 => kernel_rfl
  case e5 => kernel_rfl
  case e6 => kernel_rfl
  case e7 => kernel_rfl
  case e8 => kernel_rfl
  case e9 => walk_at "sto"
  walk_at "s"
  refine' x_asg2W (EvW.dict0 (P := ODic knd []) ODic.empty ODic.mono) (fun bd => Asg.attr (setI rfl (fun P => by kernel_rfl)) ?c2 ?c3 ?c4 (fput_ok (d := .raw (.ref bd)) hn) (hand_raw rfl) (Nat.ble_eq.mpr (by (first | lia | omega)))) (fun bd => Asg.name ?c5) (fun bd => ?_) (by kernel_rfl) (by kernel_rfl)
  case c2 => walk_at "nm"
  case c3 => walk_at "m"
  case c4 => walk_at "pu"
  case c5 => walk_at "sto"
  have hn1 := fput_nodup (name := S "b2j") (d := .raw (.ref bd)) hn
  have hl1 := fput_len (name := S "b2j") (d := .raw (.ref bd)) (fs := fs)
  have hj1 := fput_keep (name := S "b2j") (d := .raw (.ref bd)) hj (by kernel_rfl)
  have ha1 := fput_keep (name := S "b2j") (d := .raw (.ref bd)) ha (by kernel_rfl)
  generalize hf1 : fput (S "b2j") (.raw (.ref bd)) fs = f1 at hn1 hl1 hj1 ha1 ⊢
  walk_at "s"
  refine' x_forT (σ := List (Ent κ)) (EvItT.call (fv := .type "enumerate") ?i1 ?i2 (en hh) (by kernel_rfl)) (fun p z => [(S "b2j", .raw (.ref bd)), (S "b", dB), (S "self", .sp (IsInst aSM x dx))]) (fun p z => (bd, ODic knd (entD z)) :: (entO z ++ [(dx, OInst f1)])) (fun p z => entP z = idxN ks p) [] rfl ?i3 (DW.rfl_ _) (fun s₀ gb hS p z ds hd hF => ?_) (fun z hF => ?_) (fun _ => by kernel_rfl)
  case i1 => walk_at "blt"
  case i2 => walk_at "nm"
  case i3 => walk_at "vs"
  · obtain ⟨d0, hd0, rfl⟩ := dEnum_get hd
    rw [List.getElem?_map, Option.map_eq_some_iff] at hd0
    obtain ⟨k, hk, rfl⟩ := hd0
    have hp : p < ks.length := by
      rcases Nat.lt_or_ge p ks.length with q | q
      · exact q
      · rw [List.getElem?_eq_none q] at hk; cases hk
    have hzk : z.map (·.k) = (idxN ks p).map (·.1) := by rw [← hF, List.map_map]; rfl
    have hzn : (z.map (·.k)).Nodup := by rw [hzk]; exact idxN_nodup ks p
    have hzl : z.length ≤ 1000000 := by
      have := idxN_len ks p
      rw [← hF, List.length_map] at this
      (first | lia | omega)
    refine' TurnT.mk (AsgTup.of hh rfl (by kernel_rfl) (by kernel_rfl) (AsgAll.name ?n1 (AsgAll.name ?n2 AsgAll.nil))) ?_
    case n1 => walk_at "sto"
    case n2 => walk_at "sto"
    refine Ex.cons ?_
    refine' x_asgNW (EvW.setdef (k := k) (dk := ι k) ⟨by kernel_rfl, by kernel_rfl, by kernel_rfl, PySem.F.plainAttrs_dict, PySem.F.slot_dict_setdefault, by kernel_rfl⟩ ?o1 ?o2 (fun g v r => sb.key r) (K_sys _) hzl (by kernel_rfl)) (fun y => ?o3) (fun y => ?_) (by kernel_rfl)
    case o1 => walk_at "nm"
    case o2 => walk_at "nm"
    case o3 => walk_at "sto"
    obtain ⟨⟨z1, a⟩, hy⟩ := y
    dsimp only at hy ⊢
    obtain ⟨e0, he0, hek, hea, hz1n, hz1l, hz1p⟩ : ∃ e0 ∈ z1, e0.k = k ∧ e0.a = a ∧ (z1.map (·.k)).Nodup ∧ e0.js.length ≤ 1000000 ∧ entP (entUp z1 k p) = idxAdd (entP z) k p := by
      have hjl : ∀ e ∈ z, e.js.length ≤ 1000000 := fun e he => by
        have h1 := idxN_at ks e.k p (by (first | lia | omega))
        have h2 : idxAt (idxN ks p) e.k = e.js := by
          rw [← hF]
          unfold idxAt
          have : (entP z).find? (fun kv => decide (kv.1 = e.k)) = (z.find? fun e' => decide (e'.k = e.k)).map fun e => (e.k, e.js) := by rw [List.find?_map]; rfl
          rw [this]
          cases q : z.find? (fun e' => decide (e'.k = e.k)) with
          | none => simpa using List.find?_eq_none.mp q e he
          | some e' =>
            have h3 : e'.k = e.k := by simpa using List.find?_some q
            have h4 : e' = e := by
              have hm := List.mem_of_find?_eq_some q
              exact nodup_inj hzn hm he h3
            subst h4; rfl
        rw [h2] at h1
        rw [h1, List.length_map]
        exact Nat.le_trans (List.length_filter_le _ _) (by rw [List.length_range]; (first | lia | omega))
      rcases hy with ⟨⟨e0, h1, h2, h3⟩, rfl⟩ | ⟨h1, rfl⟩
      · exact ⟨e0, h1, h2, h3, hzn, hjl e0 h1, entP_up (List.mem_map.mpr ⟨e0, h1, h2⟩)⟩
      · refine ⟨⟨k, a, []⟩, by simp, rfl, rfl, ?_, by simp, entP_new h1⟩
        rw [List.map_append]
        exact List.nodup_append.mpr ⟨hzn, by simp, fun b hb c hc e => h1 (by simp at hc; rw [← hc, ← e]; exact hb)⟩
    subst hek hea
    refine Ex.cons ?_
    refine' x_append (a := e0.a) (ds := dInts e0.js) (d := .int p) ⟨by kernel_rfl, by kernel_rfl, by kernel_rfl, PySem.F.plainAttrs_list, PySem.slot_list_append, by kernel_rfl⟩ ?q1 (.tail _ (List.mem_append_left _ (List.mem_map_of_mem (f := fun e : Ent κ => (e.a, OLst (dInts e.js))) he0))) ?q3 (.there (entUp_put hz1n e0 he0)) (by rw [List.length_map]; exact hz1l) ?_ (by kernel_rfl) (by kernel_rfl) (by kernel_rfl)
    case q1 => walk_at "nm"
    case q3 => walk_at "nm"
    refine Ex.nil ?_
    rw [show entD z1 = entD (entUp z1 e0.k p) from entD_up.symm]
    refine' K.turn (entUp z1 e0.k p) ?t1 ?t2 (DW.rfl_ _)
    case t1 =>
      show entP _ = idxN ks (p + 1)
      rw [hz1p, hF]
      conv => rhs; unfold idxN
      rw [hk]
    case t2 => walk_at "vs"
  have hlen : (dEnum (ks.map ι)).length = ks.length := by rw [dEnum_len, List.length_map]
  rw [hlen] at hF
  have hzk : z.map (·.k) = (idxN ks ks.length).map (·.1) := by rw [← hF, List.map_map]; rfl
  have hzn : (z.map (·.k)).Nodup := by rw [hzk]; exact idxN_nodup ks _
  refine Ex.permO (own' := (dx, OInst f1) :: (bd, ODic knd (entD z)) :: entO z) ?_ ?_
  · refine (List.Perm.cons _ (List.perm_append_comm)).trans ?_
    exact List.Perm.swap _ _ _
  generalize hzO : entO z = zO
  walk_at "s"
  refine' x_asg2W (EvW.set0 (P := OSetT knd []) R ?p0 OSetT.fresh OSetT.mono) (fun sj => Asg.attr (setI rfl (fun P => by kernel_rfl)) ?p2 ?p3 ?p4 (fput_ok (d := .raw (.ref sj)) hn1) (hand_raw rfl) (Nat.ble_eq.mpr (by (first | lia | omega)))) (fun sj => Asg.name ?p5) (fun sj => ?_) (by kernel_rfl) (by kernel_rfl)
  case p0 => walk_at "blt"
  case p2 => walk_at "nm"
  case p3 => walk_at "m"
  case p4 => walk_at "pu"
  case p5 => walk_at "sto"
  have hn2 := fput_nodup (name := S "bjunk") (d := .raw (.ref sj)) hn1
  have hl2 := fput_len (name := S "bjunk") (d := .raw (.ref sj)) (fs := f1)
  have hj2 := fput_keep (name := S "bjunk") (d := .raw (.ref sj)) hj1 (by kernel_rfl)
  have ha2 := fput_keep (name := S "bjunk") (d := .raw (.ref sj)) ha1 (by kernel_rfl)
  generalize hf2 : fput (S "bjunk") (.raw (.ref sj)) f1 = f2 at hn2 hl2 hj2 ha2 ⊢
  walk_at "s"
  refine' x_asgN (d := dj) (Ev.attrI (attr := Option.none) ?g1 (.inl ?g2) hj2 ?g4 ?g5 ?g6 ?g7 ?g8) ?g9 ?_ (by kernel_rfl)
  case g1 => walk_at "nm"
  case g2 => walk_at "m"
  case g4 => kernel_rfl
  case g5 => kernel_rfl
  case g6 => kernel_rfl
  case g7 => kernel_rfl
  case g8 => kernel_rfl
  case g9 => walk_at "sto"
  have hRj : RmN nj (fCw pw_ w (K w.params) A s g (S "SequenceMatcher.__chain_b") (fScope (smSt 5)) L aChain (.ref (aChain - 1)) [] [(dx, OInst fs)]).A := hA.deeper _
  have hzmem : ∀ k, k ∈ z.map (·.k) ↔ k ∈ ks := fun k => by rw [hzk, idxN_mem ks k _ (Nat.le_refl _), List.take_length]
  have hzlen : (z.map (·.k)).length ≤ ks.length := by
    rw [List.length_map]
    have h1 := idxN_len ks ks.length
    have h2 := congrArg List.length hF
    rw [List.length_map] at h2
    (first | lia | omega)
  have hzd : (entD z).map (fun kv => ι kv.1) = (z.map (·.k)).map ι := by rw [List.map_map, List.map_map]; rfl
  generalize hzK : z.map (·.k) = zK at hzk hzn hzmem hzlen hzd
  walk_at "s"
  have hzmm : ∀ e ∈ z, e.k ∈ ks := fun e he => (hzmem _).mp (by rw [← hzK]; exact List.mem_map_of_mem he)
  refine' x_ifM (b := tj) [(S "b2j", .raw (.ref bd)), (S "b", dB), (S "self", .sp (IsInst aSM x dx))] ((sj, OSetT knd (zK.filter jke)) :: (bd, ODic knd (entD (z.filter fun e => !jke e.k))) :: (dx, OInst f2) :: zO) (htr ?y1 (by kernel_rfl)) (fun htj => ?tt) (fun htj g s hs => ?ff) ?_
  case y1 => walk_at "nm"
  case ff =>
    have e1 : zK.filter jke = [] := List.filter_eq_nil_iff.mpr fun k _ => by rw [hje, htj]; simp
    have e2 : z.filter (fun e => !jke e.k) = z := List.filter_eq_self.mpr fun e _ => by rw [hje, htj]; rfl
    rw [e1, e2]
    refine (hs.permO ((List.Perm.swap _ _ _).cons _)).forget ?_
    walk_at "vs"
  case tt =>
    have hjeq : jke = jk := funext fun k => by rw [hje, htj]; rfl
    subst hjeq
    obtain ⟨P, hPd, hcl⟩ := hcall htj
    clear hcall
    subst hPd
    have hι := hι htj
    have hnp := hnp htj
    refine Ex.permO (own' := (bd, ODic knd (entD z)) :: (sj, OSetT knd []) :: (dx, OInst f2) :: zO) ?_ ?_
    · exact ((List.Perm.swap _ _ _).cons _).trans (List.Perm.swap _ _ _)
    refine Ex.cons ?_
    refine' x_forO (σ := Unit) (α := Unit) (PO := ODic knd (entD z)) (fun _ => (entD z).map fun kv => ι kv.1) (fun _ => True) ODic.mono (fun _ _ _ h => h) (keys_hit (knd := knd) (ι := ι) hh ⟨by kernel_rfl, by kernel_rfl, by kernel_rfl, PySem.F.plainAttrs_dict, PySem.F.slot_dict_keys, by kernel_rfl⟩ (fun ob => ?l1) (K_sys _) hι)
      (fun _ _ _ => [(S "b2j", .raw (.ref bd)), (S "junk", .raw (.ref sj)), (S "isjunk", .sp P), (S "b", dB), (S "self", .sp (IsInst aSM x dx))]) (fun _ p _ => (sj, OSetT knd ((zK.take p).filter jke)) :: (dx, OInst f2) :: zO) (fun _ _ _ => True) () (fun _ _ => trivial) (fun _ => ?l2) (fun _ => DW.rfl_ _) (fun ob s₁ gb₁ hS₁ _ _ p _ d hd _ => ?_) (fun _ _ _ _ => ?_) (fun _ => by kernel_rfl)
    case l1 => walk_at "nm"
    case l2 => walk_at "vs"
    · rw [hzd, List.getElem?_map, Option.map_eq_some_iff] at hd
      obtain ⟨k, hk, rfl⟩ := hd
      have hp : p < zK.length := by
        rcases Nat.lt_or_ge p zK.length with q | q
        · exact q
        · rw [List.getElem?_eq_none q] at hk; cases hk
      refine' Turn1.mk (Asg.name ?l3) ?_
      case l3 => walk_at "sto"
      refine Ex.cons ?_
      refine' x_if (b := jke k) (Tr.val (Ev.callV (P := P) ?l4 ?l5 (hcl k) hRj (Nat.le_refl _) (by kernel_rfl) (by kernel_rfl)) (by kernel_rfl)) (fun hjk => ?_) (fun hjk => Ex.nil (K.cont (Ex.nil ?_)))
      case l4 => walk_at "nm"
      case l5 => walk_at "args"
      · refine Ex.cons ?_
        have hno : k ∉ (zK.take p).filter jke := fun h => take_not hzn hk (List.mem_filter.mp h).1
        refine' x_addT (a := sj) (ks := (zK.take p).filter jke) (k := k) (d := ι k) ⟨by kernel_rfl, by kernel_rfl, by kernel_rfl, PySem.F.plainAttrs_set, PySem.F.slot_set_add, by kernel_rfl⟩ ?m1 (.tail _ (.head _)) ?m3 (fun g v r => ⟨sb.key r, sb.scan r, hnp g v k r⟩) (.there .here) ?m5 ?_ (by kernel_rfl) (by kernel_rfl) (by kernel_rfl)
        case m1 => walk_at "nm"
        case m3 => walk_at "nm"
        case m5 =>
          have h1 : ((zK.take p).filter jke).length ≤ (zK.take p).length := List.length_filter_le _ _
          rw [List.length_take] at h1
          have : scanBound = 4096 := rfl
          (first | lia | omega)
        refine Ex.nil (K.cont (Ex.nil ?_))
        rw [if_neg hno]
        refine' K.turn () trivial ?m6 ?m7
        case m6 => walk_at "vs"
        case m7 =>
          show DW _ ((bd, Just ob) :: (sj, OSetT knd ((zK.take (p + 1)).filter jke)) :: (dx, OInst f2) :: zO)
          rw [take_filter_succ hk, if_pos hjk]
          exact DW.rfl_ _
      · refine' K.turn () trivial ?n6 ?n7
        case n6 => walk_at "vs"
        case n7 =>
          show DW _ ((bd, Just ob) :: (sj, OSetT knd ((zK.take (p + 1)).filter jke)) :: (dx, OInst f2) :: zO)
          rw [take_filter_succ hk, hjk]
          exact DW.rfl_ _
    have hzl2 : ((entD z).map fun kv => ι kv.1).length = zK.length := by rw [hzd, List.length_map]
    rw [hzl2, List.take_length]
    generalize hjl : zK.filter jke = jl
    have hjn : jl.Nodup := by rw [← hjl]; exact hzn.filter _
    have hjll : jl.length ≤ ks.length := by rw [← hjl]; exact Nat.le_trans (List.length_filter_le _ _) hzlen
    have hjm : ∀ k, k ∈ jl ↔ (k ∈ ks ∧ jke k = true) := fun k => by rw [← hjl, List.mem_filter, hzmem]
    refine Ex.permO (own' := (sj, OSetT knd jl) :: (bd, ODic knd (entD z)) :: (dx, OInst f2) :: zO) (List.Perm.swap _ _ _) ?_
    refine Ex.cons ?_
    refine' x_forO (σ := Unit) (α := List κ) (PO := OSetT knd jl) (fun l => l.map ι) (fun l => List.Perm l jl) OSetT.mono (fun _ _ _ h => h) (set_hit (knd := knd) (ι := ι) hh (fun ob => ?o1) hι (by (first | lia | omega)))
      (fun _ _ _ => [(S "b2j", .raw (.ref bd)), (S "b", dB), (S "self", .sp (IsInst aSM x dx))]) (fun l p _ => (bd, ODic knd ((entD z).filter fun kv => decide (kv.1 ∉ l.take p))) :: (dx, OInst f2) :: zO) (fun _ _ _ => True) () (fun _ _ => trivial) (fun _ => ?o2) (fun l => ?o3) (fun ob s₁ gb₁ hS₁ l hl p _ d hd _ => ?_) (fun l hl _ _ => Ex.nil fun g s hs => ⟨rfl, g, ?fin⟩) (fun _ => by kernel_rfl)
    case o1 => walk_at "nm"
    case o2 => walk_at "vs"
    case o3 =>
      have : (entD z).filter (fun kv => decide (kv.1 ∉ l.take 0)) = entD z := List.filter_eq_self.mpr fun kv _ => by simp
      rw [this]; exact DW.rfl_ _
    · rw [List.getElem?_map, Option.map_eq_some_iff] at hd
      obtain ⟨k, hk, rfl⟩ := hd
      have hp : p < l.length := by
        rcases Nat.lt_or_ge p l.length with q | q
        · exact q
        · rw [List.getElem?_eq_none q] at hk; cases hk
      have hln : l.Nodup := hl.nodup_iff.mpr hjn
      have hkl : k ∈ l := List.mem_of_getElem? hk
      have hno : k ∉ l.take p := take_not hln hk
      refine' Turn1.mk (Asg.name ?o4) ?_
      case o4 => walk_at "sto"
      refine Ex.cons ?_
      refine' x_del (a := bd) (knd := knd) (kvs := (entD z).filter fun kv => decide (kv.1 ∉ l.take p)) (k := k) (d := ι k) ?o5 ?o6 (.tail _ (.head _)) (fun g v r => sb.key r) ?o7 ?o8 (K_sys _) (.there .here) (Ex.nil ?_)
      case o5 => walk_at "nm"
      case o6 => walk_at "nm"
      case o7 =>
        have h1 : k ∈ zK := (hzmem k).mpr ((hjm k).mp (hl.mem_iff.mp hkl)).1
        rw [← hzK] at h1
        obtain ⟨e0, h2, h3⟩ := List.mem_map.mp h1
        exact List.mem_map.mpr ⟨(e0.k, .ref e0.a), List.mem_filter.mpr ⟨List.mem_map_of_mem (f := fun e : Ent κ => (e.k, Value.ref e.a)) h2, by simpa [h3] using hno⟩, h3⟩
      case o8 =>
        have h1 : ((entD z).filter fun kv => decide (kv.1 ∉ l.take p)).length ≤ (entD z).length := List.length_filter_le _ _
        have h2 : (entD z).length = zK.length := by rw [← hzK, List.length_map, List.length_map]
        (first | lia | omega)
      rw [without_take hk]
      refine' K.turn () trivial ?o9 (DW.rfl_ _)
      walk_at "vs"
    case fin =>
    have hfin : (entD z).filter (fun kv => decide (kv.1 ∉ l.take (l.map ι).length)) = entD (z.filter fun e => !jke e.k) := by
      rw [List.length_map, List.take_length, List.filter_map]
      congr 1
      refine List.filter_congr fun e he => ?_
      have h1 : e.k ∈ ks := hzmm e he
      have h2 : e.k ∈ l ↔ jke e.k = true := by rw [hl.mem_iff, hjm]; exact ⟨fun h => h.2, fun h => ⟨h1, h⟩⟩
      simp only [Function.comp]
      cases q : jke e.k with
      | true => simp [h2.mpr q]
      | false =>
        have : e.k ∉ l := fun h => by rw [h2.mp h] at q; cases q
        simp [this]
    rw [hfin] at hs
    refine (hs.permO (own' := (sj, OSetT knd jl) :: (bd, ODic knd (entD (z.filter fun e => !jke e.k))) :: (dx, OInst f2) :: zO) (.refl _)).forget ?_
    walk_at "vs"
  have hjn : (zK.filter jke).Nodup := hzn.filter _
  have hjll : (zK.filter jke).length ≤ ks.length := Nat.le_trans (List.length_filter_le _ _) hzlen
  have hjm : ∀ k, k ∈ zK.filter jke ↔ (k ∈ ks ∧ jke k = true) := fun k => by rw [List.mem_filter, hzmem]
  generalize zK.filter jke = jl at hjn hjll hjm ⊢
  walk_at "s"
  refine' x_asg2W (EvW.set0 (P := OSet knd (fun _ => false) 0) R ?w0 OSet.fresh OSet.mono) (fun sp => Asg.attr (setI rfl (fun P => by kernel_rfl)) ?w2 ?w3 ?w4 (fput_ok (d := .raw (.ref sp)) hn2) (hand_raw rfl) (Nat.ble_eq.mpr (by (first | lia | omega)))) (fun sp => Asg.name ?w5) (fun sp => ?_) (by kernel_rfl) (by kernel_rfl)
  case w0 => walk_at "blt"
  case w2 => walk_at "nm"
  case w3 => walk_at "m"
  case w4 => walk_at "pu"
  case w5 => walk_at "sto"
  have ha3 := fput_keep (name := S "bpopular") (d := .raw (.ref sp)) ha2 (by kernel_rfl)
  generalize hf3 : fput (S "bpopular") (.raw (.ref sp)) f2 = f3 at ha3 ⊢
  walk_at "s"
  refine' x_asgN (d := .int ks.length) ?z1 ?z2 ?_ (by kernel_rfl)
  case z1 => walk_at "ev"
  case z2 => walk_at "sto"
  walk_at "s"
  refine' x_if (b := aj && (decide ((200 : Int) ≤ ks.length) && true)) (Tr.and (Tr.val (Ev.attrI (attr := Option.none) ?k1 (.inl ?k2) ha3 ?k4 ?k5 ?k6 ?k7 ?k8) (by kernel_rfl)) (fun _ => Tr.and ?k9 (fun _ => Tr.and0))) (fun h => ?_) (fun _ => Ex.nil (K.cont ?_))
  case k1 => walk_at "nm"
  case k2 => walk_at "m"
  case k4 => kernel_rfl
  case k5 => kernel_rfl
  case k6 => kernel_rfl
  case k7 => kernel_rfl
  case k8 => kernel_rfl
  case k9 => walk_at "tr"
  · simp only [Bool.and_eq_true, decide_eq_true_eq] at h
    have := haj h.1
    (first | lia | omega)
  refine Ex.end_ (by kernel_rfl) ?_
  intro g4 s4 hs4
  subst hzO
  have hs5 := hs4.permO (own' := (sp, OSet knd (fun _ => false) 0) :: (sj, OSetT knd jl) :: (bd, ODic knd (entD (z.filter fun e => !jke e.k))) :: (entO z ++ [(dx, OInst f3)])) (.cons _ (.cons _ (.cons _ (List.perm_append_singleton _ _).symm)))
  obtain ⟨g5, x5, hs6, r5⟩ := hs5.freezeSet (by decide)
  obtain ⟨g6, x6, hs7, o6, e6, q6⟩ := hs6.freezeP
  have r6 : Rep g6 (.ref sj) (.sp (IsSetK knd S_)) := by
    refine .sp ⟨sj, jl.length, rfl, ?_⟩ IsSetK.mono
    have h1 := SetT.setOf (h := g6) (a := sj) q6 e6 (by have : scanBound = 4096 := rfl; (first | lia | omega))
    have h2 : (fun k => decide (k ∈ jl)) = S_ := funext fun k => by
      rw [hS k]
      cases q : jke k <;> by_cases h : k ∈ ks <;> simp [hjm, q, h]
    rw [h2] at h1; exact h1
  have hs7' := hs7.weak (.same (entO_weak (f := fun e => !jke e.k) z))
  obtain ⟨g7, x7, hs8, r7⟩ := hs7'.freezeIdx (js := js) (K_sys _) (fun k => by
    have h1 := idxN_all ks k
    rw [← hF] at h1
    unfold idxAt at h1 ⊢
    have e1 : ∀ z : List (Ent κ), (entP z).find? (fun kv => decide (kv.1 = k)) = (z.find? fun e => decide (e.k = k)).map fun e => (e.k, e.js) := fun z => by rw [List.find?_map]; rfl
    rw [e1] at h1 ⊢
    rw [find_filter (j := jke) k, hjs]
    cases q : jke k with
    | true => rfl
    | false => simpa using h1) (by rw [← hzK] at hzn; exact (List.filter_sublist.map _).nodup hzn)
  have t : FTell g7 f3 (fsChain fs (.sp (IsIdx knd js)) (.sp (IsSetK knd S_)) (dNo knd)) := by
    rw [← hf3, ← hf2, ← hf1]
    refine FTell.fput (FTell.fput (FTell.fput FTell.rfl_ fun v q => ?_) fun v q => ?_) fun v q => ?_
    · cases q; exact r7
    · cases q; exact r6.ext x7
    · cases q; exact (r5.ext x6).ext x7
  have hs9 := hs8.tellG (.head _) .here (fun o q => q.tell t) OInst.mono
  exact FinW.of () hs9 .none
theorem fn_chainJ {P : Heap → Value → Prop} {jk S_ : κ → Bool} {js : κ → List Int} {nj : Nat} {aj : Bool} (hb : (S "b", dB) ∈ fs) (hj : (S "isjunk", D.sp P) ∈ fs) (ha : (S "autojunk", D.bool aj) ∈ fs) (haj : aj = true → ks.length < 200) (sb : SeqK knd ι dB ks) (en : ∀ {C : Cc}, C.A.handled = none → ItDT C (.type "enumerate") dB (dEnum (ks.map ι))) (hn : (fs.map (·.1)).Nodup) (hl : fs.length ≤ 80) (hks : ks.length ≤ 3000)
    (htr : ∀ {C : Cc} {vars : DVars} {own : DOwn} {e : Expr}, Ev C vars own e (.sp P) → PySem.isTrue e C.env (eval e C.env) = (do let v ← eval e C.env; standAt e.pos; holding [v] (truthy v)) → Tr C vars own e true)
    (hcall : ∀ k, FnV pw_ w (K w.params) nj P [ι k] [] (.bool (jk k))) (hι : ∀ k v, knd.is k v = true → ∀ g, Rep g v (ι k)) (hnp : ∀ g v k, Rep g v (ι k) → plainKind v = false) (hjs : ∀ k, js k = if jk k then [] else jsK ks k) (hS : ∀ k, S_ k = (decide (k ∈ ks) && jk k)) :
    FnW pw_ w (K w.params) (nj + 1) (.ref aChain) [.sp (IsInst aSM x dx)] [(dx, OInst fs)] (fun _ : Unit => [(dx, OInst (fsChain fs (.sp (IsIdx knd js)) (.sp (IsSetK knd S_)) (dNo knd)))]) (fun _ => .none) :=
  fn_chainG (tj := true) (jk := jk) hb hj ha haj sb en hn hl hks htr (fun _ => ⟨P, rfl, hcall⟩) (fun _ => hι) (fun _ => hnp) (fun _ => rfl) hjs hS
theorem fn_chain0 {aj : Bool} (hb : (S "b", dB) ∈ fs) (hj : (S "isjunk", D.none) ∈ fs) (ha : (S "autojunk", D.bool aj) ∈ fs) (haj : aj = true → ks.length < 200) (sb : SeqK knd ι dB ks) (en : ∀ {C : Cc}, C.A.handled = none → ItDT C (.type "enumerate") dB (dEnum (ks.map ι))) (hn : (fs.map (·.1)).Nodup) (hl : fs.length ≤ 80) (hks : ks.length ≤ 3000) :
    FnW pw_ w (K w.params) 1 (.ref aChain) [.sp (IsInst aSM x dx)] [(dx, OInst fs)] (fun _ : Unit => [(dx, OInst (fsChain fs (dIdx knd ks) (dNo knd) (dNo knd)))]) (fun _ => .none) :=
  fn_chainG (nj := 0) (tj := false) (jk := fun _ => false) (jke := fun _ => false) hb hj ha haj sb en hn hl hks (fun h he => Tr.noneV h he) (fun h => by cases h) (fun h => by cases h) (fun h => by cases h) (fun _ => rfl) (fun _ => rfl) (fun k => by simp)
end
end
section
section
variable {C : Cc} {vars : DVars} {own : DOwn} {pos p' : Pos} {fv : Value} {ds : List D} {args : List Expr} {l : Expr}
theorem EvW.callLamW {id : PySem.Str} {a : Expr} {n m : Nat} {wo ro : DOwn} {σ : Type} {wo' : σ → DOwn} {dd : σ → D} {d₀ : D} (hf : ∀ own, Callee C vars own (.Name id p') fv) (h1 : EvW C vars own l (fun _ : Unit => own) (fun _ => d₀)) (ha : EvArgs C vars own pos (a :: args) ds) (h : FnW C.prog C.w C.K n fv (d₀ :: ds) wo wo' dd) (hA : RmN m C.A) (hm : n ≤ m) (pk : Pk wo own ro)
    (he : starEach (l :: a :: args) C.env = (false, eval l C.env) :: starEach (a :: args) C.env) (hp : (backTo pos (starEach (a :: args) C.env)).any (·.1) = false) :
    EvW C vars own (.Call (.Name id p') (l :: a :: args) [] pos) (fun z => wo' z ++ ro) dd := fun g s hs => by
  refine wpAny_Call_Name_kw (wmono ((hf own).load g s hs) fun v s₁ h₁ => ?_)
  obtain ⟨rfl, rfl⟩ := h₁
  have h' : wpAny (model C.prog C.w) C.A (spliced (backTo pos (starEach (l :: a :: args) C.env))) (fun vs s' => ∃ g', Ext g g' ∧ At2 C vars own g' s' ∧ Reps g' vs (d₀ :: ds)) Ff s₁ :=
    wpAny_items_cons (wmono (h1 g s₁ hs) fun u s₂ ⟨_, g₂, x₂, a₂, r₂⟩ => wmono (ha g₂ s₂ a₂) fun vs s₃ ⟨g₃, x₃, r₃⟩ => ⟨g₃, Ext.trans x₂ x₃.ext, a₂.grow x₃, .cons (r₂.ext x₃.ext) r₃⟩) he
  show wpAny _ _ (callWith pos v [] (backTo pos (starEach (l :: a :: args) C.env)) []) _ _ _
  rw [he] at h' ⊢
  refine callWith_of (P := fun h => Kp (model C.prog C.w) h v) (by show ((false || (backTo pos (starEach (a :: args) C.env)).any (·.1)) || false) = false; rw [hp]; rfl) (fun _ x => x) (evalArgs_plain (wmono h' fun vs s₂ ⟨g₂, x₂, a₂, r₂⟩ => ⟨(hf own).kp _ _ a₂, ?_⟩))
  exact wmono (callW h hA hm a₂ pk r₂) fun v s' ⟨z, g', e1, e2, e3⟩ => ⟨z, g', Ext.trans x₂ e1, e2, e3⟩
end
section
variable {g : Heap} {s : Shared} {A : Around} {vs ws : List Value} {j : Nat} {v w : Value}
theorem Reps.intsEq : ∀ {as bs : List Int} {vs : List Value}, Reps g vs (dInts as) → Reps g vs (dInts bs) → as = bs
  | [], [], _, _, _ => rfl
  | [], _ :: _, _, r, r' => by cases r using Reps.eNil; cases r'
  | _ :: _, [], _, r, r' => by cases r' using Reps.eNil; cases r
  | a :: as, b :: bs, _, r, r' => by
    cases r using Reps.eCons with
    | cons h r =>
      cases r' using Reps.eCons with
      | cons h' r' =>
        cases h using Rep.eInt with
        | int t =>
          cases h'
          rw [Reps.intsEq r r']
theorem all_ints : ∀ {as bs : List Int}, as.length = bs.length → (List.range as.length).all (fun j => eqb ((dInts as).getD j .none) ((dInts bs).getD j .none)) = decide (as = bs)
  | [], [], _ => rfl
  | [], _ :: _, h => by simp at h
  | _ :: _, [], h => by simp at h
  | a :: as, b :: bs, h => by
    rw [List.length_cons, List.range_succ_eq_map, List.all_cons, List.all_map]
    have e1 : ((List.range as.length).all ((fun j => eqb ((dInts (a :: as)).getD j .none) ((dInts (b :: bs)).getD j .none)) ∘ Nat.succ)) = decide (as = bs) := all_ints (by simpa using h)
    rw [e1]
    show (eqb (.int a) (.int b) && _) = _
    rw [eqb_int, Bool.eq_iff_iff]
    simp
theorem eqAtTup {as bs : List Int} (hx : Ext g s.heap) (hu : A.units + 1 < 9900) (hl : as.length = bs.length) (r : Rep g v (.tup (dInts as))) (r' : Rep g w (.tup (dInts bs))) : EqAt A s v w (decide (as = bs)) := by
  cases r using Rep.eTup with
  | @tup a vs p rs =>
  cases r' using Rep.eTup with
  | @tup b ws p' rs' =>
  obtain ⟨n, e1⟩ := p
  obtain ⟨n', e2⟩ := p'
  by_cases q : a = b
  · subst q
    rw [e1] at e2
    have h1 := congrArg (fun o : Obj => o.data) (Option.some.inj e2)
    injection h1 with h1 _
    have h2 : vs = ws := by have := congrArg Array.toList h1; simpa using this
    subst h2
    rw [decide_eq_true (Reps.intsEq rs rs')]
    exact EqAt.same _
  · refine EqAt.of_refs q ?_
    have hll : vs.length = ws.length := by rw [rs.length, rs'.length, List.length_map, List.length_map, hl]
    have := RcAt.tuples (A := A) (s := s) (l := a) (b := b) (items := vs.toArray) (items2 := ws.toArray) (e := fun j => eqb ((dInts as).getD j .none) ((dInts bs).getD j .none)) ⟨_, hx _ _ e1, rfl, n, rfl⟩ ⟨_, hx _ _ e2, rfl, n', rfl⟩ (Nat.lt_of_succ_lt hu)
      (fun j h1 h2 => eqAtI rs rs' (List.getElem?_eq_getElem (l := vs) h1) (List.getElem?_eq_getElem (l := ws) h2))
    simp only [List.size_toArray, hll, Nat.min_self, beq_self_eq_true, Bool.and_true] at this
    rw [← hll, rs.length, List.length_map, all_ints hl] at this
    exact this
theorem Cmp.eqLT2 {C : Cc} {x1 x2 y1 y2 : List Int} (hu : C.A.units + 2 < 9900) (h1 : x1.length = y1.length) (h2 : x2.length = y2.length) :
    Cmp C .Eq (.lst [.tup (dInts x1), .tup (dInts x2)]) (.lst [.tup (dInts y1), .tup (dInts y2)]) (.bool (decide (x1 = y1) && decide (x2 = y2))) := fun g s v w f r₁ r₂ => by
  cases r₁ using Rep.eLst with
  | @lst a vs p rs =>
  cases r₂ using Rep.eLst with
  | @lst b ws p' rs' =>
  have hll : vs.length = ws.length := rs.length.trans rs'.length.symm
  have hv : vs.length = 2 := rs.length
  have h := RcAt.lists (A := C.A) (s := s) (l := a) (b := b) (items := vs.toArray) (items2 := ws.toArray) (e := fun j => if j = 0 then decide (x1 = y1) else decide (x2 = y2)) (p.ext f.sub).isList (p'.ext f.sub).isList (by simpa using hll) (by show C.A.units < 9900; (first | lia | omega))
    (fun j q1 q2 => by
      have e1 := List.getElem?_eq_getElem (l := vs) q1
      have e2 := List.getElem?_eq_getElem (l := ws) q2
      obtain ⟨d, d1, d2⟩ := rs.getv e1
      obtain ⟨d', d1', d2'⟩ := rs'.getv e2
      rcases j with _ | _ | j
      · cases d1; cases d1'
        exact eqAtTup f.sub (by show C.A.units + 1 + 1 < 9900; (first | lia | omega)) h1 d2 d2'
      · cases d1; cases d1'
        exact eqAtTup f.sub (by show C.A.units + 1 + 1 < 9900; (first | lia | omega)) h2 d2 d2'
      · cases d1)
  rw [List.size_toArray, hv] at h
  exact h _ _ _ _ ⟨g, Gr.refl f.sub, by
    rw [show (List.range 2).all (fun j => if j = 0 then decide (x1 = y1) else decide (x2 = y2)) = (decide (x1 = y1) && decide (x2 = y2)) by simp [List.range_succ]]
    exact .bool _⟩
end
end
section
section
variable {C : Cc} {vars : DVars} {own : DOwn} {pos p' : Pos} {fv : Value} {ds : List D} {d d₁ d₂ : D} {l r : Expr}
theorem EvW.call2W {id : PySem.Str} (hf : ∀ own, Callee C vars own (.Name id p') fv) (h1 : EvW C vars own l (fun _ : Unit => own) (fun _ => d₁)) (h2 : EvW C vars own r (fun _ : Unit => own) (fun _ => d₂)) (o : FnC C fv [d₁, d₂] d)
    (he : starEach [l, r] C.env = [(false, eval l C.env), (false, eval r C.env)]) (he2 : starEach [r] C.env = [(false, eval r C.env)]) (hp : (backTo pos (starEach [r] C.env)).any (·.1) = false) :
    EvW C vars own (.Call (.Name id p') [l, r] [] pos) (fun _ : Unit => own) (fun _ => d) := fun g s hs => by
  refine wpAny_Call_Name_kw (wmono ((hf own).load g s hs) fun v s₁ h₁ => ?_)
  obtain ⟨rfl, rfl⟩ := h₁
  have h' : wpAny (model C.prog C.w) C.A (spliced (backTo pos (starEach [l, r] C.env))) (fun vs s' => ∃ g', Ext g g' ∧ At2 C vars own g' s' ∧ Reps g' vs [d₁, d₂]) Ff s₁ :=
    wpAny_items_cons (wmono (h1 g s₁ hs) fun u s₂ ⟨_, g₂, x₂, a₂, r₂⟩ => wpAny_items_cons (wmono (h2 g₂ s₂ a₂) fun u' s₃ ⟨_, g₃, x₃, a₃, r₃⟩ => wpAny_items_nil ⟨g₃, Ext.trans x₂ x₃, a₃, .cons (r₂.ext x₃) (.cons r₃ .nil)⟩) he2) (by rw [he2]; exact he)
  show wpAny _ _ (callWith pos v [] (backTo pos (starEach [l, r] C.env)) []) _ _ _
  have hp' : ((backTo pos (starEach [l, r] C.env)).any (·.1)) = false := by rw [he]; rw [he2] at hp; exact hp
  rw [he] at h' hp' ⊢
  refine callWith_of (P := fun h => Kp (model C.prog C.w) h v) (by show (((backTo pos [(false, eval l C.env), (false, eval r C.env)]).any (·.1)) || false) = false; rw [hp']; rfl) (fun _ x => x) (evalArgs_plain (wmono h' fun vs s₂ ⟨g₂, x₂, a₂, r₂⟩ => ⟨(hf own).kp _ _ a₂, ?_⟩))
  exact wmono (o g₂ s₂ vs a₂.fz r₂) fun v s' ⟨g₃, x₃, r₃⟩ => ⟨(), g₃, Ext.trans x₂ x₃.ext, a₂.grow x₃, r₃⟩
theorem Ev.and2 {b c : Bool} (h1 : Ev C vars own l (.bool b)) (h2 : b = true → Ev C vars own r (.bool c)) : Ev C vars own (.BoolOp .And [l, r] pos) (.bool (b && c)) := fun g s hs =>
  wpAny_And2 (h1.run hs fun v g₁ s₁ x₁ a₁ r₁ => by
    cases r₁ using Rep.eBool
    refine wpAny_truthy_bool ?_
    cases b with
    | true => exact wmono (h2 rfl g₁ s₁ a₁) fun v s' h => h.after x₁
    | false => exact ⟨g₁, x₁, .bool _⟩)
end
noncomputable abbrev smF (dj da db d1 d2 d3 : D) : Fs := [(S "isjunk", dj), (S "a", da), (S "b", db), (S "autojunk", .bool true), (S "matching_blocks", .none), (S "opcodes", .none), (S "fullbcount", .none), (S "b2j", d1), (S "bjunk", d2), (S "bpopular", d3)]
noncomputable abbrev lwSt : Stmt := stAt T 14
noncomputable def lamOf : Stmt → Expr
  | .Assign _ (.Call _ (l :: _) _ _) _ => l
  | _ => .Constant .none 0 ⟨0, 0, 0, 0⟩
noncomputable def lamPs : Expr → Arguments
  | .Lambda ps _ _ _ => ps
  | _ => fParams lwSt
noncomputable def lamBo : Expr → Expr
  | .Lambda _ b _ _ => b
  | e => e
noncomputable def lamSc : Expr → Scope
  | .Lambda _ _ sc _ => sc
  | _ => fScope lwSt
noncomputable abbrev jL : Expr := lamOf (stAt (fBody lwSt) 2)
noncomputable abbrev lPos : Pos := ⟨468, 30, 468, 49⟩
noncomputable abbrev lQual : PySem.Str := S "law.<locals>.<lambda>"
noncomputable abbrev jP : Heap → Value → Prop := IsLam lQual (lamPs jL) (lamBo jL) (lamSc jL) []
noncomputable abbrev sJ (W : List Nat) (k : PySem.Str) : Bool := decide (k ∈ kT W) && true
noncomputable abbrev smJ (w : World) (W : List Nat) : Fs := smF (.sp jP) (.str (Ls W)) (.str (Ls W)) (.sp (IsIdx (strKind pw_ w) fun _ => [])) (.sp (IsSetK (strKind pw_ w) (sJ W))) (dNo (strKind pw_ w))
noncomputable abbrev smP (w : World) (W V : List Nat) : Fs := smF .none (.str (Ls W)) (.str (Ls V)) (dIdx (strKind pw_ w) (kT V)) (dNo (strKind pw_ w)) (dNo (strKind pw_ w))
theorem strIs {w : World} {k : PySem.Str} {v : Value} (h : (strKind pw_ w).is k v = true) (g : Heap) : Rep g v (.str k) := by
  have h' : Value.isStrOf k v = true := h
  cases v <;> simp [Value.isStrOf] at h'
  subst h'
  exact .str _ _
theorem jLam_call {w : World} (k : PySem.Str) : FnV pw_ w (K w.params) 0 jP [.str k] [] (.bool true) :=
  ⟨fun A hA g s v vs F hP r hro => by
    cases r using Reps.eCons with
    | @cons v1 _ r1 r =>
    cases r using Reps.eNil
    refine lam_call (binds := [(S "letter", v1)]) (dv := [(S "letter", .str k)]) hA F hP hro (fun _ _ _ => by rfl) (by kernel_rfl) (by kernel_rfl) (by kernel_rfl) ?y3 (fun L' f' c' => ?y4)
    case y3 =>
      intro p hp
      cases hp with
      | head => exact ⟨_, by rfl, r1⟩
      | tail _ hp => cases hp
    case y4 => exact (Ev.bool : Ev _ _ _ (.Constant (.bool true) _ _) _),
  fun g s v F hP => hP.kp F.sub⟩
theorem smJ_chain {w : World} {x dx : Addr} {W : List Nat} (hW : W.length ≤ 100) : ChainTo w x dx (fs2 (.sp jP) (.str (Ls W)) (.str (Ls W)) true) (smJ w W) := by
  have h := fn_chainJ (w := w) (x := x) (dx := dx) (fs := fs2 (.sp jP) (.str (Ls W)) (.str (Ls W)) true) (knd := strKind pw_ w) (ι := D.str) (dB := .str (Ls W)) (ks := kT W) (aj := true) (P := jP) (jk := fun _ => true) (S_ := sJ W) (js := fun _ => []) (nj := 0) (.tail _ (.tail _ (.head _))) (.head _) (.tail _ (.tail _ (.tail _ (.head _)))) (fun _ => by rw [List.length_map]; (first | lia | omega)) (seqT (by (first | lia | omega))) (fun hh => by rw [List.map_map]; exact ItDT.enumS hh) (by show ([S "isjunk", S "a", S "b", S "autojunk", S "matching_blocks", S "opcodes", S "fullbcount"] : List PySem.Str).Nodup; decide +kernel) (by show 7 ≤ 80; decide) (by rw [List.length_map]; (first | lia | omega))
    (fun h he => Tr.lam h he) jLam_call (fun k v h g => strIs h g) (fun g v k r => by cases r; rfl) (fun _ => rfl) (fun _ => rfl)
  exact h
theorem smP_chain {w : World} {x dx : Addr} {W V : List Nat} (hV : V.length < 200) : ChainTo w x dx (fs2 .none (.str (Ls W)) (.str (Ls V)) true) (smP w W V) := by
  have h := fn_chain0 (w := w) (x := x) (dx := dx) (fs := fs2 .none (.str (Ls W)) (.str (Ls V)) true) (knd := strKind pw_ w) (ι := D.str) (dB := .str (Ls V)) (ks := kT V) (aj := true) (.tail _ (.tail _ (.head _))) (.head _) (.tail _ (.tail _ (.tail _ (.head _)))) (fun _ => by rw [List.length_map]; (first | lia | omega)) (seqT (by (first | lia | omega))) (fun hh => by rw [List.map_map]; exact ItDT.enumS hh) (by show ([S "isjunk", S "a", S "b", S "autojunk", S "matching_blocks", S "opcodes", S "fullbcount"] : List PySem.Str).Nodup; decide +kernel) (by show 7 ≤ 80; decide) (by rw [List.length_map]; (first | lia | omega))
  exact h
theorem smJ_fm {w : World} {W : List Nat} : FmFs (strKind pw_ w) (smJ w W) (.str (Ls W)) (.str (Ls W)) (fun _ => []) (sJ W) := ⟨.tail _ (.head _), .tail _ (.tail _ (.head _)), .tail _ (.tail _ (.tail _ (.tail _ (.tail _ (.tail _ (.tail _ (.head _))))))), .tail _ (.tail _ (.tail _ (.tail _ (.tail _ (.tail _ (.tail _ (.tail _ (.head _))))))))⟩
theorem smP_fm {w : World} {W V : List Nat} : FmFs (strKind pw_ w) (smP w W V) (.str (Ls W)) (.str (Ls V)) (jsK (kT V)) (fun _ => false) := ⟨.tail _ (.head _), .tail _ (.tail _ (.head _)), .tail _ (.tail _ (.tail _ (.tail _ (.tail _ (.tail _ (.tail _ (.head _))))))), .tail _ (.tail _ (.tail _ (.tail _ (.tail _ (.tail _ (.tail _ (.tail _ (.head _))))))))⟩
theorem sJ_all {W : List Nat} : ∀ k ∈ kT W, sJ W k = true := fun k hk => by simp [sJ, hk]
theorem flm_junk {w : World} {x dx : Addr} {W : List Nat} {i j : Nat} (hW : W.length ≤ 100) (hi : i ≤ W.length) (hj : j ≤ W.length) :
    FnR pw_ w (K w.params) 3 (.ref aFlm) [.sp (IsInst aSM x dx), .int i, .none, .int j, .none] [(dx, OInst (smJ w W))] (.sp (IsMat aMatch i j (lcpN (fun p => W.getD p 0) W.length i j))) := by
  intro A' hA' g' s' vs' F' r' hro'
  have hl : (kT W).length = W.length := List.length_map _
  have := flm_call5 (w := w) (knd := strKind pw_ w) (ι := D.str) (dA := .str (Ls W)) (dB := .str (Ls W)) (xs := kT W) (ys := kT W) (js := fun _ => []) (S_ := sJ W) (fs := smJ w W) (alo := i) (blo := j) (ahi := none) (bhi := none) hA' F' (seqT (by (first | lia | omega))) (seqT (by (first | lia | omega))) smJ_fm (by (first | lia | omega)) (by (first | lia | omega)) (by simp; (first | lia | omega)) (by simp) (by (first | lia | omega)) (by simp) ⟨fun c => Nat.zero_le _, fun c => List.Pairwise.nil⟩ hro' r'
  simp only [Option.getD_none, hl] at this
  rw [flmR_junk sJ_all] at this
  exact this
theorem flm_plain {w : World} {x dx : Addr} {W : List Nat} {r : Nat} (hW : W.length ≤ 100) (hr : r < W.length) (hl : ∀ c ∈ W, c ≤ 100) (hp : Per (fun p => W.getD p 0) W.length r) :
    FnR pw_ w (K w.params) 3 (.ref aFlm) [.sp (IsInst aSM x dx), .int r] [(dx, OInst (smP w W ((List.replicate W.length [101]).flatten ++ W)))] (.sp (IsMat aMatch r W.length (W.length - r : Nat))) := by
  intro A' hA' g' s' vs' F' r' hro'
  have hfl : (List.replicate W.length [101]).flatten = List.replicate W.length 101 := by
    generalize W.length = n
    induction n with
    | zero => rfl
    | succ n ih => rw [List.replicate_succ, List.flatten_cons, ih]; rfl
  rw [hfl] at hro'
  have hx : (kT W).length = W.length := List.length_map _
  have hy : (kT (List.replicate W.length 101 ++ W)).length = W.length + W.length := by rw [List.length_map, List.length_append, List.length_replicate]
  have := flm_call2 (w := w) (knd := strKind pw_ w) (ι := D.str) (dA := .str (Ls W)) (dB := .str (Ls (List.replicate W.length 101 ++ W))) (xs := kT W) (ys := kT (List.replicate W.length 101 ++ W)) (js := jsK (kT (List.replicate W.length 101 ++ W))) (S_ := fun _ => false) (fs := smP w W (List.replicate W.length 101 ++ W)) (alo := r) hA' F' (seqT (by (first | lia | omega))) (seqT (by rw [List.length_append, List.length_replicate]; (first | lia | omega))) smP_fm (by (first | lia | omega)) (by (first | lia | omega)) (by (first | lia | omega)) (jsK_ok (by (first | lia | omega))) hro' r'
  have hs := flm_spec (xs := kT W) (ys := kT (List.replicate W.length 101 ++ W)) (alo := r) (ahi := W.length) (blo := 0) (bhi := W.length + W.length) (by (first | lia | omega)) (by (first | lia | omega)) (by (first | lia | omega)) (by (first | lia | omega)) (by (first | lia | omega))
  have e1 : kT (List.replicate W.length 101 ++ W) = List.replicate W.length (Ls [101]) ++ kT W := by rw [kT, List.map_append, List.map_replicate]
  have inj : ∀ a b : Nat, Ls [a] = Ls [b] → a = b := fun a b h => by
    have h1 := congrArg (fun s : PySem.Str => s.cps.toList) h
    have h2 : [a] = [b] := h1
    cases h2; rfl
  have hz := flm_behind (xs := kT W) (e := Ls [101]) (r := r) (z := flmR (fun _ => false) (kT W) (kT (List.replicate W.length 101 ++ W)) (jsK (kT (List.replicate W.length 101 ++ W))) r W.length 0 (W.length + W.length)) (by (first | lia | omega)) (fun h => by
    obtain ⟨c, hc, e⟩ := List.mem_map.mp h
    have := inj _ _ e
    have := hl c hc
    (first | lia | omega)) (fun t ht => by
    rw [hx] at ht
    have h1 := hp t ht
    have e2 : ∀ p, p < W.length → (kT W)[p]? = some (Ls [W.getD p 0]) := fun p hp => by
      rw [List.getElem?_map, List.getD_eq_getElem?_getD, List.getElem?_eq_getElem hp]; rfl
    rw [e2 t (by (first | lia | omega)), e2 (t + r) ht]
    exact congrArg (fun c => some (Ls [c])) h1) (by rw [hx, ← e1]; exact hs)
  rw [hx] at hz
  rw [hx, hy, hz] at this
  exact this
end
section
theorem neg_one : ∀ n : Nat, max 0 (min (if (-1 : Int) < 0 then (-1 : Int) + n else (-1 : Int)) (n : Int)) = max 0 (min (if ((n - 1 : Nat) : Int) < 0 then ((n - 1 : Nat) : Int) + n else ((n - 1 : Nat) : Int)) (n : Int))
  | 0 => by decide
  | n + 1 => by
    rw [if_pos (by decide), if_neg (Int.not_lt.mpr (Int.natCast_nonneg _))]
    rw [show (-1 : Int) + ((n + 1 : Nat) : Int) = ((n + 1 - 1 : Nat) : Int) from (Int.neg_add_cancel_left 1 (n : Int)) ▸ (by rw [Int.natCast_succ, Int.add_comm (n : Int) 1])]
theorem sl_m1 {α : Type} (xs : List α) : pySl xs none (some (-1)) none = xs.take (xs.length - 1) := by
  have := sl_ab xs 0 (xs.length - 1)
  simp only [List.drop_zero] at this
  rw [← this]
  unfold pySl sliceBounds
  simp only [Option.getD_none, show (1 : Int) > 0 by decide, if_true]
  rw [show max 0 (min (if ((0 : Nat) : Int) < 0 then ((0 : Nat) : Int) + xs.length else ((0 : Nat) : Int)) (xs.length : Int)) = 0 from Int.max_eq_left (Int.min_le_left _ _), neg_one]
noncomputable abbrev nD (l : List Nat) : List D := dInts (l.map fun r : Nat => (r : Int))
theorem nD_snoc {l : List Nat} {r : Nat} : nD (l ++ [r]) = nD l ++ [.int r] := by simp [nD, dInts]
theorem fn_law {w : World} {ns : List Int} {W : List Nat} (hn : ns.length ≤ 63) (hW : text6 (letsOf (kN ns) (min ns.length 22) (σ22 ns)) ns.sum = W) (hWl : W.length ≤ 70) (hW1 : 1 ≤ W.length) (hWm : ∀ c ∈ W, c ≤ 100) :
    FnW pw_ w (K w.params) 9 (.ref 284) [.lst (dInts ns)] [(269, OTab cPos cQual), (281, OTab lPos lQual)] (fun _ : Unit => [(269, OTab cPos cQual), (281, OTab lPos lQual)]) (fun _ => .bool true) := by
  intro A hA g s vs F r hst
  cases r using Reps.eCons with
  | @cons u1 _ r1 r =>
  cases r using Reps.eNil
  have hft := fn_text6 (w := w) (ns := ns) hn
  rw [hW] at hft
  refine fn_entryW (fo := o_284 w.params) (name := S "law") (qual := S "law") (params := fParams lwSt) (body := fBody lwSt) (sc := fScope lwSt) (binds := [(S "script", u1)]) (vars := [(S "script", u1)]) (cl := fun L => [(S "r", L + 3), (S "matcher", L + 2), (S "text", L + 1)]) (own := fun L => [(L + 3, Cel .none), (L + 2, Cel .none), (L + 1, Cel .none)])
    hA F hst (by kernel_rfl) (by rfl) (codeRec_of (F.cx.ext F.sub).X (by kernel_rfl)) (kp_binds (F.cx.ext F.sub).X fun S => by kernel_rfl) (by kernel_rfl) (by decide +kernel) (fun L => by kernel_rfl) (by kernel_rfl) (fun L => by kernel_rfl) (by kernel_rfl)
    (.cons r1 .nil) (fun L => .open_ (.open_ (.open_ .nil))) (ow := fun L => [(269, OTab cPos cQual), (281, OTab lPos lQual), (L + 3, Cel0), (L + 2, Cel0), (L + 1, Cel0)]) (fun L => rfl) fun L => ?_
  have hh := hA.handled
  have hR : RmN 8 (fCw pw_ w (K w.params) A s g (S "law") (fScope lwSt) L 284 (.ref 283) [(S "r", L + 3), (S "matcher", L + 2), (S "text", L + 1)] [(269, OTab cPos cQual), (281, OTab lPos lQual)]).A := hA.deeper _
  have hu : A.units + 3 < 9900 := by have := hA.units; (first | lia | omega)
  have hWl' : W.length ≤ 1000000 := by (first | lia | omega)
  refine Ex.body ?_
  walk_at "s"
  refine' x_asgN (d := .str (Ls W)) (Ev.call (fv := .ref 260) ?a1 ?a2 (Fn.fnc hft hR (by (first | lia | omega))) (by kernel_rfl) (by kernel_rfl)) ?a3 ?_ (by kernel_rfl)
  case a1 => walk_at "glob"
  case a2 => walk_at "args"
  case a3 => walk_at "sto"
  walk_at "s"
  refine' x_asgN (d := .int W.length) ?b1 ?b2 ?_ (by kernel_rfl)
  case b1 => walk_at "ev"
  case b2 => walk_at "sto"
  walk_at "s"
  refine' x_asgNW (σ := Addr × Addr) (EvW.conv (o₂ := fun z : Addr × Addr => [(z.2, OInst (smJ w W)), (269, OTab cPos cQual), (281, OTab lPos lQual), (L + 3, Cel0), (L + 2, Cel0), (L + 1, CelD (.str (Ls W)))]) (EvW.callLamW (n := 5) (fv := .ref aSM) (d₀ := .sp jP) (ds := [.str (Ls W), .str (Ls W)]) (fun own => ?c1) (EvW.lamAt (P := 281) (c := 283) (bm := 4) (clos := []) ⟨by kernel_rfl, by kernel_rfl, by kernel_rfl, by kernel_rfl, by kernel_rfl, by kernel_rfl, by decide⟩ ?c2) ?c3 (fn_make3 (fs' := smJ w W) Some_.str Some_.str ?c4 hand_str hand_str (fun x dx => smJ_chain (by (first | lia | omega)))) hR (by (first | lia | omega)) .nil (by kernel_rfl) (by kernel_rfl)) (fun z => rfl)) (fun z => ?c5) (fun z => ?_) ?c6
  case c1 => walk_at "glob"
  case c2 => exact .there .here
  case c3 => walk_at "args"
  case c4 =>
    intro g v r
    cases r using Rep.eSp with
    | sp hP _ => obtain ⟨f, _, _, _, rfl, _⟩ := hP; rfl
  case c5 => walk_at "sto"
  case c6 => kernel_rfl
  obtain ⟨x, dx⟩ := z
  show Ex _ _ ((dx, OInst (smJ w W)) :: [(269, OTab cPos cQual), (281, OTab lPos lQual), (L + 3, Cel0), (L + 2, CelD (.sp (IsInst aSM x dx))), (L + 1, CelD (.str (Ls W)))]) _ _
  walk_at "s"
  refine' x_newList (ds := nD (dueN W 0)) ?d1 (by show 0 ≤ 1000; (first | lia | omega)) (fun ta => ?d2) (fun ta => ?_) (by kernel_rfl)
  case d1 => exact EvArgs.nil
  case d2 => walk_at "sto"
  walk_at "s"
  refine' x_newList (ds := nD (dueN W 0)) ?e1 (by show 0 ≤ 1000; (first | lia | omega)) (fun ua => ?e2) (fun ua => ?_) (by kernel_rfl)
  case e1 => exact EvArgs.nil
  case e2 => walk_at "sto"
  walk_at "s"
  refine' x_for (EvIt.of (d := dRng 1 ((W.length : Int) + 1)) ?f1 (ItD.rng hh (by (first | lia | omega)) (by (first | lia | omega)) (by (first | lia | omega)) (by (first | lia | omega)))) (fun i => [(S "due", .raw (.ref ua)), (S "told", .raw (.ref ta)), (S "size", .int W.length)])
    (fun i => [(ua, OLst (nD (dueN W i))), (ta, OLst (nD (dueN W i))), (dx, OInst (smJ w W)), (269, OTab cPos cQual), (281, OTab lPos lQual), (L + 3, CelAny), (L + 2, CelD (.sp (IsInst aSM x dx))), (L + 1, CelD (.str (Ls W)))]) ?f2 ?f3 (fun s₁ gb hS i d hd => ?turn) ?fin (fun _ => by kernel_rfl)
  case f1 => walk_at "ev"
  case f2 => walk_at "vs"
  case f3 => walk_at "dw"
  case turn =>
    obtain ⟨rfl, hi⟩ : d = .int ((i + 1 : Nat) : Int) ∧ i + 1 ≤ W.length := by
      rw [dInts, List.getElem?_map, Option.map_eq_some_iff] at hd
      obtain ⟨x, hx, rfl⟩ := hd
      rw [rangeI, List.getElem?_map, Option.map_eq_some_iff] at hx
      obtain ⟨k, hk, rfl⟩ := hx
      obtain ⟨h1, h2⟩ := List.getElem?_eq_some_iff.mp hk
      rw [List.getElem_range] at h2
      subst h2
      exact ⟨by rw [show (1 : Int) + (i : Int) = ((i + 1 : Nat) : Int) by (first | lia | omega)], by rw [List.length_range] at h1; (first | lia | omega)⟩
    have hdl := dueN_len (W := W) i
    have hdue : dueN W (i + 1) = if perB W (i + 1) then dueN W i ++ [i + 1] else dueN W i := by conv => lhs; unfold dueN
    rw [hdue]
    clear hdue hd
    generalize dueN W i = dl at hdl ⊢
    generalize hr : i + 1 = r at hi ⊢
    refine' Turn1.mk (Asg.name ?as) ?_
    case as => walk_at "sto"
    refine Ex.cons ?_
    refine' x_asgCompT (xs := [(0, r), (r, 0)]) (ι := fun p : Nat × Nat => .tup [.int p.1, .int p.2]) (tv := fun p => [(S "two", .int p.2), (S "one", .int p.1)]) (p := fun _ => true) (f := fun p => .tup (dInts [(p.1 : Int), (p.2 : Int), (lcpN (fun z => W.getD z 0) W.length p.1 p.2 : Nat)])) (cl := [(S "matcher", L + 2)])
      (EvIt.of (d := .lst [.tup [.int (0 : Nat), .int r], .tup [.int r, .int (0 : Nat)]]) (Ev.list ?g1 (by show 2 ≤ 1000; decide)) (ItD.lst hh)) ⟨fun F s₀ gb b hb => ?g2, fun F s₀ gb b hb => TrAll.nil, fun F s₀ gb b hb hp => ?g3⟩ ?c1 (fun s₀ gb => ?sto) ?_ ?c8 ?c2 ?c3 ?c4 ?c5 ?c7
    case g1 =>
      refine' EvArgs.cons (Ev.tuple ?h1 (by show 2 ≤ 1000; decide)) (EvArgs.cons (Ev.tuple ?h2 (by show 2 ≤ 1000; decide)) EvArgs.nil (by kernel_rfl)) (by kernel_rfl)
      case h1 =>
        refine' EvArgs.cons (Ev.eq Ev.int rfl) (EvArgs.cons ?h3 EvArgs.nil (by kernel_rfl)) (by kernel_rfl)
        case h3 => walk_at "nm"
      case h2 =>
        refine' EvArgs.cons ?h4 (EvArgs.cons (Ev.eq Ev.int rfl) EvArgs.nil (by kernel_rfl)) (by kernel_rfl)
        case h4 => walk_at "nm"
    case g2 =>
      refine' Asg.tup hh rfl (by kernel_rfl) (by kernel_rfl) (AsgAll.name ?h5 (AsgAll.name ?h6 AsgAll.nil))
      case h5 => walk_at "sto"
      case h6 => walk_at "sto"
    case g3 =>
      have hb1 : b.1 ≤ W.length ∧ b.2 ≤ W.length := by
        rcases List.mem_cons.mp hb with rfl | hb
        · exact ⟨Nat.zero_le _, hi⟩
        · rw [List.mem_singleton.mp hb]; exact ⟨hi, Nat.zero_le _⟩
      refine' Ev.call (fv := .type "tuple") ?i1 (EvArgs.cons (Ev.methI (fs := smJ w W) (f := aFlm) (methI rfl (by kernel_rfl) (by kernel_rfl) (by kernel_rfl) (fun P => by kernel_rfl) (fun P => by kernel_rfl) (fun P => by kernel_rfl) (fun P => by kernel_rfl)) (Ev.cellR (c := L + 2) ?i2 ?i3 (by kernel_rfl) (by kernel_rfl) (by kernel_rfl)) (.inr ?i4) (by kernel_rfl) ?i5 (flm_junk (by (first | lia | omega)) hb1.1 hb1.2) hR (by (first | lia | omega)) (by kernel_rfl) (by kernel_rfl)) EvArgs.nil (by kernel_rfl)) (FnC.tupM ⟨rfl, rfl, hR.le (by (first | lia | omega))⟩) (by kernel_rfl) (by kernel_rfl)
      case i1 => walk_at "blt"
      case i2 => walk_at "lu"
      case i3 => exact List.mem_append_left _ (.tail _ (.tail _ (.tail _ (.tail _ (.tail _ (.tail _ (.head _)))))))
      case i4 => exact List.mem_append_left _ (.tail _ (.tail _ (.head _)))
      case i5 =>
        refine' EvArgs.cons ?i6 (EvArgs.cons Ev.none (EvArgs.cons ?i7 (EvArgs.cons Ev.none EvArgs.nil (by kernel_rfl)) (by kernel_rfl)) (by kernel_rfl)) (by kernel_rfl)
        case i6 => walk_at "nm"
        case i7 => walk_at "nm"
    case c1 => show 2 ≤ 1000000; decide
    case sto => walk_at "sto"
    case c2 => kernel_rfl
    case c3 => decide +kernel
    case c4 => kernel_rfl
    case c5 => decide +kernel
    case c7 => intro _; kernel_rfl
    case c8 => kernel_rfl
    have hcm : lcpN (fun z => W.getD z 0) W.length r 0 = lcpN (fun z => W.getD z 0) W.length 0 r := lcpG_comm _ _ _
    show Ex _ [(S "runs", .lst [.tup (dInts [((0 : Nat) : Int), (r : Int), (lcpN (fun z => W.getD z 0) W.length 0 r : Nat)]), .tup (dInts [(r : Int), ((0 : Nat) : Int), (lcpN (fun z => W.getD z 0) W.length r 0 : Nat)])]), (S "due", .raw (.ref ua)), (S "told", .raw (.ref ta)), (S "size", .int W.length)] _ _ _
    refine Ex.cons ?_
    refine' x_ifM (b := perB W r) [(S "due", .raw (.ref ua)), (S "told", .raw (.ref ta)), (S "size", .int W.length)] [(ua, OLst (nD dl)), (ta, OLst (nD (if perB W r then dl ++ [r] else dl))), (dx, OInst (smJ w W)), (269, OTab cPos cQual), (281, OTab lPos lQual), (L + 3, CelD (.int r)), (L + 2, CelD (.sp (IsInst aSM x dx))), (L + 1, CelD (.str (Ls W)))] (Tr.eq (Tr.cmp ?j1 (Ev.list (ds := [.tup (dInts [((0 : Nat) : Int), (r : Int), ((W.length - r : Nat) : Int)]), .tup (dInts [(r : Int), ((0 : Nat) : Int), ((W.length - r : Nat) : Int)])]) ?j2 (by show 2 ≤ 1000; decide)) (Cmp.eqLT2 (x1 := [((0 : Nat) : Int), (r : Int), (lcpN (fun z => W.getD z 0) W.length 0 r : Nat)]) (x2 := [(r : Int), ((0 : Nat) : Int), (lcpN (fun z => W.getD z 0) W.length r 0 : Nat)]) (y1 := [((0 : Nat) : Int), (r : Int), ((W.length - r : Nat) : Int)]) (y2 := [(r : Int), ((0 : Nat) : Int), ((W.length - r : Nat) : Int)]) ?j3 rfl rfl) (by kernel_rfl)) ?j4) (fun hp => ?_) (fun hp g s hs => ?_) ?_
    case j1 => walk_at "nm"
    case j2 =>
      refine' EvArgs.cons (Ev.tuple ?h1 (by show 3 ≤ 1000; decide)) (EvArgs.cons (Ev.tuple ?h2 (by show 3 ≤ 1000; decide)) EvArgs.nil (by kernel_rfl)) (by kernel_rfl)
      case h1 =>
        refine' EvArgs.cons (Ev.eq Ev.int rfl) (EvArgs.cons ?h3 (EvArgs.cons (Ev.eq ?h4 ?h5) EvArgs.nil (by kernel_rfl)) (by kernel_rfl)) (by kernel_rfl)
        case h3 => walk_at "nm"
        case h4 => walk_at "ev"
        case h5 => rw [show (W.length : Int) - (r : Int) = ((W.length - r : Nat) : Int) by (first | lia | omega)]
      case h2 =>
        refine' EvArgs.cons ?h6 (EvArgs.cons (Ev.eq Ev.int rfl) (EvArgs.cons (Ev.eq ?h7 ?h8) EvArgs.nil (by kernel_rfl)) (by kernel_rfl)) (by kernel_rfl)
        case h6 => walk_at "nm"
        case h7 => walk_at "ev"
        case h8 => rw [show (W.length : Int) - (r : Int) = ((W.length - r : Nat) : Int) by (first | lia | omega)]
    case j3 => have := hA.units; show A.units + 3 + 2 < 9900; (first | lia | omega)
    case j4 =>
      rw [hcm]
      unfold perB
      by_cases q : lcpN (fun z => W.getD z 0) W.length 0 r = W.length - r
      · rw [q, decide_eq_true rfl, decide_eq_true rfl, decide_eq_true rfl]; rfl
      · rw [decide_eq_false q, decide_eq_false]
        · rfl
        · intro e
          injection e with _ e
          injection e with _ e
          injection e with e _
          (first | lia | omega)
    · refine Ex.cons ?_
      refine' x_append (a := ta) (ds := nD dl) (d := .int r) ⟨by kernel_rfl, by kernel_rfl, by kernel_rfl, PySem.F.plainAttrs_list, PySem.slot_list_append, by kernel_rfl⟩ ?q1 (.tail _ (.head _)) ?q3 (.there .here) (by rw [List.length_map, List.length_map]; (first | lia | omega)) (Ex.nil fun g s hs => ⟨rfl, g, ?q4⟩) (by kernel_rfl) (by kernel_rfl) (by kernel_rfl)
      case q1 => walk_at "nm"
      case q3 => walk_at "nm"
      case q4 =>
        rw [if_pos hp, nD_snoc]
        refine hs.forget ?_
        walk_at "vs"
    · rw [if_neg (by rw [hp]; simp)]
      refine hs.forget ?_
      walk_at "vs"
    generalize htl : (if perB W r then dl ++ [r] else dl) = tl
    refine Ex.cons ?_
    refine' x_ifM (b := perB W r) [(S "due", .raw (.ref ua)), (S "told", .raw (.ref ta)), (S "size", .int W.length)] [(ua, OLst (nD (if perB W r then dl ++ [r] else dl))), (ta, OLst (nD tl)), (dx, OInst (smJ w W)), (269, OTab cPos cQual), (281, OTab lPos lQual), (L + 3, CelD (.int r)), (L + 2, CelD (.sp (IsInst aSM x dx))), (L + 1, CelD (.str (Ls W)))]
      (Tr.eq (Tr.cmp (Ev.eq (Ev.comp (xs := rangeI 0 ((W.length : Int) - (r : Int))) (ι := D.int) (p := fun z => decide (W.getD z.toNat 0 ≠ W.getD (z.toNat + r) 0)) (f := D.int) (cl := [(S "text", L + 1), (S "r", L + 3)]) (EvIt.of (d := dRng 0 ((W.length : Int) - (r : Int))) ?it (ItD.rng hh (by (first | lia | omega)) (by (first | lia | omega)) (by (first | lia | omega)) (by (first | lia | omega)))) ⟨fun F s₀ gb a ha => TrAll.one (Tr.eq ?t1 ?t2), fun F s₀ gb a ha hp => ?el⟩ ?k1 ?k2 ?k3 ?k4 ?k5 ?k6 ?k7) rfl) (Ev.list EvArgs.nil (Nat.zero_le _)) (Cmp.eqNil ?u) (by kernel_rfl)) ?k8) (fun hp => ?_) (fun hp g s hs => ?_) ?_
    case it => walk_at "ev"
    case t1 =>
      obtain ⟨k, ek, hk⟩ := mem_rangeI2 ha
      have p1 : (0 : Int) ≤ a := by (first | lia | omega)
      have p2 : (0 : Int) ≤ a + (r : Int) := by (first | lia | omega)
      have c1 : W[a.toNat]? = some (W.getD a.toNat 0) := by
        rw [List.getD_eq_getElem?_getD, List.getElem?_eq_getElem (show a.toNat < W.length by (first | lia | omega))]; rfl
      have c2 : W[(a + (r : Int)).toNat]? = some (W.getD (a.toNat + r) 0) := by
        rw [show (a + (r : Int)).toNat = a.toNat + r by (first | lia | omega), List.getD_eq_getElem?_getD, List.getElem?_eq_getElem (show a.toNat + r < W.length by (first | lia | omega))]; rfl
      walk_at "tr"
    case t2 =>
      exact decide_eq_decide.mpr ⟨fun h e => h (congrArg (fun x => [x]) e), fun h e => h (List.cons.inj e).1⟩
    case el => walk_at "ev"
    case k1 => rw [rangeI_len]; (first | lia | omega)
    case k2 => kernel_rfl
    case k3 => decide +kernel
    case k4 => kernel_rfl
    case k5 => decide +kernel
    case k6 => kernel_rfl
    case k7 => intro _; kernel_rfl
    case u => have := hA.units; show A.units + 3 + 1 < 9900; (first | lia | omega)
    case k8 =>
      rw [← perB_all hi]
      unfold rangeI
      rw [show ((W.length : Int) - (r : Int) - 0).toNat = W.length - r by (first | lia | omega)]
      congr 2
      exact List.map_congr_left fun k _ => Int.zero_add _
    · refine Ex.cons ?_
      refine' x_append (a := ua) (ds := nD dl) (d := .int r) ⟨by kernel_rfl, by kernel_rfl, by kernel_rfl, PySem.F.plainAttrs_list, PySem.slot_list_append, by kernel_rfl⟩ ?p1 (.head _) ?p3 .here (by rw [List.length_map, List.length_map]; (first | lia | omega)) (Ex.nil fun g s hs => ⟨rfl, g, ?p4⟩) (by kernel_rfl) (by kernel_rfl) (by kernel_rfl)
      case p1 => walk_at "nm"
      case p3 => walk_at "nm"
      case p4 =>
        rw [if_pos hp, nD_snoc]
        refine hs.forget ?_
        walk_at "vs"
    · rw [if_neg (by rw [hp]; simp)]
      refine hs.forget ?_
      walk_at "vs"
    rw [htl]
    refine Ex.nil ?_
    refine' K.turn () trivial ?r1 ?r2
    case r1 => walk_at "vs"
    case r2 => walk_at "dw"
  case fin =>
    have hdl := dueN_len (W := W) W.length
    rw [show (dInts (rangeI 1 ((W.length : Int) + 1))).length = W.length by rw [List.length_map, rangeI_len]; (first | lia | omega)]
    obtain ⟨q, hq0, hq1, hq2, hq3, hq4⟩ := dueN_head W.length ⟨W.length, (dueN_mem W.length).mpr ⟨hW1, Nat.le_refl _, perB_self W⟩⟩
    have hlast := dueN_last hW1
    have hmem := fun r => dueN_mem (W := W) (r := r) (W.length - 1)
    refine Ex.freeze (vars' := [(S "due", .lst (nD (dueN W W.length))), (S "told", .raw (.ref ta)), (S "size", .int W.length)]) (.here (.keep (.keep .nil))) ?_
    refine Ex.freeze (vars' := [(S "due", .lst (nD (dueN W W.length))), (S "told", .lst (nD (dueN W W.length))), (S "size", .int W.length)]) (.keep (.here (.keep .nil))) ?_
    have hdl2 : (nD (dueN W W.length)).length ≤ 1000000 := by rw [List.length_map, List.length_map]; (first | lia | omega)
    walk_at "s"
    refine' x_if (b := false) (Tr.cmp ?a1 ?a2 (Cmp.neLstI ?a3) (by kernel_rfl)) (fun h => by cases h) (fun _ => Ex.nil (K.cont ?_))
    case a1 => walk_at "nm"
    case a2 => walk_at "nm"
    case a3 => have := hA.units; show A.units + 3 + 1 < 9900; (first | lia | omega)
    walk_at "s"
    refine' x_asgNW (σ := Addr × Addr) (EvW.conv (o₂ := fun z : Addr × Addr => [(z.2, OInst (smP w W ((List.replicate W.length [101]).flatten ++ W))), (dx, OInst (smJ w W)), (269, OTab cPos cQual), (281, OTab lPos lQual), (L + 3, CelAny), (L + 2, CelD (.sp (IsInst aSM x dx))), (L + 1, CelD (.str (Ls W)))]) (EvW.call (n := 5) (fv := .ref aSM) (ds := [.none, .str (Ls W), .str (Ls ((List.replicate W.length [101]).flatten ++ W))]) ?b1 ?b2 (fn_make3 (fs' := smP w W ((List.replicate W.length [101]).flatten ++ W)) Some_.str Some_.str hand_none hand_str hand_str (fun x dx => smP_chain ?b3)) hR (by (first | lia | omega)) .nil (by kernel_rfl) (by kernel_rfl)) (fun z => rfl)) (fun z => ?b4) (fun z => ?_) ?b5
    case b1 => walk_at "glob"
    case b2 =>
      refine' EvArgs.cons Ev.none (EvArgs.cons ?b6 (EvArgs.cons (Ev.bin (Ev.bin (Ev.eq Ev.str ?b7) ?b8 (Bin.mulStr (cs := [101]) (n := W.length) (by simp; (first | lia | omega)) (by (first | lia | omega)) hW1)) ?b9 (Bin.addStr ?b10)) EvArgs.nil (by kernel_rfl)) (by kernel_rfl)) (by kernel_rfl)
      case b6 => walk_at "nm"
      case b7 => kernel_rfl
      case b8 => walk_at "nm"
      case b9 => walk_at "nm"
      case b10 => simp; (first | lia | omega)
    case b3 => simp; (first | lia | omega)
    case b4 => walk_at "sto"
    case b5 => kernel_rfl
    obtain ⟨y, dy⟩ := z
    walk_at "s"
    refine' x_for (EvIt.of (d := .lst (nD ((0 :: dueN W (W.length - 1)).take 3))) (Ev.eq (Ev.slice1 (ds := nD (0 :: dueN W (W.length - 1))) (li := none) (hi' := some ((3 : Nat) : Int)) (EvL.of (Ev.eq (Ev.bin (Ev.list (ds := [.int (0 : Nat)]) ?c1 (by show 1 ≤ 1000; decide)) (Ev.slice1 (ds := nD (dueN W W.length)) (li := none) (hi' := some (-1)) (EvL.of ?c2) EvPart.nil (EvPart.one (Ev.neg Ev.int)) hdl2 ?c3) (Bin.addLst ?c4)) ?c5)) EvPart.nil (EvPart.one (Ev.eq Ev.int rfl)) ?c6 ?c7) ?c8) (ItD.lst hh)) (fun i => [(S "plain", .sp (IsInst aSM y dy)), (S "due", .lst (nD (dueN W W.length))), (S "size", .int W.length)])
      (fun i => [(dy, OInst (smP w W ((List.replicate W.length [101]).flatten ++ W))), (dx, OInst (smJ w W)), (269, OTab cPos cQual), (281, OTab lPos lQual), (L + 3, CelAny), (L + 2, CelD (.sp (IsInst aSM x dx))), (L + 1, CelD (.str (Ls W)))]) ?c9 ?c10 (fun s₁ gb hS i d hd => ?turn2) ?fin2 (fun _ => by kernel_rfl)
    case c1 => exact EvArgs.cons (Ev.eq Ev.int rfl) EvArgs.nil (by kernel_rfl)
    case c2 => walk_at "nm"
    case c3 => intro _ _; kernel_rfl
    case c4 => rw [sl_m1, List.length_take]; show 1 + _ ≤ 1000000; (first | lia | omega)
    case c5 =>
      rw [sl_m1]
      congr 1
      rw [List.length_map, List.length_map]
      show D.int (0 : Nat) :: _ = D.int (0 : Nat) :: nD _
      congr 1
      rw [hlast, nD_snoc]
      simp
    case c6 => have := dueN_len (W := W) (W.length - 1); rw [List.length_map, List.length_map]; simp; (first | lia | omega)
    case c7 => intro _ _; kernel_rfl
    case c8 => rw [sl_b, nD, dInts, ← List.map_take, ← List.map_take]
    case c9 => walk_at "vs"
    case c10 => walk_at "dw"
    case turn2 =>
      obtain ⟨r, rfl, hr, hp⟩ : ∃ r : Nat, d = .int r ∧ r < W.length ∧ Per (fun z => W.getD z 0) W.length r := by
        rw [nD, dInts, List.getElem?_map, List.getElem?_map] at hd
        simp only [Option.map_eq_some_iff] at hd
        obtain ⟨_, ⟨r, hr, rfl⟩, rfl⟩ := hd
        have hm : r ∈ 0 :: dueN W (W.length - 1) := List.mem_of_mem_take (List.mem_of_getElem? hr)
        rcases List.mem_cons.mp hm with rfl | hm
        · exact ⟨0, rfl, hW1, fun p hp => rfl⟩
        · obtain ⟨h1, h2, h3⟩ := (hmem r).mp hm
          exact ⟨r, rfl, by (first | lia | omega), (perB_iff (by (first | lia | omega))).mp h3⟩
      refine' Turn1.mk (Asg.name ?as) ?_
      case as => walk_at "sto"
      refine Ex.cons ?_
      refine' x_if (b := false) (Tr.cmp (Ev.call (fv := .type "tuple") ?u1 (EvArgs.cons (Ev.methI (fs := smP w W ((List.replicate W.length [101]).flatten ++ W)) (f := aFlm) (methI rfl (by kernel_rfl) (by kernel_rfl) (by kernel_rfl) (fun P => by kernel_rfl) (fun P => by kernel_rfl) (fun P => by kernel_rfl) (fun P => by kernel_rfl)) ?u2 (.inl ?u3) (by kernel_rfl) ?u4 (flm_plain (by (first | lia | omega)) hr hWm hp) hR (by (first | lia | omega)) (by kernel_rfl) (by kernel_rfl)) EvArgs.nil (by kernel_rfl)) (FnC.tupM ⟨rfl, rfl, hR.le (by (first | lia | omega))⟩) (by kernel_rfl) (by kernel_rfl))
        (Ev.tuple (ds := [.int r, .int W.length, .int (W.length - r : Nat)]) ?u5 (by show 3 ≤ 1000; decide)) (Cmp.neTupI (as := [(r : Int), (W.length : Int), ((W.length - r : Nat) : Int)]) ?u7) (by kernel_rfl)) (fun h => by cases h) (fun _ => Ex.nil (K.cont ?_))
      case u1 => walk_at "blt"
      case u2 => walk_at "nm"
      case u3 => walk_at "m"
      case u4 => walk_at "args"
      case u5 =>
        refine' EvArgs.cons ?u8 (EvArgs.cons ?u9 (EvArgs.cons (Ev.eq ?u10 ?u11) EvArgs.nil (by kernel_rfl)) (by kernel_rfl)) (by kernel_rfl)
        case u8 => walk_at "nm"
        case u9 => walk_at "nm"
        case u10 => walk_at "ev"
        case u11 => rw [show (W.length : Int) - (r : Int) = ((W.length - r : Nat) : Int) by (first | lia | omega)]
      case u7 => have := hA.units; show A.units + 3 + 1 < 9900; (first | lia | omega)
      refine Ex.nil ?_
      refine' K.turn () trivial ?r1 ?r2
      case r1 => walk_at "vs"
      case r2 => walk_at "dw"
    case fin2 =>
      obtain ⟨l1, l2, l3⟩ := law6 (g := fun z => W.getD z 0) (n := W.length) (q := q) hW1 hq1 ((perB_iff hq2).mp hq3) (fun r h1 h2 h3 => by
        have := hq4 r h1 h2
        rw [(perB_iff (by (first | lia | omega))).mpr h3] at this; cases this)
      generalize hca : cutN (fun z => W.getD z 0) W.length false (W.length - 1) = ca at l1 l2 l3
      generalize hcb : cutN (fun z => W.getD z 0) W.length true (W.length - 1) = cb at l1 l2 l3
      have hmx : FnC (fCw pw_ w (K w.params) A s g (S "law") (fScope lwSt) L 284 (.ref 283) [(S "r", L + 3), (S "matcher", L + 2), (S "text", L + 1)] [(269, OTab cPos cQual), (281, OTab lPos lQual)]) (.builtin "max") [.int ca, .int cb] (.int (max ca cb : Nat)) := by
        have := FnC.max2 (C := fCw pw_ w (K w.params) A s g (S "law") (fScope lwSt) L 284 (.ref 283) [(S "r", L + 3), (S "matcher", L + 2), (S "text", L + 1)] [(269, OTab cPos cQual), (281, OTab lPos lQual)]) (a := (ca : Int)) (b := (cb : Int)) hh
        rwa [show max (ca : Int) (cb : Int) = ((max ca cb : Nat) : Int) by (first | lia | omega)] at this
      have hc1 := fn_cut (w := w) (x := x) (dx := dx) (W := W) (S_ := sJ W) (t := false) smJ_fm (by kernel_rfl) sJ_all (by (first | lia | omega)) hW1
      have hc2 := fn_cut (w := w) (x := x) (dx := dx) (W := W) (S_ := sJ W) (t := true) smJ_fm (by kernel_rfl) sJ_all (by (first | lia | omega)) hW1
      rw [hca] at hc1
      rw [hcb] at hc2
      generalize max ca cb = cut at l1 l2 l3 hmx
      refine Ex.weakO (own' := [(dx, OInst (smJ w W)), (269, OTab cPos cQual), (281, OTab lPos lQual), (L + 3, CelAny), (L + 2, CelD (.sp (IsInst aSM x dx))), (L + 1, CelD (.str (Ls W)))]) (.drop (DW.rfl_ _)) ?_
      walk_at "s"
      refine' x_asgNW (σ := Unit) (dd := fun _ => .int cut) (own' := fun _ => [(dx, OInst (smJ w W)), (269, OTab cPos cQual), (281, OTab lPos lQual), (L + 3, CelAny), (L + 2, CelD (.sp (IsInst aSM x dx))), (L + 1, CelD (.str (Ls W)))]) (EvW.call2W (d₁ := .int ca) (d₂ := .int cb) (fun own => ?w1) (EvW.conv (EvW.call (n := 8) (fv := .ref 274) (ds := [.sp (IsInst aSM x dx), .str (Ls W), .bool false]) ?w2 ?w3 hc1 hR (Nat.le_refl _) (.cons .here (.cons .here .nil)) (by kernel_rfl) (by kernel_rfl)) (fun z => rfl)) (EvW.conv (EvW.call (n := 8) (fv := .ref 274) (ds := [.sp (IsInst aSM x dx), .str (Ls W), .bool true]) ?w4 ?w5 hc2 hR (Nat.le_refl _) (.cons .here (.cons .here .nil)) (by kernel_rfl) (by kernel_rfl)) (fun z => rfl)) hmx (by kernel_rfl) (by kernel_rfl) (by kernel_rfl)) (fun z => ?w6) (fun z => ?_) ?w7
      case w1 => walk_at "blt"
      case w2 => walk_at "glob"
      case w3 => walk_at "args"
      case w4 => walk_at "glob"
      case w5 => walk_at "args"
      case w6 => walk_at "sto"
      case w7 => kernel_rfl
      walk_at "s"
      refine' x_retW () (Ev.eq (Ev.and2 (b := true) (c := true) (Ev.eq (Ev.cmp ?v1 (Ev.itemL (i := ((0 : Nat) : Int)) (d := .int q) (EvL.of ?v2) (Ev.eq Ev.int rfl) (by (first | lia | omega)) ?v3 hdl2 ?v4) Cmp.lt (by kernel_rfl)) ?v5) (fun _ => Ev.eq (Ev.cmp (Ev.call (fv := .ref 279) ?v6 ?v7 (Fn.fnc (fn_about (W := W) (cut := cut) (q := q) (by (first | lia | omega)) (by (first | lia | omega)) hq1 hq2 l2 l3) hR (by (first | lia | omega))) (by kernel_rfl) (by kernel_rfl)) (Ev.itemL (i := ((0 : Nat) : Int)) (d := .int q) (EvL.of ?v8) (Ev.eq Ev.int rfl) (by (first | lia | omega)) ?v9 hdl2 ?v10) Cmp.eq (by kernel_rfl)) ?v11)) rfl) ?v12 (fun _ _ h => h)
      case v1 => walk_at "nm"
      case v2 => walk_at "nm"
      case v3 => rw [nD, dInts, Int.toNat_natCast, List.getElem?_map, List.getElem?_map, hq0]; rfl
      case v4 => intro _ _; kernel_rfl
      case v5 => rw [decide_eq_true (by (first | lia | omega))]
      case v6 => walk_at "glob"
      case v7 => walk_at "args"
      case v8 => walk_at "nm"
      case v9 => rw [nD, dInts, Int.toNat_natCast, List.getElem?_map, List.getElem?_map, hq0]; rfl
      case v10 => intro _ _; kernel_rfl
      case v11 => rw [decide_eq_true rfl]
      case v12 => exact .drop (.same (.same .nil))
end
section
theorem get269 (P : Params) : (heapZ P).get? 269 = some (tabObj #[]) := by
  have h2 : (treeZ P).get 269 = some (tabObj #[]) := by kernel_rfl
  rw [heapZ_tree]
  exact (abs_get (by decide) h2).trans (by kernel_rfl)
theorem get281 (P : Params) : (heapZ P).get? 281 = some (tabObj #[]) := by
  have h2 : (treeZ P).get 281 = some (tabObj #[]) := by kernel_rfl
  rw [heapZ_tree]
  exact (abs_get (by decide) h2).trans (by kernel_rfl)
noncomputable def hook2 : Hook := ⟨Heap, fun s => s.heap, fun w => heapZ w.params, fun w h => (K w.params).In h ∧ h.get? 269 = some (tabObj #[]) ∧ h.get? 281 = some (tabObj #[]), fun w s e => by have e' : s.heap = heapZ w.params := e; rw [e']; exact ⟨K_in _, get269 _, get281 _⟩, fun w h h' x k => ⟨Frag.In.keeps x.1 k, k _ _ x.2.1, k _ _ x.2.2⟩⟩
theorem hl2 : LeftO pw_ q loose Xt hook2.obs hook2.val 4754 := hl
theorem hd2 (walk : WalkO q loose (XL q []) hook2.says lawR dLaw [] fun f vs => PySem.call f vs) : PySem.Challenge.rw_mu0006_06.Holds := by
  w_on
  refine holds_law (by kernel_rfl) fun said => ?_
  refine holds_open (q := q) (loose := loose) (Xt := Xt) (XP := XL q []) (Yf := hook2.obs) (Ya := hook2.val) (YP := hook2.says) (d := dLaw) (kwd := []) (N := 4754) hl2 hook2.of hook2.keeps (fun s e => xl_of s (Bool.and_eq_true_iff.mp e).1) XL.keeps (by kernel_rfl) (by kernel_rfl) (by kernel_rfl) (fun s e => recFacts_of (Bool.and_eq_true_iff.mp e).2) (by rfl) (by first | assumption | decide +kernel) (by decide +kernel) ⟨rfl, rfl, rfl, rfl, rfl, by decide +kernel⟩ ?hw walk
  case hw => w_witness2
theorem ints_of {R : WRecords} : ∀ {xs : List WData}, WShape.hasItems R xs .int = true → ∃ ns : List Int, xs = ns.map WData.int
  | [], _ => ⟨[], rfl⟩
  | x :: r, h => by
    rw [WShape.hasItems, Bool.and_eq_true] at h
    obtain ⟨ns, rfl⟩ := ints_of h.2
    have h1 := h.1
    cases x <;> first | exact ⟨_ :: ns, rfl⟩ | (have h3 : false = true := h1; cases h3)
theorem args_of {args : List WData} (h : lawR.claim.pre args = true) : ∃ ns : List Int, args = [.list (ns.map WData.int)] ∧ ns.length ≤ 63 := by
  have h' := Bool.and_eq_true_iff.mp h
  obtain ⟨h1, h2⟩ := h'
  have h1 : WShape.hasAll [] args [.list .int] = true := h1
  cases args with
  | nil => have h3 : false = true := h1; cases h3
  | cons x r =>
    rw [WShape.hasAll, Bool.and_eq_true] at h1
    obtain ⟨h3, h4⟩ := h1
    cases r with
    | cons y r => have h5 : false = true := h4; cases h5
    | nil =>
      have h6 : ∃ xs, x = .list xs ∧ WShape.hasItems ([] : WRecords) xs .int = true := by
        cases x <;> first | exact ⟨_, rfl, (Bool.or_false _).symm.trans h3⟩ | (have h5 : false = true := h3; cases h5)
      obtain ⟨xs, rfl, h7⟩ := h6
      obtain ⟨ns, rfl⟩ := ints_of h7
      refine ⟨ns, rfl, ?_⟩
      have h5 : WTm.holds [] (.not (.lt (.lit (.int (63 : Nat))) (.len (.arg 0)))) { args := [.list (ns.map WData.int)] } = true := (holds_andW h2).1
      rcases Nat.lt_or_ge 63 ns.length with q | q
      · exfalso
        have q' : (63 : Int) < (ns.length : Int) := by (first | lia | omega)
        have e : Num.less? (.int 63) (.int (ns.length : Int)) = some true := by
          show some (decide ((63 : Int) < (ns.length : Int))) = some true
          rw [decide_eq_true q']
        simp [WTm.holds, WTm.value, less?, e] at h5
      · exact q
end
section
theorem well_ints {P : Params} {h : Heap} : ∀ {ns : List Int} {vs : List Value}, WellAll P h vs (ns.map WData.int) → ∀ g, Reps g vs (dInts ns)
  | [], _, .nil, g => .nil
  | n :: ns, _, .cons (v := v) a b, g => by
    cases a
    exact .cons (.int _ _) (well_ints b g)
theorem hide_getL {as : List Addr} {b : Addr} {h : Heap} {o : Obj} (e : h.get? b = some o) (hn : b ∉ as) : (hide as h).get? b = some o := by
  rw [get?_hide, if_neg (by simpa using hn)]; exact e
theorem ns_hideL {as : List Addr} {b : Addr} {h : Heap} {m : PySem.Str → Option Value} (N : h.Ns b m) (hn : b ∉ as) : (hide as h).Ns b m := by
  obtain ⟨o, es, ep, e, r⟩ := N
  exact ⟨o, es, ep, hide_getL e hn, r⟩
theorem K_269 (P : Params) : (K P).lookup 269 = none := by kernel_rfl
theorem K_281 (P : Params) : (K P).lookup 281 = none := by kernel_rfl
noncomputable abbrev codeTab (o : Option Obj) : Option (Value × Option Value) := o.map fun o => (o.cls, match o.data with | .fields vs => vs[11]? | _ => none)
theorem code_273 (P : Params) : codeTab ((K P).lookup 273) = some (.type "code", some (.ref 269)) := by kernel_rfl
theorem code_283 (P : Params) : codeTab ((K P).lookup 283) = some (.type "code", some (.ref 281)) := by kernel_rfl
theorem table_of {P : Params} {h : Heap} {c t : Addr} (X : (K P).In h) (e : h.get? t = some (tabObj #[])) (h1 : codeTab ((K P).lookup c) = some (.type "code", some (.ref t))) : h.TableAt c t #[] := by
  cases q : (K P).lookup c with
  | none => rw [q] at h1; cases h1
  | some o =>
    rw [q] at h1
    have h2 := Option.some.inj h1
    have h3 := Prod.mk.inj h2
    refine ⟨⟨o, ?_⟩, e⟩
    cases hd : o.data with
    | fields vs =>
      have h4 := h3.2
      rw [hd] at h4
      exact ⟨vs, X _ _ q, h3.1, rfl, h4⟩
    | _ => have h4 := h3.2; rw [hd] at h4; cases h4
theorem fn_law' {w : World} {ns : List Int} (hn : ns.length ≤ 63) : FnW pw_ w (K w.params) 9 (.ref 284) [.lst (dInts ns)] [(269, OTab cPos cQual), (281, OTab lPos lQual)] (fun _ : Unit => [(269, OTab cPos cQual), (281, OTab lPos lQual)]) (fun _ => .bool true) := by
  obtain ⟨hk0, hk2, hk4⟩ := kN_eq ns
  have hl : (letsOf (kN ns) (min ns.length 22) (σ22 ns)).length ≤ 22 := by unfold letsOf; rw [List.length_map, List.length_range]; (first | lia | omega)
  have h1 := text6_len (letsOf (kN ns) (min ns.length 22) (σ22 ns)) ns.sum
  have h2 := word6_len (letsOf (kN ns) (min ns.length 22) (σ22 ns))
  have h3 := (cut6_eq (letsOf (kN ns) (min ns.length 22) (σ22 ns)) ns.sum).2
  exact fn_law hn rfl (by (first | lia | omega)) (by (first | lia | omega)) fun c hc => (text6_mem (fun c hc => letsOf_mem (by (first | lia | omega)) (by (first | lia | omega)) hc) hc).2
theorem roomA : RmN 9 callerA := ⟨rfl, by decide, by decide⟩
theorem walk : WalkO q loose (XL q []) hook2.says lawR dLaw [] fun f vs => PySem.call f vs := by
  intro w s₀ s₁ mg mb G hK a o pm cd doc dV kV ha hdata hcr hdf hmg hgens args vals as hpre hlay hr hwell has
  obtain ⟨X, h269, h281⟩ := hK
  obtain ⟨ns, rfl, hns⟩ := args_of hpre
  have hT := topRead_of G.T
  have hlaw : mg (S "law") = some (.ref 284) := mg_of X hT.g (by kernel_rfl)
  obtain rfl : a = 284 := by
    have e : mg (S "law") = some (.ref a) := hmg
    rw [hlaw] at e
    exact (Value.ref.inj (Option.some.inj e)).symm
  have hno : ∀ b ob, (K w.params).lookup b = some ob → b ∉ [269, 281] := fun b ob e hm => by
    simp only [List.mem_cons, List.not_mem_nil, or_false] at hm
    rcases hm with rfl | rfl
    · rw [K_269] at e; cases e
    · rw [K_281] at e; cases e
  have hX : (K w.params).In (hide [269, 281] s₁.heap) := fun b ob e => hide_getL (X _ _ e) (hno b ob e)
  have F : Fz (K w.params) (hide [269, 281] s₁.heap) s₁ := by
    refine ⟨hide_ext, hX, q, looseW q loose, mg, mb, ?_⟩
    obtain ⟨mc, N, e⟩ := hT.nolimit
    exact ⟨ns_hideL hT.g (by decide), ns_hideL hT.b (by decide), ⟨mc, ns_hideL N (by decide), e⟩, hT.builtins, hT.free⟩
  have r : Reps (hide [269, 281] s₁.heap) vals [.lst (dInts ns)] := by
    cases hwell with
    | cons hv hrest =>
      cases hrest
      cases hv with
      | @list la vs xs e hall =>
        refine .cons (.lst ⟨0, hide_getL e fun h => ?_⟩ (well_ints hall _)) .nil
        simp only [List.mem_cons, List.not_mem_nil, or_false] at h
        rcases h with h | h
        · rw [h, h269] at e; cases e
        · rw [h, h281] at e; cases e
  have st : Stand [(269, OTab cPos cQual), (281, OTab lPos lQual)] (hide [269, 281] s₁.heap) s₁ := by
    refine ⟨fun p hp => ?_, by decide⟩
    rcases List.mem_cons.mp hp with rfl | hp
    · exact ⟨⟨_, h269, .inl rfl⟩, by rw [get?_hide, if_pos (by decide)], OTab.mono⟩
    · obtain rfl := List.mem_singleton.mp hp
      exact ⟨⟨_, h281, .inl rfl⟩, by rw [get?_hide, if_pos (by decide)], OTab.mono⟩
  have h := fn_law' (w := w) hns callerA roomA _ s₁ vals F r st
  refine wpAny_call (codeAny_mono h fun res s' hres => ?_)
  rcases res with e | (v | _ | _ | _) <;> first | exact hres.elim | skip
  obtain ⟨z, g', af, rv⟩ := hres
  cases rv
  have hk := keepsExt af.gr.keeps
  have hrr := keepsRest af.gr.keeps
  obtain ⟨⟨o1, h1, h2⟩, _⟩ := af.st.at_ _ (.head _)
  obtain ⟨⟨o2, h3, h4⟩, _⟩ := af.st.at_ _ (.tail _ (.head _))
  have hold : ∀ b ob, s₁.heap.get? b = some ob → b ∉ [269, 281] → s'.heap.get? b = some ob := fun b ob e hb => hk _ _ (hide_getL e hb)
  have ht1 := table_of X h269 (code_273 _)
  have ht2 := table_of X h281 (code_283 _)
  have hgs : s'.gens = s₁.gens := hrr.1
  refine ⟨.inl ⟨.bool true, .bool true, [], rfl, fun _ => rfl, .bool true, ?_, fun _ => ⟨List.nodup_nil, fun _ hm => (nomatch hm)⟩⟩, ⟨fun b ob e => ?_, fun b ob e => ?_⟩, hrr.2.2, ?_⟩
  · wrow_post
  · by_cases hb : b = 269
    · subst hb
      rw [h269] at e
      cases e
      rcases h2 with h2 | ⟨c', h2, _⟩
      · exact .inl (by rw [h1, h2])
      · exact .inr (.inl ⟨ht1.isCodeTable, rfl, #[], #[rawInt cPos.line, rawInt cPos.col, .ref c'], rfl, by rw [h1, h2, Array.empty_append]⟩)
    · by_cases hb2 : b = 281
      · subst hb2
        rw [h281] at e
        cases e
        rcases h4 with h4 | ⟨c', h4, _⟩
        · exact .inl (by rw [h3, h4])
        · exact .inr (.inl ⟨ht2.isCodeTable, rfl, #[], #[rawInt lPos.line, rawInt lPos.col, .ref c'], rfl, by rw [h3, h4, Array.empty_append]⟩)
      · exact .inl (hold b ob e (by simp [hb, hb2]))
  · by_cases hb : b = 269
    · subst hb; exact ⟨_, h1⟩
    · by_cases hb2 : b = 281
      · subst hb2; exact ⟨_, h3⟩
      · exact ⟨_, hold b ob e (by simp [hb, hb2])⟩
  · rw [hgs]; exact AllBare.of_eq hgens
theorem holds : PySem.Challenge.rw_mu0006_06.Holds := hd2 walk
end
end Mine
end
theorem PySem.Challenge.cw_mu0006_06_holds : PySem.Challenge.rw_mu0006_06.Holds :=
  Mine.holds
