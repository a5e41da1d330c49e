import PyProof.Rows.All
import Wide.All
import OpenK.AllK
import Wide.FinOn
import PySem.Challenge.RW_rs0102_01
set_option Elab.async false
set_option linter.all false
noncomputable section
set_option Elab.async false
namespace Mine
open PySem PySem.W PySem.Calls PyProof.Rows
/-- A Python value as a tree. -/
inductive T where
  | unb
  | none
  | bool (b : Bool)
  | int (i : Int)
  | str (l : List Nat)
  | tup (l : List T)
  | lst (l : List T)
  | rng (lo hi : Int)
  | inst (l : List T)
/-- What stays the same for a whole law: the program, the world, the known part of the heap, the class. -/
structure Cx where
  prog : Program
  w : World
  K : Frag
  C : Addr
  flds : List Str
  p : Program
  loose : List Str
  mg : Str → Option Value
  mb : Str → Option Value
  h₀ : Heap
  kin : K.In h₀
  top : TopRead p loose mg mb h₀
  nolim : h₀.NoLimit
noncomputable def Kp (h h' : Heap) : Prop := ∀ b o, h.get? b = some o → h'.get? b = some o
theorem Kp.refl (h : Heap) : Kp h h := fun _ _ e => e
theorem Kp.trans {h h' h'' : Heap} (x : Kp h h') (y : Kp h' h'') : Kp h h'' := fun b o e => y b o (x b o e)
theorem Kp.push (h : Heap) (o : Obj) : Kp h (h.push o) := fun _ _ e => Heap.get?_push_of_some o e
theorem Kp.fresh {h h' : Heap} (x : Kp h h') {b : Addr} (e : h'.get? b = none) : h.get? b = none := by
  cases q : h.get? b with
  | none => rfl
  | some o => rw [x b o q] at e; cases e
/-- the entries of an instance's table: the class's fields, as many as there are values -/
noncomputable def Ents (P : Params) : List Str → List Value → List DictEntry → Prop
  | _, [], es => es = []
  | [], _ :: _, _ => False
  | f :: fs, v :: vs, es => ∃ t es', es = ⟨PyData.keyHash P f, .str f t, v⟩ :: es' ∧ Ents P fs vs es'
noncomputable def lstObj (vs : List Value) (k : Nat) : Obj := { cls := .type "list", data := .seq vs.toArray k }
noncomputable def tupObj (vs : List Value) (k : Nat) : Obj := { cls := .type "tuple", data := .seq vs.toArray k }
mutual
noncomputable def R (X : Cx) (P : Addr → Prop) (h : Heap) : T → Value → Prop
  | .unb, _ => True
  | .none, v => v = .none
  | .bool b, v => v = .bool b
  | .int i, v => ∃ k, v = .int i k
  | .str l, v => ∃ k, v = .str ⟨l.toArray⟩ k
  | .tup l, v => ∃ a vs k, v = .ref a ∧ P a ∧ h.get? a = some (tupObj vs k) ∧ RL X P h l vs
  | .lst l, v => ∃ a vs k, v = .ref a ∧ P a ∧ h.get? a = some (lstObj vs k) ∧ RL X P h l vs
  | .rng lo hi, v => ∃ a t u z, v = .ref a ∧ P a ∧ IsRange h a lo hi 1 t u z
  | .inst l, v => ∃ a d vs es n, v = .ref a ∧ P a ∧ P d ∧ h.get? a = some (instObj X.C d) ∧ h.get? d = some (dictOf es n) ∧ Ents X.w.params X.flds vs es ∧ RL X P h l vs
noncomputable def RL (X : Cx) (P : Addr → Prop) (h : Heap) : List T → List Value → Prop
  | [], vs => vs = []
  | t :: ts, vs => ∃ v vs', vs = v :: vs' ∧ R X P h t v ∧ RL X P h ts vs'
end
mutual
theorem R.mono {X : Cx} {P P' : Addr → Prop} {h h' : Heap} (hp : ∀ b o, P b → h.get? b = some o → P' b) (hk : ∀ b o, P b → h.get? b = some o → h'.get? b = some o) : ∀ (t : T) {v : Value}, R X P h t v → R X P' h' t v
  | .unb, _, _ => by simp [R]
  | .none, _, x => by simpa [R] using x
  | .bool _, _, x => by simpa [R] using x
  | .int _, _, x => by simpa [R] using x
  | .str _, _, x => by simpa [R] using x
  | .tup l, v, x => by
    simp only [R] at x ⊢
    obtain ⟨a, vs, k, e, pa, g, r⟩ := x
    exact ⟨a, vs, k, e, hp _ _ pa g, hk _ _ pa g, RL.mono hp hk l r⟩
  | .lst l, v, x => by
    simp only [R] at x ⊢
    obtain ⟨a, vs, k, e, pa, g, r⟩ := x
    exact ⟨a, vs, k, e, hp _ _ pa g, hk _ _ pa g, RL.mono hp hk l r⟩
  | .rng _ _, v, x => by
    simp only [R] at x ⊢
    obtain ⟨a, t, u, z, e, pa, g⟩ := x
    exact ⟨a, t, u, z, e, hp _ _ pa g, hk _ _ pa g⟩
  | .inst l, v, x => by
    simp only [R] at x ⊢
    obtain ⟨a, d, vs, es, n, e, pa, pd, g1, g2, g3, r⟩ := x
    exact ⟨a, d, vs, es, n, e, hp _ _ pa g1, hp _ _ pd g2, hk _ _ pa g1, hk _ _ pd g2, g3, RL.mono hp hk l r⟩
theorem RL.mono {X : Cx} {P P' : Addr → Prop} {h h' : Heap} (hp : ∀ b o, P b → h.get? b = some o → P' b) (hk : ∀ b o, P b → h.get? b = some o → h'.get? b = some o) : ∀ (l : List T) {vs : List Value}, RL X P h l vs → RL X P' h' l vs
  | [], _, x => by simpa [RL] using x
  | t :: ts, vs, x => by
    simp only [RL] at x ⊢
    obtain ⟨v, vs', e, r, r'⟩ := x
    exact ⟨v, vs', e, R.mono hp hk t r, RL.mono hp hk ts r'⟩
end
theorem R.keeps {X : Cx} {P : Addr → Prop} {h h' : Heap} {t : T} {v : Value} (x : R X P h t v) (hk : Kp h h') : R X P h' t v := R.mono (fun _ _ p _ => p) (fun b o _ e => hk b o e) t x
theorem RL.keeps {X : Cx} {P : Addr → Prop} {h h' : Heap} {l : List T} {vs : List Value} (x : RL X P h l vs) (hk : Kp h h') : RL X P h' l vs := RL.mono (fun _ _ p _ => p) (fun b o _ e => hk b o e) l x
theorem R.weak {X : Cx} {P P' : Addr → Prop} {h : Heap} {t : T} {v : Value} (x : R X P h t v) (hp : ∀ b, P b → P' b) : R X P' h t v := R.mono (fun _ _ p _ => hp _ p) (fun _ _ _ e => e) t x
theorem RL.length {X : Cx} {P : Addr → Prop} {h : Heap} : ∀ {l : List T} {vs : List Value}, RL X P h l vs → vs.length = l.length
  | [], _, x => by simp only [RL] at x; subst x; rfl
  | _ :: _, _, x => by
    simp only [RL] at x
    obtain ⟨v, vs', rfl, _, r⟩ := x
    simp [RL.length r]
theorem RL.get {X : Cx} {P : Addr → Prop} {h : Heap} : ∀ {l : List T} {vs : List Value} {i : Nat} {t : T}, RL X P h l vs → l[i]? = some t → ∃ v, vs[i]? = some v ∧ R X P h t v
  | [], _, _, _, _, e => by simp at e
  | _ :: _, _, i, _, x, e => by
    simp only [RL] at x
    obtain ⟨v, vs', rfl, r, r'⟩ := x
    cases i with
    | zero => simp at e; subst e; exact ⟨v, rfl, r⟩
    | succ i => simpa using RL.get r' (by simpa using e)
theorem RL.append {X : Cx} {P : Addr → Prop} {h : Heap} : ∀ {l l' : List T} {vs vs' : List Value}, RL X P h l vs → RL X P h l' vs' → RL X P h (l ++ l') (vs ++ vs')
  | [], _, _, _, x, y => by simp only [RL] at x; subst x; exact y
  | _ :: _, _, _, _, x, y => by
    simp only [RL] at x
    obtain ⟨v, vs', rfl, r, r'⟩ := x
    simp only [List.cons_append, RL]
    exact ⟨v, _, rfl, r, RL.append r' y⟩
theorem RL.nil {X : Cx} {P : Addr → Prop} {h : Heap} : RL X P h [] [] := by simp [RL]
theorem RL.cons {X : Cx} {P : Addr → Prop} {h : Heap} {t : T} {v : Value} {l : List T} {vs : List Value} (r : R X P h t v) (x : RL X P h l vs) : RL X P h (t :: l) (v :: vs) := by
  simp only [RL]; exact ⟨v, vs, rfl, r, x⟩
theorem RL.one {X : Cx} {P : Addr → Prop} {h : Heap} {t : T} {v : Value} (r : R X P h t v) : RL X P h [t] [v] := .cons r .nil
theorem RL.set {X : Cx} {P : Addr → Prop} {h : Heap} {t : T} {v : Value} (r : R X P h t v) : ∀ {l : List T} {vs : List Value} (i : Nat), RL X P h l vs → RL X P h (l.set i t) (vs.set i v)
  | [], _, _, x => by simp only [RL] at x; subst x; exact .nil
  | _ :: _, _, 0, x => by
    simp only [RL] at x
    obtain ⟨v', vs', rfl, _, r'⟩ := x
    exact .cons r r'
  | _ :: _, _, i + 1, x => by
    simp only [RL] at x
    obtain ⟨v', vs', rfl, q, r'⟩ := x
    exact .cons q (RL.set r i r')
theorem RL.take {X : Cx} {P : Addr → Prop} {h : Heap} : ∀ {l : List T} {vs : List Value} (i : Nat), RL X P h l vs → RL X P h (l.take i) (vs.take i)
  | [], _, _, x => by simp only [RL] at x; subst x; simp [RL]
  | _ :: _, _, 0, _ => by simp [RL]
  | _ :: _, _, i + 1, x => by
    simp only [RL] at x
    obtain ⟨v', vs', rfl, q, r'⟩ := x
    exact .cons q (RL.take i r')
theorem RL.drop {X : Cx} {P : Addr → Prop} {h : Heap} : ∀ {l : List T} {vs : List Value} (i : Nat), RL X P h l vs → RL X P h (l.drop i) (vs.drop i)
  | [], _, _, x => by simp only [RL] at x; subst x; simp [RL]
  | _ :: _, _, 0, x => x
  | _ :: _, _, i + 1, x => by
    simp only [RL] at x
    obtain ⟨v', vs', rfl, q, r'⟩ := x
    exact RL.drop i r'
theorem RL.reverse {X : Cx} {P : Addr → Prop} {h : Heap} : ∀ {l : List T} {vs : List Value}, RL X P h l vs → RL X P h l.reverse vs.reverse
  | [], _, x => by simp only [RL] at x; subst x; simp [RL]
  | _ :: _, _, x => by
    simp only [RL] at x
    obtain ⟨v', vs', rfl, q, r'⟩ := x
    simp only [List.reverse_cons]
    exact (RL.reverse r').append (.one q)
end Mine
end
noncomputable section
set_option Elab.async false
set_option linter.unusedVariables false
namespace Mine
open PySem PySem.W PySem.Calls PyProof.Rows
inductive Mode where
  | fro | own | self
  deriving DecidableEq
structure VarD where
  name : Str
  slot : Nat
  cell : Bool := false
  st : Bool := true
  mode : Mode := .fro
structure Sc where
  vars : List VarD
  globs : List Str
structure Scoped (sc : Sc) (env : Env) : Prop where
  kind : env.scope.kind = .function
  loc : ∀ d ∈ sc.vars, d.cell = false → env.kindOf d.name = some .local
  cel : ∀ d ∈ sc.vars, d.cell = true → env.kindOf d.name = some .cell
  nodbg : ∀ d ∈ sc.vars, (d.name == ("__debug__" : Str)) = false
  names : ∀ d ∈ sc.vars, ∀ d' ∈ sc.vars, d.name = d'.name → d = d'
  slots : ∀ d ∈ sc.vars, ∀ d' ∈ sc.vars, d.slot = d'.slot → d = d'
  apart : ∀ n n' c, env.cells.lookup n = some c → env.cells.lookup n' = some c → n = n'
  glob : env.globals = mainGlobals
  blt : env.builtins = builtinsNs
  gkind : ∀ x ∈ sc.globs, env.kindOf x = some .globalImplicit ∧ (x == ("__debug__" : Str)) = false ∧ x ≠ "__name__"
structure Room (A : Around) (d : Nat) : Prop where
  handled : A.handled = none
  depth : A.depth + 4 * d ≤ recursionLimit
  units : A.units + 20 * d + 200 < cLine
noncomputable def Pm (P₀ : Addr → Prop) (μ : List Addr) : Addr → Prop := fun b => P₀ b ∧ b ∉ μ
noncomputable def Has (env : Env) (h : Heap) (d : VarD) (v : Value) : Prop :=
  match d.cell with
  | true => ∃ c, env.cells.lookup d.name = some c ∧ h.IsCell c (some v)
  | false => ∃ m, h.Ns env.locals m ∧ m d.name = some v
noncomputable def Mod (X : Cx) (P : Addr → Prop) (L : Addr) (h : Heap) (μ : List Addr) : Mode → T → Value → Prop
  | .fro, t, v => R X P h t v
  | .own, t, v => ∃ ts a vs k, t = .lst ts ∧ v = .ref a ∧ a ∈ μ ∧ h.get? a = some (lstObj vs k) ∧ RL X P h ts vs
  | .self, t, v => ∃ ts a d vs es n, t = .inst ts ∧ v = .ref a ∧ P a ∧ d ∈ μ ∧ (d ≠ L ∧ @Eq Nat (a + 1) L) ∧ h.get? a = some (instObj X.C d) ∧ h.get? d = some (dictOf es n) ∧ Ents X.w.params X.flds vs es ∧ RL X P h ts vs
structure Rel (X : Cx) (sc : Sc) (env : Env) (P₀ : Addr → Prop) (g : Heap) (σ : List T) (h : Heap) (μ : List Addr) (val : Nat → Value) : Prop where
  base : Kp X.h₀ g
  above : X.h₀.objs.size ≤ env.locals
  keep : Kp g h
  fresh : ∀ b ∈ μ, g.get? b = none
  free : ∀ b, h.get? b = none → P₀ b
  live : ∀ b ∈ μ, ∃ o, h.get? b = some o
  mine : ∀ b ∈ μ, P₀ b
  lin : env.locals ∈ μ
  ns : ∃ m, h.Ns env.locals m
  cells : ∀ d ∈ sc.vars, d.cell = true → ∃ c ov, env.cells.lookup d.name = some c ∧ h.IsCell c ov ∧ (d.st = true → c ∈ μ)
  var : ∀ d ∈ sc.vars, ∀ t, σ[d.slot]? = some t → t ≠ .unb → Has env h d (val d.slot) ∧ Mod X (Pm P₀ μ) env.locals h μ d.mode t (val d.slot)
  apart : ∀ d ∈ sc.vars, ∀ d' ∈ sc.vars, d.mode = .own → d'.mode = .own → d.slot ≠ d'.slot → ∀ t t', σ[d.slot]? = some t → t ≠ .unb → σ[d'.slot]? = some t' → t' ≠ .unb → val d.slot ≠ val d'.slot
theorem Has.keeps {env : Env} {h h' : Heap} {d : VarD} {v : Value} (x : Has env h d v) (hk : Kp h h') : Has env h' d v := by
  unfold Has at x ⊢
  split at x
  · obtain ⟨c, e, i⟩ := x; exact ⟨c, e, i.keeps hk⟩
  · obtain ⟨m, n, e⟩ := x; exact ⟨m, n.keeps hk, e⟩
theorem Mod.keeps {X : Cx} {P : Addr → Prop} {L : Addr} {h h' : Heap} {μ : List Addr} {m : Mode} {t : T} {v : Value} (x : Mod X P L h μ m t v) (hk : Kp h h') : Mod X P L h' μ m t v := by
  cases m with
  | fro => exact R.keeps x hk
  | own => obtain ⟨ts, a, vs, k, e1, e2, e3, e4, e5⟩ := x; exact ⟨ts, a, vs, k, e1, e2, e3, hk _ _ e4, e5.keeps hk⟩
  | self => obtain ⟨ts, a, d, vs, es, n, e1, e2, e3, e4, e5, e6, e7, e8, e9⟩ := x; exact ⟨ts, a, d, vs, es, n, e1, e2, e3, e4, e5, hk _ _ e6, hk _ _ e7, e8, e9.keeps hk⟩
section
variable {X : Cx} {sc : Sc} {env : Env} {P₀ : Addr → Prop} {g h h' : Heap} {σ : List T} {μ : List Addr} {val : Nat → Value}
theorem Rel.keeps (x : Rel X sc env P₀ g σ h μ val) (hk : Kp h h') : Rel X sc env P₀ g σ h' μ val where
  base := x.base
  above := x.above
  keep := x.keep.trans hk
  fresh := x.fresh
  free := fun b e => x.free b (hk.fresh e)
  live := fun b hb => let ⟨o, e⟩ := x.live b hb; ⟨o, hk b o e⟩
  mine := x.mine
  lin := x.lin
  ns := let ⟨m, n⟩ := x.ns; ⟨m, n.keeps hk⟩
  cells := fun d hd hc => let ⟨c, ov, e, i, r⟩ := x.cells d hd hc; ⟨c, ov, e, i.keeps hk, r⟩
  var := fun d hd t e n => let ⟨a, b⟩ := x.var d hd t e n; ⟨a.keeps hk, b.keeps hk⟩
  apart := x.apart
/-- a new address among those that may be written -/
theorem R.grow {t : T} {v : Value} {a : Addr} (r : R X (Pm P₀ μ) h t v) (e : h.get? a = none) : R X (Pm P₀ (a :: μ)) h t v :=
  R.mono (fun b o pb q => ⟨pb.1, fun m => by
    rcases List.mem_cons.mp m with z | z
    · rw [z, e] at q; cases q
    · exact pb.2 z⟩) (fun _ _ _ q => q) t r
theorem RL.grow {t : List T} {v : List Value} {a : Addr} (r : RL X (Pm P₀ μ) h t v) (e : h.get? a = none) : RL X (Pm P₀ (a :: μ)) h t v :=
  RL.mono (fun b o pb q => ⟨pb.1, fun m => by
    rcases List.mem_cons.mp m with z | z
    · rw [z, e] at q; cases q
    · exact pb.2 z⟩) (fun _ _ _ q => q) t r
theorem Rel.grow {a : Addr} {oa : Obj} (x : Rel X sc env P₀ g σ h μ val) (e : h.get? a = none) (hk : Kp h h') (ha : h'.get? a = some oa) : Rel X sc env P₀ g σ h' (a :: μ) val where
  base := x.base
  above := x.above
  keep := x.keep.trans hk
  fresh := fun b m => by
    rcases List.mem_cons.mp m with z | z
    · rw [z]; exact x.keep.fresh e
    · exact x.fresh b z
  free := fun b e => x.free b (hk.fresh e)
  live := fun b m => by
    rcases List.mem_cons.mp m with z | z
    · rw [z]; exact ⟨oa, ha⟩
    · obtain ⟨o, q⟩ := x.live b z; exact ⟨o, hk b o q⟩
  mine := fun b m => by
    rcases List.mem_cons.mp m with z | z
    · rw [z]; exact x.free a e
    · exact x.mine b z
  lin := .tail _ x.lin
  ns := let ⟨m, n⟩ := x.ns; ⟨m, n.keeps hk⟩
  cells := fun d hd hc => let ⟨c, ov, e, i, r⟩ := x.cells d hd hc; ⟨c, ov, e, i.keeps hk, fun q => .tail _ (r q)⟩
  var := fun d hd t q n => by
    obtain ⟨u, v⟩ := x.var d hd t q n
    refine ⟨u.keeps hk, ?_⟩
    revert v
    cases d.mode with
    | fro => intro v; exact (R.grow v e).keeps hk
    | own => rintro ⟨ts, b, vs, k, e1, e2, e3, e4, e5⟩; exact ⟨ts, b, vs, k, e1, e2, .tail _ e3, hk _ _ e4, (e5.grow e).keeps hk⟩
    | self =>
      rintro ⟨ts, b, dd, vs, es, n, e1, e2, e3, e4, e5, e6, e7, e8, e9⟩
      refine ⟨ts, b, dd, vs, es, n, e1, e2, ⟨e3.1, fun m => ?_⟩, .tail _ e4, e5, hk _ _ e6, hk _ _ e7, e8, (e9.grow e).keeps hk⟩
      rcases List.mem_cons.mp m with z | z
      · rw [← z, e6] at e; cases e
      · exact e3.2 z
  apart := x.apart
theorem free_but {a : Addr} {o' : Obj} (x : ∀ b, h.get? b = none → P₀ b) (hs : Heap.SameBut a h h') (ha : h'.get? a = some o') : ∀ b, h'.get? b = none → P₀ b := fun b e => by
  refine x b ?_
  by_cases z : b = a
  · rw [z, ha] at e; cases e
  · rw [← hs.2 b z]; exact e
theorem live_but {a : Addr} {o' : Obj} (x : ∀ b ∈ μ, ∃ o, h.get? b = some o) (hs : Heap.SameBut a h h') (ha : h'.get? a = some o') : ∀ b ∈ μ, ∃ o, h'.get? b = some o := fun b hb => by
  by_cases z : b = a
  · exact ⟨o', z ▸ ha⟩
  · obtain ⟨o, e⟩ := x b hb; exact ⟨o, (hs.2 b z).trans e⟩
/-- the heap changed at addresses that are no part of what is known -/
theorem R.but {t : T} {v : Value} {a : Addr} (r : R X (Pm P₀ μ) h t v) (ha : a ∈ μ) (hs : Heap.SameBut a h h') : R X (Pm P₀ μ) h' t v :=
  R.mono (fun _ _ p _ => p) (fun b o p q => (hs.2 b (fun z => p.2 (z ▸ ha))).trans q) t r
theorem RL.but {t : List T} {v : List Value} {a : Addr} (r : RL X (Pm P₀ μ) h t v) (ha : a ∈ μ) (hs : Heap.SameBut a h h') : RL X (Pm P₀ μ) h' t v :=
  RL.mono (fun _ _ p _ => p) (fun b o p q => (hs.2 b (fun z => p.2 (z ▸ ha))).trans q) t r
theorem Kp.but {a : Addr} (x : Kp g h) (ha : g.get? a = none) (hs : Heap.SameBut a h h') : Kp g h' := fun b o e => (hs.2 b (fun z => by rw [z, ha] at e; cases e)).trans (x b o e)
theorem Rel.keep₀ (x : Rel X sc env P₀ g σ h μ val) : Kp X.h₀ h := x.base.trans x.keep
theorem Has.but {d : VarD} {v : Value} {a : Addr} (x : Has env h d v) (hs : Heap.SameBut a h h') (hL : d.cell = false → env.locals ≠ a) (hc : ∀ c, d.cell = true → env.cells.lookup d.name = some c → c ≠ a) : Has env h' d v := by
  unfold Has at x ⊢
  cases q : d.cell with
  | true =>
    rw [q] at x
    obtain ⟨c, e, i⟩ := x
    exact ⟨c, e, i.sameBut hs (hc c q e)⟩
  | false =>
    rw [q] at x
    obtain ⟨m, n, e⟩ := x
    exact ⟨m, n.sameBut hs (hL q), e⟩
theorem Mod.but {a : Addr} {m : Mode} {t : T} {v : Value} (x : Mod X (Pm P₀ μ) env.locals h μ m t v) (ha : a ∈ μ) (hs : Heap.SameBut a h h')
    (H1 : m = .own → v = .ref a → ∀ vs k, h.get? a ≠ some (lstObj vs k)) (H2 : m = .self → a = env.locals ∨ ∀ es n, h.get? a ≠ some (dictOf es n)) : Mod X (Pm P₀ μ) env.locals h' μ m t v := by
  cases m with
  | fro => exact R.but x ha hs
  | own =>
    obtain ⟨ts, b, vs, k, e1, e2, e3, e4, e5⟩ := x
    exact ⟨ts, b, vs, k, e1, e2, e3, (hs.2 b (fun z => H1 rfl (z ▸ e2) vs k (z ▸ e4))).trans e4, e5.but ha hs⟩
  | self =>
    obtain ⟨ts, b, dd, vs, es, n, e1, e2, e3, e4, e5, e6, e7, e8, e9⟩ := x
    refine ⟨ts, b, dd, vs, es, n, e1, e2, e3, e4, e5, (hs.2 b (fun z => e3.2 (z ▸ ha))).trans e6, (hs.2 dd (fun z => ?_)).trans e7, e8, e9.but ha hs⟩
    rcases H2 rfl with q | q
    · exact e5.1 (z.trans q)
    · exact q es n (z ▸ e7)
theorem Rel.get_locals (x : Rel X sc env P₀ g σ h μ val) : ∃ o es k, h.get? env.locals = some o ∧ o.data = .dict es k := let ⟨_, o, es, k, e, d, _⟩ := x.ns; ⟨o, es, k, e, d⟩
/-- an object that is none of the frame's own is turned (an iterator) -/
theorem Rel.iter {I : Addr} {P₁ : Addr → Prop} (x : Rel X sc env P₀ g σ h μ val) (hI : I ∉ μ) (hP : ∀ b, P₀ b → b ≠ I ∧ P₁ b) (hg : g.get? I = none) (hc : ∀ d ∈ sc.vars, d.cell = true → ∀ c, env.cells.lookup d.name = some c → c ≠ I)
    (hk : ∀ b o, b ≠ I → h.get? b = some o → h'.get? b = some o) (hfree : ∀ b, h'.get? b = none → P₁ b) : Rel X sc env P₁ g σ h' μ val := by
  have nL : env.locals ≠ I := fun z => hI (z ▸ x.lin)
  have hm : ∀ b ∈ μ, b ≠ I := fun b hb z => hI (z ▸ hb)
  have ns : ∀ {m}, h.Ns env.locals m → h'.Ns env.locals m := fun n => let ⟨o, es, ep, e, r⟩ := n; ⟨o, es, ep, hk _ _ nL e, r⟩
  have cl : ∀ {c ov}, c ≠ I → h.IsCell c ov → h'.IsCell c ov := fun q i => let ⟨o, e, r⟩ := i; ⟨o, hk _ _ q e, r⟩
  have hr : ∀ {t v}, R X (Pm P₀ μ) h t v → R X (Pm P₁ μ) h' t v := fun r => R.mono (fun b _ p _ => ⟨(hP b p.1).2, p.2⟩) (fun b o p e => hk b o (hP b p.1).1 e) _ r
  have hrl : ∀ {t v}, RL X (Pm P₀ μ) h t v → RL X (Pm P₁ μ) h' t v := fun r => RL.mono (fun b _ p _ => ⟨(hP b p.1).2, p.2⟩) (fun b o p e => hk b o (hP b p.1).1 e) _ r
  refine ⟨x.base, x.above, fun b o e => hk b o (fun z => by rw [z, hg] at e; cases e) (x.keep b o e), x.fresh, hfree, fun b hb => let ⟨o, e⟩ := x.live b hb; ⟨o, hk b o (hm b hb) e⟩, fun b hb => (hP b (x.mine b hb)).2, x.lin, let ⟨m, n⟩ := x.ns; ⟨m, ns n⟩, ?_, ?_, x.apart⟩
  · intro d hd hcell
    obtain ⟨c, ov, e, i, r⟩ := x.cells d hd hcell
    exact ⟨c, ov, e, cl (hc d hd hcell c e) i, r⟩
  · intro d hd t q n
    obtain ⟨u, v⟩ := x.var d hd t q n
    constructor
    · unfold Has at u ⊢
      cases hcell : d.cell with
      | true => rw [hcell] at u; obtain ⟨c, e, i⟩ := u; exact ⟨c, e, cl (hc d hd hcell c e) i⟩
      | false => rw [hcell] at u; obtain ⟨m, n', e⟩ := u; exact ⟨m, ns n', e⟩
    · revert v
      cases d.mode with
      | fro => exact hr
      | own => rintro ⟨ts, b, vs, k, e1, e2, e3, e4, e5⟩; exact ⟨ts, b, vs, k, e1, e2, e3, hk _ _ (hm _ e3) e4, hrl e5⟩
      | self =>
        rintro ⟨ts, b, dd, vs, es, n, e1, e2, e3, e4, e5, e6, e7, e8, e9⟩
        exact ⟨ts, b, dd, vs, es, n, e1, e2, ⟨(hP _ e3.1).2, e3.2⟩, e4, e5, hk _ _ (hP _ e3.1).1 e6, hk _ _ (hm _ e4) e7, e8, hrl e9⟩
/-- the outer predicate is changed where the heap's objects do not mind -/
theorem Rel.pred {P₁ : Addr → Prop} (x : Rel X sc env P₀ g σ h μ val) (hp : ∀ b o, P₀ b → h.get? b = some o → P₁ b) (hf : ∀ b, h.get? b = none → P₁ b) : Rel X sc env P₁ g σ h μ val := by
  have hr : ∀ {t v}, R X (Pm P₀ μ) h t v → R X (Pm P₁ μ) h t v := fun r => R.mono (fun b o p e => ⟨hp b o p.1 e, p.2⟩) (fun _ _ _ e => e) _ r
  have hrl : ∀ {t v}, RL X (Pm P₀ μ) h t v → RL X (Pm P₁ μ) h t v := fun r => RL.mono (fun b o p e => ⟨hp b o p.1 e, p.2⟩) (fun _ _ _ e => e) _ r
  refine ⟨x.base, x.above, x.keep, x.fresh, hf, x.live, fun b hb => (let ⟨o, e⟩ := x.live b hb; hp b o (x.mine b hb) e), x.lin, x.ns, x.cells, fun d hd t q n => ?_, x.apart⟩
  obtain ⟨u, v⟩ := x.var d hd t q n
  refine ⟨u, ?_⟩
  revert v
  cases d.mode with
  | fro => exact hr
  | own => rintro ⟨ts, b, vs, k, e1, e2, e3, e4, e5⟩; exact ⟨ts, b, vs, k, e1, e2, e3, e4, hrl e5⟩
  | self =>
    rintro ⟨ts, b, dd, vs, es, n, e1, e2, e3, e4, e5, e6, e7, e8, e9⟩
    exact ⟨ts, b, dd, vs, es, n, e1, e2, ⟨hp _ _ e3.1 e6, e3.2⟩, e4, e5, e6, e7, e8, hrl e9⟩
/-- the heap grows and the outer predicate changes, as far as the old objects do not mind -/
theorem Rel.move {P₁ : Addr → Prop} (x : Rel X sc env P₀ g σ h μ val) (hk : Kp h h') (hp : ∀ b o, P₀ b → h.get? b = some o → P₁ b) (hf : ∀ b, h'.get? b = none → P₁ b) : Rel X sc env P₁ g σ h' μ val := by
  have hr : ∀ {t v}, R X (Pm P₀ μ) h t v → R X (Pm P₁ μ) h' t v := fun r => R.mono (fun b o p e => ⟨hp b o p.1 e, p.2⟩) (fun b o _ e => hk b o e) _ r
  have hrl : ∀ {t v}, RL X (Pm P₀ μ) h t v → RL X (Pm P₁ μ) h' t v := fun r => RL.mono (fun b o p e => ⟨hp b o p.1 e, p.2⟩) (fun b o _ e => hk b o e) _ r
  refine ⟨x.base, x.above, x.keep.trans hk, x.fresh, hf, fun b hb => (let ⟨o, e⟩ := x.live b hb; ⟨o, hk b o e⟩), fun b hb => (let ⟨o, e⟩ := x.live b hb; hp b o (x.mine b hb) e), x.lin, let ⟨m, n⟩ := x.ns; ⟨m, n.keeps hk⟩,
    fun d hd hc => let ⟨c, ov, e, i, r⟩ := x.cells d hd hc; ⟨c, ov, e, i.keeps hk, r⟩, fun d hd t q n => ?_, x.apart⟩
  obtain ⟨u, v⟩ := x.var d hd t q n
  refine ⟨u.keeps hk, ?_⟩
  revert v
  cases d.mode with
  | fro => exact hr
  | own => rintro ⟨ts, b, vs, k, e1, e2, e3, e4, e5⟩; exact ⟨ts, b, vs, k, e1, e2, e3, hk _ _ e4, hrl e5⟩
  | self =>
    rintro ⟨ts, b, dd, vs, es, n, e1, e2, e3, e4, e5, e6, e7, e8, e9⟩
    exact ⟨ts, b, dd, vs, es, n, e1, e2, ⟨hp _ _ e3.1 e6, e3.2⟩, e4, e5, hk _ _ e6, hk _ _ e7, e8, hrl e9⟩
/-- a name of the frame is stored: what it holds now is v, a tree t (frozen), or a list of the frame's own -/
theorem Rel.store {d : VarD} {t : T} {v : Value} (S : Scoped sc env) (x : Rel X sc env P₀ g σ h μ val) (hd : d ∈ sc.vars) (hst : d.st = true)
    (hm : Mod X (Pm P₀ μ) env.locals h μ d.mode t v) (hap : d.mode = .own → ∀ d' ∈ sc.vars, d'.mode = .own → d.slot ≠ d'.slot → ∀ t', σ[d'.slot]? = some t' → t' ≠ .unb → v ≠ val d'.slot) (htb : t ≠ .unb)
    {M : Model} {A : Around} {E : Value → Shared → Prop} {s : Shared} (hs : s.heap = h) {Q : Unit → Shared → Prop}
    (k : ∀ h' tk, Rel X sc env P₀ g (σ.set d.slot t) h' μ (fun i => if i = d.slot then v else val i) → (∀ b o, b ∉ μ → h.get? b = some o → h'.get? b = some o) → Q () { s with heap := h', toks := tk }) :
    wpAny M A (storeName env d.name v) Q E s := by
  subst hs
  -- what the new state says of each name, once the old names are known to hold still
  have fin : ∀ h' (a : Addr), a ∈ μ → Heap.SameBut a s.heap h' → (∃ m, h'.Ns env.locals m) → (∀ d ∈ sc.vars, d.cell = true → ∃ c ov, env.cells.lookup d.name = some c ∧ h'.IsCell c ov ∧ (d.st = true → c ∈ μ)) →
      Has env h' d v → (∀ d' ∈ sc.vars, d' ≠ d → ∀ v', Has env s.heap d' v' → Has env h' d' v') → (a = env.locals ∨ ∃ ov, s.heap.IsCell a ov) → (∃ o', h'.get? a = some o') →
      Rel X sc env P₀ g (σ.set d.slot t) h' μ (fun i => if i = d.slot then v else val i) := by
    intro h' a ha hs hns hcl hhas hoth hkind hlive
    obtain ⟨ol, hlive⟩ := hlive
    have H1 : ∀ vs k, s.heap.get? a ≠ some (lstObj vs k) := fun vs k e => by
      rcases hkind with rfl | ⟨ov, o, q, z⟩
      · obtain ⟨o', es, k', e', d'⟩ := x.get_locals
        rw [e'] at e; cases e; cases d'
      · rw [q] at e; cases e; cases z
    have H2 : a = env.locals ∨ ∀ es n, s.heap.get? a ≠ some (dictOf es n) := by
      rcases hkind with q | ⟨ov, o, q, z⟩
      · exact .inl q
      · exact .inr fun es n e => by rw [q] at e; cases e; cases z
    refine ⟨x.base, x.above, x.keep.but (x.fresh a ha) hs, x.fresh, free_but x.free hs hlive, live_but x.live hs hlive, x.mine, x.lin, hns, hcl, ?_, ?_⟩
    · intro d' hd' t' q n
      by_cases hdd : d' = d
      · subst hdd
        have : t' = t := by
          have hlt : d'.slot < σ.length := by
            have := (List.getElem?_eq_some_iff.mp q).1
            simpa using this
          rw [List.getElem?_set_self hlt] at q; exact (Option.some.inj q).symm
        subst this
        simp only [if_true]
        exact ⟨hhas, hm.but ha hs (fun _ _ => H1) fun _ => H2⟩
      · have hsl : d'.slot ≠ d.slot := fun e => hdd (S.slots d' hd' d hd e)
        rw [List.getElem?_set_ne (Ne.symm hsl)] at q
        simp only [if_neg hsl]
        obtain ⟨u, w⟩ := x.var d' hd' t' q n
        exact ⟨hoth d' hd' hdd _ u, w.but ha hs (fun _ _ => H1) fun _ => H2⟩
    · intro d1 h1 d2 h2 m1 m2 hne t1 t2 q1 n1 q2 n2
      by_cases e1 : d1.slot = d.slot
      · have e2 : d2.slot ≠ d.slot := fun e => hne (e1.trans e.symm)
        rw [List.getElem?_set_ne (Ne.symm e2)] at q2
        simp only [if_pos e1, if_neg e2]
        have := S.slots d1 h1 d hd e1
        subst this
        exact hap m1 d2 h2 m2 hne t2 q2 n2
      · rw [List.getElem?_set_ne (Ne.symm e1)] at q1
        by_cases e2 : d2.slot = d.slot
        · simp only [if_neg e1, if_pos e2]
          have := S.slots d2 h2 d hd e2
          subst this
          exact Ne.symm (hap m2 d1 h1 m1 (Ne.symm hne) t1 q1 n1)
        · rw [List.getElem?_set_ne (Ne.symm e2)] at q2
          simp only [if_neg e1, if_neg e2]
          exact x.apart d1 h1 d2 h2 m1 m2 hne t1 t2 q1 n1 q2 n2
  cases hc : d.cell with
  | false =>
    obtain ⟨m, hn⟩ := x.ns
    refine wpAny_storeName_local (S.loc d hd hc) hn (fun h' hn' hs' => ?_) (by rw [S.kind]; rfl)
    refine k h' _ (fin h' _ x.lin hs' ⟨_, hn'⟩ ?_ ?_ ?_ (.inl rfl) (let ⟨o, _, _, e, _⟩ := hn'; ⟨o, e⟩)) (fun b o hb e => (hs'.2 b (fun z => hb (z ▸ x.lin))).trans e)
    · intro d' hd' hc'
      obtain ⟨c, ov, e, i, r⟩ := x.cells d' hd' hc'
      refine ⟨c, ov, e, i.sameBut hs' (fun z => ?_), r⟩
      obtain ⟨o', es, k', e', d''⟩ := x.get_locals
      obtain ⟨o2, e2, d2⟩ := i
      rw [z, e'] at e2; cases e2; rw [d''] at d2; cases d2
    · unfold Has; rw [hc]; exact ⟨_, hn', by simp⟩
    · intro d' hd' hne v' hv'
      unfold Has at hv' ⊢
      cases hc' : d'.cell with
      | true =>
        rw [hc'] at hv'
        obtain ⟨c, e, i⟩ := hv'
        refine ⟨c, e, i.sameBut hs' (fun z => ?_)⟩
        obtain ⟨o', es, k', e', d''⟩ := x.get_locals
        obtain ⟨o2, e2, d2⟩ := i
        rw [z, e'] at e2; cases e2; rw [d''] at d2; cases d2
      | false =>
        rw [hc'] at hv'
        obtain ⟨m', hn2, e⟩ := hv'
        refine ⟨_, hn', ?_⟩
        have : d'.name ≠ d.name := fun e => hne (S.names d' hd' d hd e)
        simp only [if_neg this]
        obtain ⟨o1, es1, k1, g1, dd1, _, f1⟩ := hn
        obtain ⟨o2, es2, k2, g2, dd2, _, f2⟩ := hn2
        rw [g1] at g2; cases g2; rw [dd1] at dd2; cases dd2
        rw [← f1, f2]; exact e
  | true =>
    obtain ⟨c, ov, e, i, r⟩ := x.cells d hd hc
    refine wpAny_storeName_cell S.kind (S.cel d hd hc) e i (fun h' hv' hs' => ?_)
    have nL : env.locals ≠ c := fun z => by
      obtain ⟨o', es, k', e', d''⟩ := x.get_locals
      obtain ⟨o2, e2, d2⟩ := i
      rw [← z, e'] at e2; cases e2; rw [d''] at d2; cases d2
    refine k h' s.toks (fin h' c (r hst) hs' ?_ ?_ ?_ ?_ (.inr ⟨ov, i⟩) (let ⟨o, e, _⟩ := hv'; ⟨o, e⟩)) (fun b o hb e => (hs'.2 b (fun z => hb (z ▸ r hst))).trans e)
    · obtain ⟨m, n⟩ := x.ns; exact ⟨m, n.sameBut hs' nL⟩
    · intro d' hd' hc'
      obtain ⟨c', ov', e', i', r'⟩ := x.cells d' hd' hc'
      by_cases z : c' = c
      · subst z; exact ⟨c', _, e', hv', r'⟩
      · exact ⟨c', ov', e', i'.sameBut hs' z, r'⟩
    · unfold Has; rw [hc]; exact ⟨c, e, hv'⟩
    · intro d' hd' hne v' hv2
      refine hv2.but hs' (fun _ => nL) fun c' _ e' z => ?_
      subst z
      exact hne (S.names d' hd' d hd (S.apart _ _ _ e' e))
end
end Mine
end
noncomputable section
set_option Elab.async false
set_option linter.unusedVariables false
namespace Mine
open PySem PySem.W PySem.Calls PyProof.Rows
noncomputable def RW (X : Cx) (P : Addr → Prop) (h : Heap) : T → Value → Prop
  | .lst l, v => ∃ a vs k, v = .ref a ∧ h.get? a = some (lstObj vs k) ∧ RL X P h l vs
  | t, v => R X P h t v
theorem RW.of {X : Cx} {P : Addr → Prop} {h : Heap} {t : T} {v : Value} (x : R X P h t v) : RW X P h t v := by
  cases t with
  | lst l => simp only [R] at x; obtain ⟨a, vs, k, e, _, g, r⟩ := x; exact ⟨a, vs, k, e, g, r⟩
  | _ => exact x
theorem RW.keeps {X : Cx} {P : Addr → Prop} {h h' : Heap} {t : T} {v : Value} (x : RW X P h t v) (hk : Kp h h') : RW X P h' t v := by
  cases t with
  | lst l => obtain ⟨a, vs, k, e, g, r⟩ := x; exact ⟨a, vs, k, e, hk _ _ g, r.keeps hk⟩
  | _ => exact R.keeps x hk
/-- e is computed by f (its value is frozen) -/
noncomputable def RefE (X : Cx) (sc : Sc) (d : Nat) (e : Expr) (f : List T → Option T) : Prop :=
  ∀ (A : Around) (env : Env) (P₀ : Addr → Prop) (g : Heap) (σ : List T) (s : Shared) (μ : List Addr) (val : Nat → Value) (t : T),
    Room A d → Scoped sc env → Rel X sc env P₀ g σ s.heap μ val → f σ = some t →
    ∀ (Q : Value → Shared → Prop) (E : Value → Shared → Prop), (∀ v h' tk, Kp s.heap h' → R X (Pm P₀ μ) h' t v → Q v { s with heap := h', toks := tk }) →
      wpAny (model X.prog X.w) A (eval e env) Q E s
/-- the same; the value may be a list that the frame still writes -/
noncomputable def RefW (X : Cx) (sc : Sc) (d : Nat) (e : Expr) (f : List T → Option T) : Prop :=
  ∀ (A : Around) (env : Env) (P₀ : Addr → Prop) (g : Heap) (σ : List T) (s : Shared) (μ : List Addr) (val : Nat → Value) (t : T),
    Room A d → Scoped sc env → Rel X sc env P₀ g σ s.heap μ val → f σ = some t →
    ∀ (Q : Value → Shared → Prop) (E : Value → Shared → Prop), (∀ v h' tk, Kp s.heap h' → RW X (Pm P₀ μ) h' t v → Q v { s with heap := h', toks := tk }) →
      wpAny (model X.prog X.w) A (eval e env) Q E s
/-- a test -/
noncomputable def RefT (X : Cx) (sc : Sc) (d : Nat) (e : Expr) (f : List T → Option Bool) : Prop :=
  ∀ (A : Around) (env : Env) (P₀ : Addr → Prop) (g : Heap) (σ : List T) (s : Shared) (μ : List Addr) (val : Nat → Value) (t : Bool),
    Room A d → Scoped sc env → Rel X sc env P₀ g σ s.heap μ val → f σ = some t →
    ∀ (Q : Bool → Shared → Prop) (E : Value → Shared → Prop), (∀ h' tk, Kp s.heap h' → Q t { s with heap := h', toks := tk }) →
      wpAny (model X.prog X.w) A (isTrue e env (eval e env)) Q E s
/-- a row of expressions -/
noncomputable def RefL (X : Cx) (sc : Sc) (d : Nat) (es : List Expr) (f : List T → Option (List T)) : Prop :=
  ∀ (A : Around) (env : Env) (P₀ : Addr → Prop) (g : Heap) (σ : List T) (s : Shared) (μ : List Addr) (val : Nat → Value) (ts : List T) (pos : Pos),
    Room A d → Scoped sc env → Rel X sc env P₀ g σ s.heap μ val → f σ = some ts →
    ∀ (Q : List Value → Shared → Prop) (E : Value → Shared → Prop), (∀ vs h' tk, Kp s.heap h' → RL X (Pm P₀ μ) h' ts vs → Q vs { s with heap := h', toks := tk }) →
      wpAny (model X.prog X.w) A (spliced (backTo pos (starEach es env))) Q E s
theorem RefE.w {X : Cx} {sc : Sc} {d : Nat} {e : Expr} {f : List T → Option T} (x : RefE X sc d e f) : RefW X sc d e f :=
  fun A env P₀ g σ s μ val t r S L hf Q E k => x A env P₀ g σ s μ val t r S L hf Q E fun v h' tk a b => k v h' tk a (.of b)
noncomputable def eVar (i : Nat) : List T → Option T := fun σ => match σ[i]? with
  | some .unb => none
  | some t => some t
  | none => none
noncomputable def eK (t : T) : List T → Option T := fun _ => some t
noncomputable def e1 (o : T → Option T) (a : List T → Option T) : List T → Option T := fun σ => match a σ with
  | some x => o x
  | none => none
noncomputable def e2 (o : T → T → Option T) (a b : List T → Option T) : List T → Option T := fun σ => match a σ with
  | some x => (match b σ with
    | some y => o x y
    | none => none)
  | none => none
noncomputable def t2 (o : T → T → Option Bool) (a b : List T → Option T) : List T → Option Bool := fun σ => match a σ with
  | some x => (match b σ with
    | some y => o x y
    | none => none)
  | none => none
noncomputable def bT (a : List T → Option Bool) : List T → Option T := fun σ => match a σ with
  | some b => some (.bool b)
  | none => none
noncomputable def eL0 : List T → Option (List T) := fun _ => some []
noncomputable def eLc (a : List T → Option T) (b : List T → Option (List T)) : List T → Option (List T) := fun σ => match a σ with
  | some x => (match b σ with
    | some y => some (x :: y)
    | none => none)
  | none => none
theorem eVar_some {i : Nat} {σ : List T} {t : T} (e : eVar i σ = some t) : σ[i]? = some t ∧ t ≠ .unb := by
  unfold eVar at e
  split at e
  · cases e
  · rename_i h q; cases e; exact ⟨q, h⟩
  · cases e
theorem e1_some {o : T → Option T} {a : List T → Option T} {σ : List T} {t : T} (e : e1 o a σ = some t) : ∃ x, a σ = some x ∧ o x = some t := by
  unfold e1 at e
  split at e
  · rename_i x q; exact ⟨x, q, e⟩
  · cases e
theorem e2_some {o : T → T → Option T} {a b : List T → Option T} {σ : List T} {t : T} (e : e2 o a b σ = some t) : ∃ x y, a σ = some x ∧ b σ = some y ∧ o x y = some t := by
  unfold e2 at e
  split at e
  · rename_i x q
    split at e
    · rename_i y q'; exact ⟨x, y, q, q', e⟩
    · cases e
  · cases e
theorem t2_some {o : T → T → Option Bool} {a b : List T → Option T} {σ : List T} {t : Bool} (e : t2 o a b σ = some t) : ∃ x y, a σ = some x ∧ b σ = some y ∧ o x y = some t := by
  unfold t2 at e
  split at e
  · rename_i x q
    split at e
    · rename_i y q'; exact ⟨x, y, q, q', e⟩
    · cases e
  · cases e
theorem eLc_some {a : List T → Option T} {b : List T → Option (List T)} {σ : List T} {t : List T} (e : eLc a b σ = some t) : ∃ x y, a σ = some x ∧ b σ = some y ∧ t = x :: y := by
  unfold eLc at e
  split at e
  · rename_i x q
    split at e
    · rename_i y q'; cases e; exact ⟨x, y, q, q', rfl⟩
    · cases e
  · cases e
section
variable {X : Cx} {sc : Sc} {d : Nat}
theorem rVarLoad {v : VarD} (hv : v ∈ sc.vars) {A : Around} {env : Env} {P₀ : Addr → Prop} {g : Heap} {σ : List T} {s : Shared} {μ : List Addr} {val : Nat → Value} {t : T} (S : Scoped sc env) (L : Rel X sc env P₀ g σ s.heap μ val) (e : eVar v.slot σ = some t)
    {Q : Value → Shared → Prop} {E : Value → Shared → Prop} {M : Model} (k : Mod X (Pm P₀ μ) env.locals s.heap μ v.mode t (val v.slot) → Q (val v.slot) s) : wpAny M A (loadName env v.name) Q E s := by
  obtain ⟨q, n⟩ := eVar_some e
  obtain ⟨a, b⟩ := L.var v hv t q n
  unfold Has at a
  cases hc : v.cell with
  | true => rw [hc] at a; obtain ⟨c, e, i⟩ := a; exact wpAny_loadName_cell S.kind (S.cel v hv hc) e i (k b)
  | false => rw [hc] at a; obtain ⟨m, n, e⟩ := a; exact wpAny_loadName_local S.kind (S.loc v hv hc) n e (k b)
theorem rName {v : VarD} {pos : Pos} (hv : v ∈ sc.vars) (hm : v.mode = .fro) : RefE X sc d (.Name v.name pos) (eVar v.slot) := by
  intro A env P₀ g σ s μ val t r S L hf Q E k
  refine wpAny_Name (rVarLoad hv S L hf fun m => ?_) (S.nodbg v hv)
  rw [hm] at m
  exact k _ s.heap s.toks (Kp.refl _) m
theorem rNameW {v : VarD} {pos : Pos} (hv : v ∈ sc.vars) (hm : v.mode = .own) : RefW X sc d (.Name v.name pos) (eVar v.slot) := by
  intro A env P₀ g σ s μ val t r S L hf Q E k
  refine wpAny_Name (rVarLoad hv S L hf fun m => ?_) (S.nodbg v hv)
  rw [hm] at m
  obtain ⟨ts, a, vs, n, rfl, e, _, g, r⟩ := m
  exact k _ s.heap s.toks (Kp.refl _) ⟨a, vs, n, e, g, r⟩
theorem rInt {i : Int} {n : Nat} {pos : Pos} : RefE X sc d (.Constant (.int i) n pos) (eK (.int i)) := by
  intro A env P₀ g σ s μ val t r S L hf Q E k
  cases hf
  exact wpAny_Constant_int (k _ s.heap _ (Kp.refl _) (by simp [R]))
theorem rBool {b : Bool} {n : Nat} {pos : Pos} : RefE X sc d (.Constant (.bool b) n pos) (eK (.bool b)) := by
  intro A env P₀ g σ s μ val t r S L hf Q E k
  cases hf
  exact wpAny_Constant_bool (k _ s.heap s.toks (Kp.refl _) (by simp [R]))
theorem rStr {x : Str} {l : List Nat} {n : Nat} {pos : Pos} (h : x.cps.toList = l) : RefE X sc d (.Constant (.str x) n pos) (eK (.str l)) := by
  intro A env P₀ g σ s μ val t r S L hf Q E k
  cases hf
  refine wpAny_Constant_str (k _ s.heap _ (Kp.refl _) ?_)
  simp only [R]
  exact ⟨s.toks, by rw [← h]⟩
theorem Rel.at_ {env : Env} {P₀ : Addr → Prop} {g : Heap} {σ : List T} {s : Shared} {μ : List Addr} {val : Nat → Value} (L : Rel X sc env P₀ g σ s.heap μ val) {h' : Heap} {tk : Nat} (hk : Kp s.heap h') :
    Rel X sc env P₀ g σ ({ s with heap := h', toks := tk } : Shared).heap μ val := L.keeps hk
/-- two values, one after the other -/
theorem rTwo {a b : Expr} {fa fb : List T → Option T} (ha : RefW X sc d a fa) (hb : RefW X sc d b fb) {A : Around} {env : Env} {P₀ : Addr → Prop} {g : Heap} {σ : List T} {s : Shared} {μ : List Addr} {val : Nat → Value} {x y : T}
    (r : Room A d) (S : Scoped sc env) (L : Rel X sc env P₀ g σ s.heap μ val) (e1 : fa σ = some x) (e2 : fb σ = some y) {F : Value → Value → Sem α} {Q : α → Shared → Prop} {E : Value → Shared → Prop}
    (k : ∀ u v h' tk, Kp s.heap h' → Rel X sc env P₀ g σ h' μ val → RW X (Pm P₀ μ) h' x u → RW X (Pm P₀ μ) h' y v → wpAny (model X.prog X.w) A (F u v) Q E { s with heap := h', toks := tk }) :
    wpAny (model X.prog X.w) A (eval a env) (fun u s₁ => wpAny (model X.prog X.w) A (eval b env) (fun v s₂ => wpAny (model X.prog X.w) A (F u v) Q E s₂) E s₁) E s := by
  refine ha A env P₀ g σ s μ val x r S L e1 _ _ fun u h₁ tk₁ k₁ r₁ => ?_
  refine hb A env P₀ g σ _ μ val y r S (L.at_ k₁) e2 _ _ fun v h₂ tk₂ k₂ r₂ => ?_
  exact k u v h₂ tk₂ (k₁.trans k₂) (L.keeps (k₁.trans k₂)) (r₁.keeps k₂) r₂
/-- what an operation of two trees has to meet -/
noncomputable def Bin (X : Cx) (F : Value → Value → Sem Value) (o : T → T → Option T) : Prop :=
  ∀ (A : Around) (P : Addr → Prop) (x y t : T) (u v : Value) (s : Shared) (d : Nat), Room A d → Kp X.h₀ s.heap → (∀ b, s.heap.get? b = none → P b) → RW X P s.heap x u → RW X P s.heap y v → o x y = some t →
    ∀ (Q : Value → Shared → Prop) (E : Value → Shared → Prop), (∀ z h' tk, Kp s.heap h' → R X P h' t z → Q z { s with heap := h', toks := tk }) → wpAny (model X.prog X.w) A (F u v) Q E s
theorem Rel.freeP {env : Env} {P₀ : Addr → Prop} {g h : Heap} {σ : List T} {μ : List Addr} {val : Nat → Value} (L : Rel X sc env P₀ g σ h μ val) (b : Addr) (e : h.get? b = none) : Pm P₀ μ b :=
  ⟨L.free b e, fun m => by obtain ⟨o, q⟩ := L.live b m; rw [q] at e; cases e⟩
end
end Mine
end
noncomputable section
set_option Elab.async false
set_option linter.unusedVariables false
namespace Mine
open PySem PySem.W PySem.Calls PyProof.Rows
noncomputable def small (i : Int) : Bool := decide (i.natAbs < 1073741824)
noncomputable def lim : Nat := 100000
noncomputable def addT : T → T → Option T
  | .int a, .int b => some (.int (a + b))
  | .str a, .str b => if a.length + b.length ≤ lim then some (.str (a ++ b)) else none
  | .lst a, .lst b => if a.length + b.length ≤ lim then some (.lst (a ++ b)) else none
  | _, _ => none
noncomputable def subT : T → T → Option T
  | .int a, .int b => some (.int (a - b))
  | _, _ => none
noncomputable def repL {α : Type} (l : List α) : Nat → List α
  | 0 => []
  | n + 1 => l ++ repL l n
noncomputable def mulT : T → T → Option T
  | .int a, .int b => if small b then some (.int (a * b)) else none
  | .str a, .int n => if n ≤ lim ∧ a.length * n.toNat ≤ lim ∧ -lim ≤ n then some (.str (repL a n.toNat)) else none
  | .lst a, .int n => if n ≤ lim ∧ a.length * n.toNat ≤ lim ∧ -lim ≤ n then some (.lst (repL a n.toNat)) else none
  | _, _ => none
noncomputable def divT : T → T → Option T
  | .int a, .int b => if small b && b != 0 then some (.int (a.fdiv b)) else none
  | _, _ => none
noncomputable def modT : T → T → Option T
  | .int a, .int b => if b != 0 then some (.int (a.fmod b)) else none
  | _, _ => none
theorem lim_le : lim ≤ sizeLine := by decide
theorem small_lt {i : Int} (h : small i = true) : i.natAbs < 1073741824 := by simpa [small] using h
theorem bits_small {i : Int} (h : small i = true) : Builtin.Int.intBits i ≤ 64 := by
  have h := small_lt h
  unfold Builtin.Int.intBits
  split
  · omega
  · rename_i q
    have h0 : i.natAbs ≠ 0 := by simp at q; omega
    have : i.natAbs.log2 < 30 := (Nat.log2_lt h0).mpr h
    omega
theorem foldl_repL {α : Type} (l : List α) : ∀ n, (List.replicate n l.toArray).foldl (· ++ ·) #[] = (repL l n).toArray := by
  have gen : ∀ n (acc : List α), (List.replicate n l.toArray).foldl (· ++ ·) acc.toArray = (acc ++ repL l n).toArray := by
    intro n
    induction n with
    | zero => intro acc; simp [repL]
    | succ n ih => intro acc; simp only [List.replicate_succ, List.foldl_cons, repL]; rw [List.append_toArray, ih]; simp
  intro n; simpa using gen n []
theorem repL_nil {α : Type} : ∀ n, repL ([] : List α) n = []
  | 0 => rfl
  | n + 1 => by simp [repL, repL_nil n]
theorem RL.rep {X : Cx} {P : Addr → Prop} {h : Heap} {l : List T} {vs : List Value} (x : RL X P h l vs) : ∀ n, RL X P h (repL l n) (repL vs n)
  | 0 => by simp [repL, RL]
  | n + 1 => x.append (RL.rep x n)
theorem R.lst_of {X : Cx} {P : Addr → Prop} {h : Heap} {l : List T} {vs : List Value} {a : Addr} {k : Nat} (pa : P a) (e : h.get? a = some (lstObj vs k)) (r : RL X P h l vs) : R X P h (.lst l) (.ref a) := by
  simp only [R]; exact ⟨a, vs, k, rfl, pa, e, r⟩
theorem R.tup_of {X : Cx} {P : Addr → Prop} {h : Heap} {l : List T} {vs : List Value} {a : Addr} {k : Nat} (pa : P a) (e : h.get? a = some (tupObj vs k)) (r : RL X P h l vs) : R X P h (.tup l) (.ref a) := by
  simp only [R]; exact ⟨a, vs, k, rfl, pa, e, r⟩
theorem fresh_size (h : Heap) : h.get? h.objs.size = none := by
  cases q : h.get? h.objs.size with
  | none => rfl
  | some o => exact absurd (Heap.lt_size q) (Nat.lt_irrefl _)
theorem R.newLst {X : Cx} {P : Addr → Prop} {h : Heap} {l : List T} {vs : List Value} (hp : ∀ b, h.get? b = none → P b) (r : RL X P h l vs) : R X P (h.push (lstObj vs 0)) (.lst l) (.ref h.objs.size) :=
  R.lst_of (hp _ (fresh_size h)) (Heap.get?_push_size _ rfl) (r.keeps (Kp.push h _))
theorem R.newTup {X : Cx} {P : Addr → Prop} {h : Heap} {l : List T} {vs : List Value} (hp : ∀ b, h.get? b = none → P b) (r : RL X P h l vs) : R X P (h.push (tupObj vs 0)) (.tup l) (.ref h.objs.size) :=
  R.tup_of (hp _ (fresh_size h)) (Heap.get?_push_size _ rfl) (r.keeps (Kp.push h _))
theorem R.of_int {X : Cx} {P : Addr → Prop} {h : Heap} (i : Int) (k : Tok) : R X P h (.int i) (.int i k) := by simp [R]
theorem R.of_str {X : Cx} {P : Addr → Prop} {h : Heap} (l : List Nat) (k : Tok) : R X P h (.str l) (.str ⟨l.toArray⟩ k) := by simp only [R]; exact ⟨k, rfl⟩
theorem R.of_bool {X : Cx} {P : Addr → Prop} {h : Heap} (b : Bool) : R X P h (.bool b) (.bool b) := by simp [R]
section
variable {X : Cx}
theorem add_listsX {prog : Program} {w : World} {A : Around} {E : Value → Shared → Prop} {s : Shared} {l b : Addr} {vs ws : List Value} {k k' : Nat} {Q : Value → Shared → Prop} (hl : s.heap.get? l = some (lstObj vs k)) (hb : s.heap.get? b = some (lstObj ws k'))
    (h : Q (.ref s.heap.objs.size) { s with heap := s.heap.push (lstObj (vs ++ ws) 0) }) (hsz : vs.length + ws.length ≤ sizeLine) : wpAny (model prog w) A (binaryOp .Add (.ref l) (.ref b)) Q E s := by
  refine concat_meets ⟨_, hl, rfl⟩ ⟨_, hb, rfl⟩ noFill_list_add seq_list_add PySem.F.slot_list_add PySem.F.entry_list_add (PySem.F.args_list_add_2 _ _) (list_addW l b vs.toArray ws.toArray k k' none none #[] #[] (by simpa using hsz)) ⟨hl, hb, ?_⟩
  rw [List.append_toArray]
  exact h
theorem mul_listX {prog : Program} {w : World} {A : Around} {E : Value → Shared → Prop} {s : Shared} {l : Addr} {vs : List Value} {k : Nat} {x : Int} {u : Tok} {Q : Value → Shared → Prop} (hl : s.heap.get? l = some (lstObj vs k))
    (hlo : -(2 ^ 63 : Int) ≤ x) (hhi : x < 2 ^ 63) (hsz : vs.length * x.toNat ≤ 2 ^ 24)
    (h : Q (.ref s.heap.objs.size) { s with heap := s.heap.push (lstObj (repL vs x.toNat) 0) }) : wpAny (model prog w) A (binaryOp .Mult (.ref l) (.int x u)) Q E s := by
  have e : List.foldl (fun x1 x2 => x1 ++ x2) #[] (List.replicate (if vs.toArray.isEmpty = true then 0 else x.toNat) vs.toArray) = (repL vs x.toNat).toArray := by
    split
    · rename_i q
      have : vs = [] := by simpa using q
      subst this
      simp [repL_nil]
    · exact foldl_repL vs _
  refine wpAny_binaryOp_repeat_ref (T := "list") (U := "int") (by decide) ⟨_, hl, rfl⟩ (fun s' => typeIs_int s' x u) noFill_list_mul PySem.F.fills_int_mul PySem.F.slot_int_rmul repeat_list PySem.F.slot_int_index.lookup
    (call_meets PySem.F.slot_int_rmul (typeIs_int s x u) PySem.F.entry_int_rmul (PySem.F.args_int_rmul_2 _ _) (int___rmul___int_list x u l vs.toArray k)
      ⟨hl, rfl, ⟨_, hl, rfl⟩, call_meets PySem.F.slot_list_mul ⟨_, hl, rfl⟩ PySem.F.entry_list_mul (PySem.F.args_list_mul_2 _ _)
        (AutoListH.list___mul___list_int_3 l vs.toArray k x u (by simp [Builtin.List.listFitsIndex]; omega) (by rw [List.size_toArray]; omega) (by simp [Builtin.List.listTooLong, sizeLine]; omega))
        ⟨hl, ?_⟩⟩)
  rw [e]; exact h
theorem bAdd : Bin X (binaryOp .Add) addT := by
  intro A P x y t u v s d rm k0 hp rx ry e Q E k
  unfold addT at e
  split at e
  · cases e
    simp only [RW, R] at rx ry
    obtain ⟨_, rfl⟩ := rx; obtain ⟨_, rfl⟩ := ry
    exact PyProof.Rows.add_int (k _ _ _ (Kp.refl _) (R.of_int _ _))
  · rename_i a b
    split at e
    · rename_i q
      cases e
      simp only [RW, R] at rx ry
      obtain ⟨_, rfl⟩ := rx; obtain ⟨_, rfl⟩ := ry
      refine PyProof.Rows.add_str (fun t' tk => ?_) (by simp only [Str.length, List.size_toArray]; exact Nat.le_trans q lim_le)
      have e : (⟨a.toArray⟩ : Str) ++ (⟨b.toArray⟩ : Str) = ⟨(a ++ b).toArray⟩ := by show Str.append _ _ = _; simp [Str.append]
      rw [e]
      exact k _ _ _ (Kp.refl _) (R.of_str _ _)
    · cases e
  · split at e
    · rename_i q
      cases e
      simp only [RW] at rx ry
      obtain ⟨l, vs, n, rfl, hl, hvs⟩ := rx; obtain ⟨l', ws, n', rfl, hl', hws⟩ := ry
      refine add_listsX hl hl' (k _ _ s.toks (Kp.push _ _) (R.newLst hp (hvs.append hws))) (by rw [hvs.length, hws.length]; exact Nat.le_trans q lim_le)
    · cases e
  · cases e
theorem bSub : Bin X (binaryOp .Sub) subT := by
  intro A P x y t u v s d rm k0 hp rx ry e Q E k
  unfold subT at e
  split at e
  · cases e
    simp only [RW, R] at rx ry
    obtain ⟨_, rfl⟩ := rx; obtain ⟨_, rfl⟩ := ry
    exact PyProof.Rows.sub_int (k _ _ _ (Kp.refl _) (R.of_int _ _))
  · cases e
theorem bMul : Bin X (binaryOp .Mult) mulT := by
  intro A P x y t u v s d rm k0 hp rx ry e Q E k
  unfold mulT at e
  split at e
  · split at e
    · rename_i q
      cases e
      simp only [RW, R] at rx ry
      obtain ⟨_, rfl⟩ := rx; obtain ⟨_, rfl⟩ := ry
      exact PyProof.Rows.mul_int (k _ _ _ (Kp.refl _) (R.of_int _ _)) (IntMulOk.of_right (bits_small q))
    · cases e
  · rename_i a n
    split at e
    · rename_i q
      cases e
      simp only [RW, R] at rx ry
      obtain ⟨_, rfl⟩ := rx; obtain ⟨_, rfl⟩ := ry
      obtain ⟨q1, q2, q3⟩ := q
      have hl : lim = 100000 := rfl
      have q2' : a.length * n.toNat ≤ 100000 := q2
      have hok : MulOk ⟨a.toArray⟩ n := by
        have hln : (⟨a.toArray⟩ : Str).length = a.length := by simp [Str.length]
        refine ⟨?_, ?_, ?_⟩
        · have h1 : ¬ n < -(2 ^ 63 : Int) := by omega
          have h2 : ¬ n ≥ 2 ^ 63 := by omega
          rw [decide_eq_false h1, decide_eq_false h2]; rfl
        · intro h1 h2 h3
          rw [hln] at h3
          have hn : 1 ≤ n.toNat := by omega
          have ha : a.length ≤ a.length * n.toNat := Nat.le_mul_of_pos_right _ hn
          have hd : (2 ^ 63 - 1 : Int) / n ≥ (2 ^ 63 - 1 : Int) / 100000 := by
            have : (2 ^ 63 - 1 : Int) / n ≥ 92233720368547 := by
              rw [ge_iff_le, Int.le_ediv_iff_mul_le (by omega)]
              omega
            omega
          omega
        · intro h1 h2
          rw [hln]
          simp only [Builtin.Str.tooLong, decide_eq_false_iff_not]
          have : (100000 : Nat) ≤ sizeLine := by decide
          omega
      refine SB.mul hok fun t' tk => ?_
      have e : Txt.mul ⟨a.toArray⟩ n = ⟨(repL a n.toNat).toArray⟩ := by
        unfold Txt.mul
        split
        · rename_i h; have : n.toNat = 0 := by omega
          rw [this]; rfl
        · split
          · rename_i h1 h2
            rcases Bool.or_eq_true_iff.mp h2 with z | z
            · have : n = 1 := by simpa using z
              subst this
              simp [repL]
            · have : a = [] := by simpa [Str.length] using z
              subst this
              simp [repL_nil]
          · rw [foldl_repL]
      rw [e]
      exact k _ _ _ (Kp.refl _) (R.of_str _ _)
    · cases e
  · rename_i a n
    split at e
    · rename_i q
      cases e
      simp only [RW, R] at rx ry
      obtain ⟨l, vs, m, rfl, hl, hvs⟩ := rx; obtain ⟨_, rfl⟩ := ry
      obtain ⟨q1, q2, q3⟩ := q
      have hl' : lim = 100000 := rfl
      have q2' : a.length * n.toNat ≤ 100000 := q2
      refine mul_listX hl (by omega) (by omega) (by rw [hvs.length]; omega) (k _ _ s.toks (Kp.push _ _) (R.newLst hp (hvs.rep _)))
    · cases e
  · cases e
theorem bDiv : Bin X (binaryOp .FloorDiv) divT := by
  intro A P x y t u v s d rm k0 hp rx ry e Q E k
  unfold divT at e
  split at e
  · split at e
    · rename_i q
      obtain ⟨q1, q2⟩ := Bool.and_eq_true_iff.mp q
      cases e
      simp only [RW, R] at rx ry
      obtain ⟨_, rfl⟩ := rx; obtain ⟨_, rfl⟩ := ry
      exact PyProof.Rows.floordiv_int (by simpa using q2) (k _ _ _ (Kp.refl _) (R.of_int _ _)) (.inl (PyProof.noPylong_small (small_lt q1)))
    · cases e
  · cases e
theorem bMod : Bin X (binaryOp .Mod) modT := by
  intro A P x y t u v s d rm k0 hp rx ry e Q E k
  unfold modT at e
  split at e
  · split at e
    · rename_i q
      cases e
      simp only [RW, R] at rx ry
      obtain ⟨_, rfl⟩ := rx; obtain ⟨_, rfl⟩ := ry
      exact PyProof.Rows.mod_int (by simpa using q) (k _ _ _ (Kp.refl _) (R.of_int _ _))
    · cases e
  · cases e
theorem rBin {sc : Sc} {d : Nat} {a b : Expr} {op : Operator} {pos : Pos} {fa fb : List T → Option T} {o : T → T → Option T} (ho : Bin X (binaryOp op) o) (ha : RefW X sc d a fa) (hb : RefW X sc d b fb) : RefE X sc d (.BinOp a op b pos) (e2 o fa fb) := by
  intro A env P₀ g σ s μ val t r S L hf Q E k
  obtain ⟨x, y, q1, q2, q3⟩ := e2_some hf
  refine wpAny_BinOp (rTwo ha hb r S L q1 q2 fun u v h' tk k' L' r1 r2 => ?_)
  exact ho A _ x y t u v _ d r L'.keep₀ L'.freeP r1 r2 q3 _ _ fun z h'' tk'' k'' rz => k z h'' tk'' (k'.trans k'') rz
end
end Mine
end
noncomputable section
set_option Elab.async false
set_option linter.unusedVariables false
namespace Mine
open PySem PySem.W PySem.Calls PyProof.Rows
mutual
/-- plain data (ints, bools, None, lists and tuples of them) of at most this depth -/
noncomputable def dat : T → Nat → Bool
  | .none, _ => true
  | .bool _, _ => true
  | .int _, _ => true
  | .tup l, n + 1 => datL l n
  | .lst l, n + 1 => datL l n
  | _, _ => false
noncomputable def datL : List T → Nat → Bool
  | [], _ => true
  | t :: ts, n => dat t n && datL ts n
end
mutual
noncomputable def toPy : T → PyData
  | .none => .none
  | .bool b => .bool b
  | .int i => .int i
  | .tup l => .tuple (toPyL l)
  | .lst l => .list (toPyL l)
  | _ => .none
noncomputable def toPyL : List T → List PyData
  | [] => []
  | t :: ts => toPy t :: toPyL ts
end
mutual
noncomputable def teq : T → T → Bool
  | .none, .none => true
  | .bool a, .bool b => a == b
  | .bool a, .int b => (if a then 1 else 0) == b
  | .int a, .bool b => a == (if b then 1 else 0)
  | .int a, .int b => a == b
  | .tup a, .tup b => teqL a b
  | .lst a, .lst b => teqL a b
  | _, _ => false
noncomputable def teqL : List T → List T → Bool
  | [], [] => true
  | a :: as, b :: bs => teq a b && teqL as bs
  | _, _ => false
end
mutual
theorem teq_eqv : ∀ (a b : T) (n m : Nat), dat a n = true → dat b m = true → PyData.eqv (toPy a) (toPy b) = teq a b := by
  intro a b n m ha hb
  cases a <;> cases b <;> first
    | (simp [dat] at ha; done) | (simp [dat] at hb; done)
    | (simp only [toPy, PyData.eqv, teq]; done)
    | skip
  case tup.tup x y =>
    cases n with
    | zero => simp [dat] at ha
    | succ n => cases m with
      | zero => simp [dat] at hb
      | succ m =>
        simp only [dat] at ha hb
        simp only [toPy, PyData.eqv, teq]
        exact teqL_eqv x y n m ha hb
  case lst.lst x y =>
    cases n with
    | zero => simp [dat] at ha
    | succ n => cases m with
      | zero => simp [dat] at hb
      | succ m =>
        simp only [dat] at ha hb
        simp only [toPy, PyData.eqv, teq]
        exact teqL_eqv x y n m ha hb
theorem teqL_eqv : ∀ (a b : List T) (n m : Nat), datL a n = true → datL b m = true → PyData.eqvAll (toPyL a) (toPyL b) = teqL a b := by
  intro a b n m ha hb
  cases a with
  | nil => cases b <;> simp [toPyL, PyData.eqvAll, teqL]
  | cons a as => cases b with
    | nil => simp [toPyL, PyData.eqvAll, teqL]
    | cons b bs =>
      simp only [datL, Bool.and_eq_true] at ha hb
      simp only [toPyL, PyData.eqvAll, teqL]
      rw [teq_eqv a b n m ha.1 hb.1, teqL_eqv as bs n m ha.2 hb.2]
end
mutual
theorem dat_lay : ∀ (a : T) (n : Nat), dat a n = true → (toPy a).canLay0 = true ∧ (toPy a).depth ≤ n := by
  intro a n h
  cases a <;> first | (simp [dat] at h; done) | (simp [toPy, PyData.canLay0, PyData.depth]; done) | skip
  case tup x =>
    cases n with
    | zero => simp [dat] at h
    | succ n =>
      simp only [dat] at h
      have := datL_lay x n h
      simp only [toPy, PyData.canLay0, PyData.depth]
      exact ⟨this.1, by omega⟩
  case lst x =>
    cases n with
    | zero => simp [dat] at h
    | succ n =>
      simp only [dat] at h
      have := datL_lay x n h
      simp only [toPy, PyData.canLay0, PyData.depth]
      exact ⟨this.1, by omega⟩
theorem datL_lay : ∀ (a : List T) (n : Nat), datL a n = true → PyData.canLayAll0 (toPyL a) = true ∧ PyData.depthAll (toPyL a) ≤ n := by
  intro a n h
  cases a with
  | nil => simp [toPyL, PyData.canLayAll0, PyData.depthAll]
  | cons a as =>
    simp only [datL, Bool.and_eq_true] at h
    have h1 := dat_lay a n h.1
    have h2 := datL_lay as n h.2
    simp only [toPyL, PyData.canLayAll0, PyData.depthAll]
    exact ⟨by rw [h1.1, h2.1]; rfl, by omega⟩
end
theorem dat_shaped {a : T} {n : Nat} (h : dat a n = true) (hn : n ≤ 64) : SeqAt.shaped (toPy a) = true := by
  have := dat_lay a n h
  unfold SeqAt.shaped
  rw [this.1, decide_eq_true (by omega : (toPy a).depth ≤ 64)]; rfl
mutual
theorem R.reads {X : Cx} {P : Addr → Prop} {h : Heap} : ∀ (t : T) {v : Value} (n : Nat), R X P h t v → dat t n = true → ∃ as, Reads h v (toPy t) as := by
  intro t v n r d
  cases t <;> first | (simp [dat] at d; done) | skip
  case none => simp only [R] at r; subst r; exact ⟨_, .none⟩
  case bool b => simp only [R] at r; subst r; exact ⟨_, .bool b⟩
  case int i => simp only [R] at r; obtain ⟨k, rfl⟩ := r; exact ⟨_, .int i k⟩
  case tup l =>
    cases n with
    | zero => simp [dat] at d
    | succ n =>
      simp only [dat] at d
      simp only [R] at r
      obtain ⟨a, vs, k, rfl, _, g, q⟩ := r
      obtain ⟨as, z⟩ := RL.reads l n q d
      exact ⟨_, .tuple g rfl rfl z⟩
  case lst l =>
    cases n with
    | zero => simp [dat] at d
    | succ n =>
      simp only [dat] at d
      simp only [R] at r
      obtain ⟨a, vs, k, rfl, _, g, q⟩ := r
      obtain ⟨as, z⟩ := RL.reads l n q d
      exact ⟨_, .list g rfl rfl z⟩
theorem RL.reads {X : Cx} {P : Addr → Prop} {h : Heap} : ∀ (t : List T) {v : List Value} (n : Nat), RL X P h t v → datL t n = true → ∃ as, ReadsAll h v (toPyL t) as := by
  intro t v n r d
  cases t with
  | nil => simp only [RL] at r; subst r; exact ⟨_, .nil⟩
  | cons t ts =>
    simp only [datL, Bool.and_eq_true] at d
    simp only [RL] at r
    obtain ⟨v, vs, rfl, r1, r2⟩ := r
    obtain ⟨as, z⟩ := R.reads t n r1 d.1
    obtain ⟨bs, z'⟩ := RL.reads ts n r2 d.2
    exact ⟨_, .cons z z'⟩
end
theorem RW.reads {X : Cx} {P : Addr → Prop} {h : Heap} {t : T} {v : Value} {n : Nat} (r : RW X P h t v) (d : dat t n = true) : ∃ as, Reads h v (toPy t) as := by
  cases t with
  | lst l =>
    cases n with
    | zero => simp [dat] at d
    | succ n =>
      simp only [dat] at d
      obtain ⟨a, vs, k, rfl, g, q⟩ := r
      obtain ⟨as, z⟩ := RL.reads l n q d
      exact ⟨_, .list g rfl rfl z⟩
  | _ => exact R.reads (X := X) (P := P) _ n r d
/-- y stands somewhere in the list -/
noncomputable def subIn (y : List Nat) : List Nat → Bool
  | [] => y.isEmpty
  | c :: r => y.isPrefixOf (c :: r) || subIn y r
theorem subIn_iff (y : List Nat) : ∀ x : List Nat, subIn y x = true ↔ ∃ i, i + y.length ≤ x.length ∧ (x.drop i).take y.length = y
  | [] => by
    simp only [subIn, List.isEmpty_iff, List.length_nil, List.drop_nil, List.take_nil]
    constructor
    · rintro rfl; exact ⟨0, by simp⟩
    · rintro ⟨i, h, e⟩; exact e.symm
  | c :: r => by
    simp only [subIn, Bool.or_eq_true, subIn_iff y r, List.isPrefixOf_iff_prefix]
    constructor
    · rintro (h | ⟨i, h, e⟩)
      · refine ⟨0, ?_, ?_⟩
        · simpa using h.length_le
        · simpa using (List.prefix_iff_eq_take.mp h).symm
      · exact ⟨i + 1, by simp only [List.length_cons]; omega, by simpa using e⟩
    · rintro ⟨i, h, e⟩
      cases i with
      | zero => left; rw [List.prefix_iff_eq_take]; simpa using e.symm
      | succ i => right; exact ⟨i, by simp only [List.length_cons] at h; omega, by simpa using e⟩
theorem contains_eq (x y : List Nat) : Txt.contains ⟨x.toArray⟩ ⟨y.toArray⟩ = subIn y x := by
  rw [Bool.eq_iff_iff, subIn_iff]
  unfold Txt.contains
  rw [StrLaws.found_iff]
  constructor
  · rintro ⟨i, h, e⟩
    rw [StrLaws.subAt_eq] at e
    exact ⟨i, by simpa [Str.length] using h, by simpa [Str.length] using e⟩
  · rintro ⟨i, h, e⟩
    refine ⟨i, by simpa [Str.length] using h, ?_⟩
    rw [StrLaws.subAt_eq]
    simpa [Str.length] using e
noncomputable def eqT : T → T → Option Bool
  | .int a, .int b => some (a == b)
  | .str a, .str b => some (a == b)
  | a, b => if dat a 6 && dat b 6 then some (teq a b) else none
noncomputable def neT : T → T → Option Bool
  | .int a, .int b => some (a != b)
  | .str a, .str b => some (a != b)
  | a, b => if dat a 6 && dat b 6 then some (!teq a b) else none
noncomputable def ltT : T → T → Option Bool
  | .int a, .int b => some (decide (a < b))
  | _, _ => none
noncomputable def leT : T → T → Option Bool
  | .int a, .int b => some (decide (a ≤ b))
  | _, _ => none
noncomputable def gtT : T → T → Option Bool
  | .int a, .int b => some (decide (b < a))
  | _, _ => none
noncomputable def geT : T → T → Option Bool
  | .int a, .int b => some (decide (b ≤ a))
  | _, _ => none
noncomputable def isnT : T → T → Option Bool
  | .bool a, .bool b => some (a != b)
  | _, _ => none
noncomputable def inT : T → T → Option Bool
  | .int a, .lst l => if datL l 2 then some (l.any fun t => teq t (.int a)) else none
  | _, _ => none
noncomputable def ninT : T → T → Option Bool
  | .str y, .str x => some (!subIn y x)
  | _, _ => none
noncomputable def Cmp (X : Cx) (op : CmpOp) (o : T → T → Option Bool) : Prop :=
  ∀ (A : Around) (P : Addr → Prop) (x y : T) (b : Bool) (u v : Value) (s : Shared) (d : Nat), Room A d → RW X P s.heap x u → RW X P s.heap y v → o x y = some b →
    ∀ (Q : Value → Shared → Prop) (E : Value → Shared → Prop), Q (.bool b) s → wpAny (model X.prog X.w) A (compareOp op u v) Q E s
section
variable {X : Cx}
theorem units64 {A : Around} {d : Nat} (r : Room A d) : A.units + 64 < cLine := by have := r.units; omega
theorem str_beq (a b : List Nat) : ((⟨a.toArray⟩ : Str) == (⟨b.toArray⟩ : Str)) = (a == b) := by
  rw [Bool.eq_iff_iff, beq_iff_eq, beq_iff_eq]
  constructor
  · intro h; have := congrArg (fun s : Str => s.cps.toList) h; simpa using this
  · rintro rfl; rfl
theorem cEq : Cmp X .Eq eqT := by
  intro A P x y b u v s d rm rx ry e Q E k
  have gen : (dat x 6 && dat y 6) = true → teq x y = b → wpAny (model X.prog X.w) A (compareOp .Eq u v) Q E s := by
    intro q z
    obtain ⟨q1, q2⟩ := Bool.and_eq_true_iff.mp q
    obtain ⟨_, r1⟩ := rx.reads q1
    obtain ⟨_, r2⟩ := ry.reads q2
    refine eq_dataH r1 r2 (dat_shaped q1 (by omega)) (dat_shaped q2 (by omega)) (units64 rm) ?_
    rw [teq_eqv _ _ _ _ q1 q2, z]; exact k
  unfold eqT at e
  split at e
  · cases e
    simp only [RW, R] at rx ry
    obtain ⟨_, rfl⟩ := rx; obtain ⟨_, rfl⟩ := ry
    exact PyProof.Rows.eq_int k
  · cases e
    simp only [RW, R] at rx ry
    obtain ⟨_, rfl⟩ := rx; obtain ⟨_, rfl⟩ := ry
    exact PyProof.Rows.eq_str (by rw [str_beq]; exact k)
  · split at e
    · rename_i q; cases e; exact gen q rfl
    · cases e
theorem cNe : Cmp X .NotEq neT := by
  intro A P x y b u v s d rm rx ry e Q E k
  have gen : (dat x 6 && dat y 6) = true → (!teq x y) = b → wpAny (model X.prog X.w) A (compareOp .NotEq u v) Q E s := by
    intro q z
    obtain ⟨q1, q2⟩ := Bool.and_eq_true_iff.mp q
    obtain ⟨_, r1⟩ := rx.reads q1
    obtain ⟨_, r2⟩ := ry.reads q2
    refine ne_dataH r1 r2 (dat_shaped q1 (by omega)) (dat_shaped q2 (by omega)) (units64 rm) ?_
    rw [teq_eqv _ _ _ _ q1 q2, z]; exact k
  unfold neT at e
  split at e
  · cases e
    simp only [RW, R] at rx ry
    obtain ⟨_, rfl⟩ := rx; obtain ⟨_, rfl⟩ := ry
    exact PyProof.Rows.ne_int k
  · rename_i a b'
    cases e
    simp only [RW, R] at rx ry
    obtain ⟨_, rfl⟩ := rx; obtain ⟨_, rfl⟩ := ry
    refine PyProof.Rows.ne_str ?_
    have : ((⟨a.toArray⟩ : Str) != (⟨b'.toArray⟩ : Str)) = (a != b') := by unfold bne; rw [str_beq]
    rw [this]; exact k
  · split at e
    · rename_i q; cases e; exact gen q rfl
    · cases e
theorem cLt : Cmp X .Lt ltT := by
  intro A P x y b u v s d rm rx ry e Q E k
  unfold ltT at e
  split at e
  · cases e; simp only [RW, R] at rx ry; obtain ⟨_, rfl⟩ := rx; obtain ⟨_, rfl⟩ := ry; exact PyProof.Rows.lt_int k
  · cases e
theorem cLe : Cmp X .LtE leT := by
  intro A P x y b u v s d rm rx ry e Q E k
  unfold leT at e
  split at e
  · cases e; simp only [RW, R] at rx ry; obtain ⟨_, rfl⟩ := rx; obtain ⟨_, rfl⟩ := ry; exact PyProof.Rows.le_int k
  · cases e
theorem cGt : Cmp X .Gt gtT := by
  intro A P x y b u v s d rm rx ry e Q E k
  unfold gtT at e
  split at e
  · cases e; simp only [RW, R] at rx ry; obtain ⟨_, rfl⟩ := rx; obtain ⟨_, rfl⟩ := ry; exact PyProof.Rows.gt_int k
  · cases e
theorem cGe : Cmp X .GtE geT := by
  intro A P x y b u v s d rm rx ry e Q E k
  unfold geT at e
  split at e
  · cases e; simp only [RW, R] at rx ry; obtain ⟨_, rfl⟩ := rx; obtain ⟨_, rfl⟩ := ry; exact PyProof.Rows.ge_int k
  · cases e
theorem cIsn : Cmp X .IsNot isnT := by
  intro A P x y b u v s d rm rx ry e Q E k
  unfold isnT at e
  split at e
  · rename_i a b'
    cases e; simp only [RW, R] at rx ry; subst rx; subst ry
    refine wpAny_isNot_plain rfl ?_
    have : (!(Value.bool a == Value.bool b')) = (a != b') := by cases a <;> cases b' <;> decide
    rw [this]; exact k
  · cases e
theorem any_toPy (a : Int) : ∀ (l : List T) (n : Nat), datL l n = true → ((toPyL l).any fun y => PyData.eqv y (.int a)) = l.any fun t => teq t (.int a)
  | [], _, _ => rfl
  | t :: ts, n, h => by
    simp only [datL, Bool.and_eq_true] at h
    simp only [toPyL, List.any_cons, any_toPy a ts n h.2]
    rw [show PyData.eqv (toPy t) (.int a) = teq t (.int a) from teq_eqv t (.int a) n 1 h.1 rfl]
theorem cIn : Cmp X .In inT := by
  intro A P x y b u v s d rm rx ry e Q E k
  unfold inT at e
  split at e
  · rename_i a l
    split at e
    · rename_i q
      cases e
      obtain ⟨_, r1⟩ := rx.reads (n := 1) rfl
      obtain ⟨_, r2⟩ := ry.reads (n := 3) (by simpa [dat] using q)
      have hl := datL_lay l 2 q
      refine SeqAt.in_list_reads r2 r1 hl.1 rfl ?_ ?_
      · have := rm.units
        have : min (PyData.depthAll (toPyL l)) (toPy (.int a)).depth ≤ 2 := Nat.le_trans (Nat.min_le_left _ _) hl.2
        omega
      · rw [show (toPy (.int a)) = .int a from rfl, any_toPy a l 2 q]; exact k
    · cases e
  · cases e
theorem cNin : Cmp X .NotIn ninT := by
  intro A P x y b u v s d rm rx ry e Q E k
  unfold ninT at e
  split at e
  · cases e; simp only [RW, R] at rx ry; obtain ⟨_, rfl⟩ := rx; obtain ⟨_, rfl⟩ := ry
    exact SB.notContains (by rw [contains_eq]; exact k)
  · cases e
variable {sc : Sc} {d : Nat}
theorem rCmp {a b : Expr} {op : CmpOp} {pos : Pos} {fa fb : List T → Option T} {o : T → T → Option Bool} (ho : Cmp X op o) (ha : RefW X sc d a fa) (hb : RefW X sc d b fb) (hm : behindInMarks op b = false) : RefE X sc d (.Compare a [op] [b] pos) (bT (t2 o fa fb)) := by
  intro A env P₀ g σ s μ val t r S L hf Q E k
  unfold bT at hf
  split at hf
  · rename_i bb q
    cases hf
    obtain ⟨x, y, q1, q2, q3⟩ := t2_some q
    refine wpAny_Compare1 (rTwo ha hb r S L q1 q2 fun u v h' tk k' L' r1 r2 => ?_) hm
    exact ho A _ x y bb u v _ d r r1 r2 q3 _ _ (k _ h' tk k' (R.of_bool _))
  · cases hf
theorem tCmp {a b : Expr} {op : CmpOp} {pos : Pos} {fa fb : List T → Option T} {o : T → T → Option Bool} (ho : Cmp X op o) (ha : RefW X sc d a fa) (hb : RefW X sc d b fb) (hm : behindInMarks op b = false) : RefT X sc d (.Compare a [op] [b] pos) (t2 o fa fb) := by
  intro A env P₀ g σ s μ val t r S L hf Q E k
  obtain ⟨x, y, q1, q2, q3⟩ := t2_some hf
  refine wpAny_isTrue_Compare1 (rTwo ha hb r S L q1 q2 fun u v h' tk k' L' r1 r2 => ?_) hm
  exact ho A _ x y t u v _ d r r1 r2 q3 _ _ (wpAny_truthy_bool (k h' tk k'))
noncomputable def tAnd (a b : List T → Option Bool) : List T → Option Bool := fun σ => match a σ with
  | some true => b σ
  | some false => some false
  | none => none
noncomputable def tOr (a b : List T → Option Bool) : List T → Option Bool := fun σ => match a σ with
  | some true => some true
  | some false => b σ
  | none => none
/-- a value that is a bool -/
noncomputable def tVal (a : List T → Option T) : List T → Option Bool := fun σ => match a σ with
  | some (.bool b) => some b
  | _ => none
noncomputable def eIf (c : List T → Option Bool) (a b : List T → Option T) : List T → Option T := fun σ => match c σ with
  | some true => a σ
  | some false => b σ
  | none => none
theorem tAnd_ {a b : Expr} {pos : Pos} {fa fb : List T → Option Bool} (ha : RefT X sc d a fa) (hb : RefT X sc d b fb) : RefT X sc d (.BoolOp .And [a, b] pos) (tAnd fa fb) := by
  intro A env P₀ g σ s μ val t r S L hf Q E k
  refine wpAny_isTrue_BoolOp (wpAny_allTrue_And_cons ?_)
  unfold tAnd at hf
  split at hf
  · rename_i q
    refine ha A env P₀ g σ s μ val true r S L q _ _ fun h' tk k' => ?_
    refine wpAny_allTrue_And_cons ?_
    refine hb A env P₀ g σ _ μ val t r S (L.at_ k') hf _ _ fun h'' tk' k'' => ?_
    cases t with
    | true => exact wpAny_allTrue_And_nil (k _ _ (k'.trans k''))
    | false => exact k _ _ (k'.trans k'')
  · rename_i q
    cases hf
    exact ha A env P₀ g σ s μ val false r S L q _ _ fun h' tk k' => k h' tk k'
  · cases hf
theorem tOr_ {a b : Expr} {pos : Pos} {fa fb : List T → Option Bool} (ha : RefT X sc d a fa) (hb : RefT X sc d b fb) : RefT X sc d (.BoolOp .Or [a, b] pos) (tOr fa fb) := by
  intro A env P₀ g σ s μ val t r S L hf Q E k
  refine wpAny_isTrue_BoolOp (wpAny_allTrue_Or_cons ?_)
  unfold tOr at hf
  split at hf
  · rename_i q
    cases hf
    exact ha A env P₀ g σ s μ val true r S L q _ _ fun h' tk k' => k h' tk k'
  · rename_i q
    refine ha A env P₀ g σ s μ val false r S L q _ _ fun h' tk k' => ?_
    refine wpAny_allTrue_Or_cons ?_
    refine hb A env P₀ g σ _ μ val t r S (L.at_ k') hf _ _ fun h'' tk' k'' => ?_
    cases t with
    | true => exact k _ _ (k'.trans k'')
    | false => exact wpAny_allTrue_Or_nil (k _ _ (k'.trans k''))
  · cases hf
theorem tVal_ {a : Expr} {fa : List T → Option T} (ha : RefE X sc d a fa) (hw : ∀ (env : Env) (w : Sem Value), isTrue a env w = (do let v ← w; standAt a.pos; holding [v] (truthy v))) : RefT X sc d a (tVal fa) := by
  intro A env P₀ g σ s μ val t r S L hf Q E k
  unfold tVal at hf
  split at hf
  · rename_i b q
    cases hf
    rw [hw]
    refine wpAny_bind (ha A env P₀ g σ s μ val _ r S L q _ _ fun v h' tk k' rv => ?_)
    simp only [R] at rv
    subst rv
    exact wpAny_bind (wpAny_standAt (wpAny_holding (wpAny_truthy_bool (k h' tk k'))))
  · cases hf
theorem rIf {c a b : Expr} {pos : Pos} {fc : List T → Option Bool} {fa fb : List T → Option T} (hc : RefT X sc d c fc) (ha : RefE X sc d a fa) (hb : RefE X sc d b fb) : RefE X sc d (.IfExp c a b pos) (eIf fc fa fb) := by
  intro A env P₀ g σ s μ val t r S L hf Q E k
  refine wpAny_IfExp ?_
  unfold eIf at hf
  split at hf
  · rename_i q
    refine hc A env P₀ g σ s μ val true r S L q _ _ fun h' tk k' => ?_
    rw [if_pos rfl]
    exact ha A env P₀ g σ _ μ val t r S (L.at_ k') hf _ _ fun v h'' tk' k'' rv => k v _ _ (k'.trans k'') rv
  · rename_i q
    refine hc A env P₀ g σ s μ val false r S L q _ _ fun h' tk k' => ?_
    rw [if_neg (by decide)]
    exact hb A env P₀ g σ _ μ val t r S (L.at_ k') hf _ _ fun v h'' tk' k'' rv => k v _ _ (k'.trans k'') rv
  · cases hf
end
end Mine
end
noncomputable section
set_option Elab.async false
set_option linter.unusedVariables false
namespace Mine
open PySem PySem.W PySem.Calls PyProof.Rows
noncomputable def mkL (f : List T → Option (List T)) : List T → Option T := fun σ => match f σ with
  | some l => if l.length ≤ lim then some (.lst l) else none
  | none => none
noncomputable def mkT (f : List T → Option (List T)) : List T → Option T := fun σ => match f σ with
  | some l => if l.length ≤ lim then some (.tup l) else none
  | none => none
theorem mkL_some {f : List T → Option (List T)} {σ : List T} {t : T} (e : mkL f σ = some t) : ∃ l, f σ = some l ∧ l.length ≤ lim ∧ t = .lst l := by
  unfold mkL at e
  split at e
  · rename_i l q
    split at e
    · rename_i z; cases e; exact ⟨l, q, z, rfl⟩
    · cases e
  · cases e
theorem mkT_some {f : List T → Option (List T)} {σ : List T} {t : T} (e : mkT f σ = some t) : ∃ l, f σ = some l ∧ l.length ≤ lim ∧ t = .tup l := by
  unfold mkT at e
  split at e
  · rename_i l q
    split at e
    · rename_i z; cases e; exact ⟨l, q, z, rfl⟩
    · cases e
  · cases e
/-- the value is a new list of atoms -/
noncomputable def RefF (X : Cx) (sc : Sc) (d : Nat) (e : Expr) (f : List T → Option T) : Prop :=
  ∀ (A : Around) (env : Env) (P₀ : Addr → Prop) (g : Heap) (σ : List T) (s : Shared) (μ : List Addr) (val : Nat → Value) (t : T),
    Room A d → Scoped sc env → Rel X sc env P₀ g σ s.heap μ val → f σ = some t →
    ∀ (Q : Value → Shared → Prop) (E : Value → Shared → Prop), (∀ a vs k l h' tk, Kp s.heap h' → s.heap.get? a = none → t = .lst l → h'.get? a = some (lstObj vs k) → RL X (fun _ => False) h' l vs → Q (.ref a) { s with heap := h', toks := tk }) →
      wpAny (model X.prog X.w) A (eval e env) Q E s
/-- all items are atoms -/
noncomputable def atoms (f : List T → Option T) : List T → Option T := fun σ => match f σ with
  | some (.lst l) => if datL l 0 then some (.lst l) else none
  | _ => none
theorem atoms_some {f : List T → Option T} {σ : List T} {t : T} (e : atoms f σ = some t) : ∃ l, f σ = some (.lst l) ∧ datL l 0 = true ∧ t = .lst l := by
  unfold atoms at e
  split at e
  · rename_i l q
    split at e
    · rename_i z; cases e; exact ⟨l, q, z, rfl⟩
    · cases e
  · cases e
theorem R.atom {X : Cx} {P P' : Addr → Prop} {h h' : Heap} {t : T} {v : Value} (d : dat t 0 = true) (r : R X P h t v) : R X P' h' t v := by
  cases t <;> first | (simp [dat] at d; done) | (simpa [R] using r)
theorem RL.atom {X : Cx} {P P' : Addr → Prop} {h h' : Heap} : ∀ {t : List T} {v : List Value}, datL t 0 = true → RL X P h t v → RL X P' h' t v
  | [], _, _, r => by simpa [RL] using r
  | t :: ts, _, d, r => by
    simp only [datL, Bool.and_eq_true] at d
    simp only [RL] at r ⊢
    obtain ⟨v, vs, e, r1, r2⟩ := r
    exact ⟨v, vs, e, R.atom d.1 r1, RL.atom d.2 r2⟩
theorem RL.of_no {X : Cx} {P' : Addr → Prop} {h h' : Heap} {t : List T} {v : List Value} (r : RL X (fun _ => False) h t v) : RL X P' h' t v := RL.mono (fun _ _ p _ => p.elim) (fun _ _ p _ => p.elim) t r
section
variable {X : Cx} {sc : Sc} {d : Nat}
theorem rL0 : RefL X sc d [] eL0 := by
  intro A env P₀ g σ s μ val ts pos r S L hf Q E k
  cases hf
  exact wpAny_items_nil (k [] s.heap s.toks (Kp.refl _) .nil)
theorem rLc {a : Expr} {es : List Expr} {fa : List T → Option T} {fb : List T → Option (List T)} (ha : RefE X sc d a fa) (hb : RefL X sc d es fb)
    (he : ∀ env, starEach (a :: es) env = (false, eval a env) :: starEach es env := by intro _; rfl) : RefL X sc d (a :: es) (eLc fa fb) := by
  intro A env P₀ g σ s μ val ts pos r S L hf Q E k
  obtain ⟨x, y, q1, q2, rfl⟩ := eLc_some hf
  refine wpAny_items_cons (ha A env P₀ g σ s μ val x r S L q1 _ _ fun v h' tk k' rv => ?_) (he env)
  exact hb A env P₀ g σ _ μ val y pos r S (L.at_ k') q2 _ _ fun vs h'' tk' k'' rl => k _ h'' tk' (k'.trans k'') (.cons (rv.keeps k'') rl)
theorem rList {es : List Expr} {pos : Pos} {f : List T → Option (List T)} (h : RefL X sc d es f) : RefE X sc d (.List es pos) (mkL f) := by
  intro A env P₀ g σ s μ val t r S L hf Q E k
  obtain ⟨l, q, z, rfl⟩ := mkL_some hf
  refine wpAny_List (h A env P₀ g σ s μ val l pos r S L q _ _ fun vs h' tk k' rl => ⟨?_, ?_⟩)
  · rw [rl.length]; exact Nat.le_trans z lim_le
  · exact k _ _ tk (k'.trans (Kp.push _ _)) (R.newLst (L.keeps k').freeP rl)
theorem fList {es : List Expr} {pos : Pos} {f : List T → Option (List T)} (h : RefL X sc d es f) : RefF X sc d (.List es pos) (atoms (mkL f)) := by
  intro A env P₀ g σ s μ val t r S L hf Q E k
  obtain ⟨l', q', z', rfl⟩ := atoms_some hf
  obtain ⟨l, q, z, e⟩ := mkL_some q'
  cases e
  refine wpAny_List (h A env P₀ g σ s μ val l' pos r S L q _ _ fun vs h' tk k' rl => ⟨?_, ?_⟩)
  · rw [rl.length]; exact Nat.le_trans z lim_le
  · exact k _ vs 0 l' _ tk (k'.trans (Kp.push _ _)) (k'.fresh (fresh_size _)) rfl (Heap.get?_push_size _ rfl) (rl.atom z')
theorem rTuple {es : List Expr} {n : Nat} {pos : Pos} {f : List T → Option (List T)} (h : RefL X sc d es f) : RefE X sc d (.Tuple es n pos) (mkT f) := by
  intro A env P₀ g σ s μ val t r S L hf Q E k
  obtain ⟨l, q, z, rfl⟩ := mkT_some hf
  refine wpAny_Tuple (h A env P₀ g σ s μ val l pos r S L q _ _ fun vs h' tk k' rl => ⟨?_, ?_⟩)
  · rw [rl.length]; exact Nat.le_trans z lim_le
  · exact k _ _ tk (k'.trans (Kp.push _ _)) (R.newTup (L.keeps k').freeP rl)
theorem fAdd {a b : Expr} {pos : Pos} {fa fb : List T → Option T} (ha : RefW X sc d a fa) (hb : RefW X sc d b fb) : RefF X sc d (.BinOp a .Add b pos) (atoms (e2 addT fa fb)) := by
  intro A env P₀ g σ s μ val t r S L hf Q E k
  obtain ⟨l, q', z', rfl⟩ := atoms_some hf
  obtain ⟨x, y, q1, q2, q3⟩ := e2_some q'
  refine wpAny_BinOp (rTwo ha hb r S L q1 q2 fun u v h' tk k' L' r1 r2 => ?_)
  unfold addT at q3
  split at q3
  · cases q3
  · split at q3 <;> cases q3
  · split at q3
    · rename_i q
      cases q3
      simp only [RW] at r1 r2
      obtain ⟨a1, vs, n, rfl, hl, hvs⟩ := r1; obtain ⟨a2, ws, n', rfl, hl', hws⟩ := r2
      refine add_listsX (s := { s with heap := h', toks := tk }) hl hl' (k _ (vs ++ ws) 0 _ _ tk (k'.trans (Kp.push _ _)) (k'.fresh (fresh_size _)) rfl (Heap.get?_push_size _ rfl) ((hvs.append hws).atom z')) (by rw [hvs.length, hws.length]; exact Nat.le_trans q lim_le)
    · cases q3
  · cases q3
theorem fMul {a b : Expr} {pos : Pos} {fa fb : List T → Option T} (ha : RefW X sc d a fa) (hb : RefW X sc d b fb) : RefF X sc d (.BinOp a .Mult b pos) (atoms (e2 mulT fa fb)) := by
  intro A env P₀ g σ s μ val t r S L hf Q E k
  obtain ⟨l, q', z', rfl⟩ := atoms_some hf
  obtain ⟨x, y, q1, q2, q3⟩ := e2_some q'
  refine wpAny_BinOp (rTwo ha hb r S L q1 q2 fun u v h' tk k' L' r1 r2 => ?_)
  unfold mulT at q3
  split at q3
  · split at q3 <;> cases q3
  · split at q3 <;> cases q3
  · rename_i a n
    split at q3
    · rename_i q
      cases q3
      simp only [RW, R] at r1 r2
      obtain ⟨a1, vs, m, rfl, hl, hvs⟩ := r1; obtain ⟨_, rfl⟩ := r2
      obtain ⟨q1, q2, q3⟩ := q
      have hl' : lim = 100000 := rfl
      have q2' : a.length * n.toNat ≤ 100000 := q2
      exact mul_listX (s := { s with heap := h', toks := tk }) hl (by omega) (by omega) (by rw [hvs.length]; omega) (k _ (repL vs n.toNat) 0 _ _ tk (k'.trans (Kp.push _ _)) (k'.fresh (fresh_size _)) rfl (Heap.get?_push_size _ rfl) ((hvs.rep _).atom z'))
    · cases q3
  · cases q3
/-- an item -/
noncomputable def idx (n : Nat) (i : Int) : Nat := if i < 0 then n - (-i).toNat else i.toNat
noncomputable def itemT : T → T → Option T
  | .lst l, .int i => if -lim ≤ i ∧ i ≤ lim ∧ -l.length ≤ i then (match l[idx l.length i]? with | some .unb => none | x => x) else none
  | .tup l, .int i => if -lim ≤ i ∧ i ≤ lim ∧ -l.length ≤ i then (match l[idx l.length i]? with | some .unb => none | x => x) else none
  | .str l, .int i => if -lim ≤ i ∧ i ≤ lim ∧ -l.length ≤ i then (match l[idx l.length i]? with | some c => some (.str [c]) | none => none) else none
  | _, _ => none
theorem seqIndex_idx {n : Nat} {i : Int} (h : -(n : Int) ≤ i) (hl : idx n i < n) : seqIndex? i n = some (idx n i) := by
  unfold idx at hl ⊢
  unfold seqIndex?
  split at hl
  · rename_i q
    rw [if_pos q]
    simp only [if_pos q]
    have h1 : 0 ≤ i + n := by omega
    have h2 : i + n < n := by omega
    simp only [h1, h2, decide_true, Bool.and_self, if_true]
    congr 1; omega
  · rename_i q
    simp only [if_neg q]
    have h1 : 0 ≤ i := by omega
    have h2 : i < n := by omega
    simp only [h1, h2, decide_true, Bool.and_self, if_true]
theorem rItem {a b : Expr} {pos : Pos} {fa fb : List T → Option T} (ha : RefW X sc d a fa) (hb : RefE X sc d b fb)
    (hs : ∀ o i, subscripted b false o i = operate [o, i] (getItem o i) := by intro _ _; rfl) : RefE X sc d (.Subscript a b pos) (e2 itemT fa fb) := by
  intro A env P₀ g σ s μ val t r S L hf Q E k
  obtain ⟨x, y, q1, q2, q3⟩ := e2_some hf
  refine Subscript_ (rTwo ha hb.w r S L q1 q2 fun u v h' tk k' L' r1 r2 => ?_)
  have hlim : lim = 100000 := rfl
  unfold itemT at q3
  split at q3
  · rename_i l i
    split at q3
    · rename_i q
      have q4 : l[idx l.length i]? = some t := by
        split at q3
        · cases q3
        · exact q3
      simp only [RW, R] at r1 r2
      obtain ⟨a1, vs, m, rfl, hl, hvs⟩ := r1; obtain ⟨_, rfl⟩ := r2
      obtain ⟨w, hw, rw_⟩ := hvs.get q4
      have hlt : idx l.length i < l.length := (List.getElem?_eq_some_iff.mp q4).1
      have hlen := hvs.length
      refine tail_any (T := "list") ⟨_, hl, rfl⟩ slot_list_getitem.lookup ?_ (hs _ _)
      by_cases hi : i < 0
      · refine wpAny_getItem_list_neg (items := vs.toArray) ⟨_, hl, rfl, _, rfl⟩ hi (by rw [List.size_toArray, hlen]; omega) (by omega) (x := w) ?_ (k _ h' tk k' rw_)
        rw [List.size_toArray, hlen]
        have : (i + (l.length : Int)).toNat = idx l.length i := by unfold idx; rw [if_pos hi]; omega
        rw [this]; simpa using hw
      · refine wpAny_getItem_list (items := vs.toArray) ⟨_, hl, rfl, _, rfl⟩ (by omega) (by omega) (x := w) ?_ (k _ h' tk k' rw_)
        have : i.toNat = idx l.length i := by unfold idx; rw [if_neg hi]
        rw [this]; simpa using hw
    · cases q3
  · rename_i l i
    split at q3
    · rename_i q
      have q4 : l[idx l.length i]? = some t := by
        split at q3
        · cases q3
        · exact q3
      simp only [RW, R] at r1 r2
      obtain ⟨a1, vs, m, rfl, _, hl, hvs⟩ := r1; obtain ⟨_, rfl⟩ := r2
      obtain ⟨w, hw, rw_⟩ := hvs.get q4
      have hlt : idx l.length i < l.length := (List.getElem?_eq_some_iff.mp q4).1
      have hlen := hvs.length
      refine tail_any (T := "tuple") ⟨_, hl, rfl⟩ slot_tuple_getitem.lookup ?_ (hs _ _)
      refine PyProof.Rows.getItem_tuple (items := vs.toArray) (j := idx l.length i) ⟨_, hl, rfl, _, rfl⟩ (by omega) (by omega) ?_ (x := w) ?_ (k _ h' tk k' rw_)
      · rw [List.size_toArray, hlen]; exact seqIndex_idx q.2.2 hlt
      · simpa using hw
    · cases q3
  · rename_i l i
    split at q3
    · rename_i q
      split at q3
      · rename_i c q4
        cases q3
        simp only [RW, R] at r1 r2
        obtain ⟨_, rfl⟩ := r1; obtain ⟨_, rfl⟩ := r2
        have hlt : idx l.length i < l.length := (List.getElem?_eq_some_iff.mp q4).1
        refine tail_any (T := "str") (typeIs_str _ _ _) F.slot_str_getitem.lookup ?_ (hs _ _)
        refine PyProof.Rows.getItem_str (c := c) ?_ ?_ (k _ h' _ k' (R.of_str [c] _))
        · have h1 : ¬ i < -(2 ^ 63 : Int) := by omega
          have h2 : ¬ i ≥ 2 ^ 63 := by omega
          rw [decide_eq_false h1, decide_eq_false h2]; rfl
        · have hlen : (⟨l.toArray⟩ : Str).length = l.length := by simp [Str.length]
          rw [hlen, seqIndex_idx q.2.2 hlt]
          simpa using q4
      · cases q3
    · cases q3
  · cases q3
end
end Mine
end
noncomputable section
set_option Elab.async false
set_option linter.unusedVariables false
namespace Mine
open PySem PySem.W PySem.Calls PyProof.Rows
noncomputable def clip (n : Nat) (i : Int) : Nat := if i < 0 then n - (-i).toNat else min i.toNat n
theorem clip_eq (n : Nat) (i : Int) : clipAt n i = clip n i := by
  have hm : ∀ x : Int, (max 0 x).toNat = x.toNat := fun x => by
    rcases Int.le_total 0 x with h | h
    · rw [Int.max_eq_right h]
    · rw [Int.max_eq_left h, Int.toNat_of_nonpos h]; rfl
  unfold clipAt clip
  rw [hm]
  split
  · rw [Int.min_eq_left (by omega)]
    omega
  · rename_i h
    obtain ⟨k, rfl⟩ := Int.eq_ofNat_of_zero_le (Int.not_lt.mp h)
    rcases Nat.le_total k n with q | q
    · rw [Int.min_eq_left (Int.ofNat_le.mpr q)]
      exact (Nat.min_eq_left q).symm
    · rw [Int.min_eq_right (Int.ofNat_le.mpr q)]
      exact (Nat.min_eq_right q).symm
noncomputable def cutL {α : Type} (l : List α) (lo hi : Option Int) : List α :=
  let a := lo.elim 0 (clip l.length)
  (l.drop a).take (hi.elim l.length (clip l.length) - a)
noncomputable def sliceT : T → Option Int → Option Int → Option T
  | .lst l, lo, hi => if l.length ≤ lim then some (.lst (cutL l lo hi)) else none
  | .str l, lo, hi => if l.length ≤ lim then some (.str (cutL l lo hi)) else none
  | _, _, _ => none
/-- a bound of a slice -/
noncomputable def RefP (X : Cx) (sc : Sc) (d : Nat) (e : Option Expr) (f : List T → Option (Option Int)) : Prop :=
  ∀ (A : Around) (env : Env) (P₀ : Addr → Prop) (g : Heap) (σ : List T) (s : Shared) (μ : List Addr) (val : Nat → Value) (i : Option Int),
    Room A d → Scoped sc env → Rel X sc env P₀ g σ s.heap μ val → f σ = some i →
    ∀ (Q : Value → Shared → Prop) (E : Value → Shared → Prop), (∀ p h' tk, Kp s.heap h' → p.map (·.1) = i → Q (partValue p) { s with heap := h', toks := tk }) →
      wpAny (model X.prog X.w) A (evalPart e env) Q E s
noncomputable def pNo : List T → Option (Option Int) := fun _ => some none
noncomputable def pSome (f : List T → Option T) : List T → Option (Option Int) := fun σ => match f σ with
  | some (.int i) => some (some i)
  | _ => none
noncomputable def eSlice (a : List T → Option T) (lo hi : List T → Option (Option Int)) : List T → Option T := fun σ => match a σ with
  | some x => (match lo σ with
    | some i => (match hi σ with
      | some j => sliceT x i j
      | none => none)
    | none => none)
  | none => none
theorem eSlice_some {a : List T → Option T} {lo hi : List T → Option (Option Int)} {σ : List T} {t : T} (e : eSlice a lo hi σ = some t) : ∃ x i j, a σ = some x ∧ lo σ = some i ∧ hi σ = some j ∧ sliceT x i j = some t := by
  unfold eSlice at e
  split at e
  · rename_i x q1
    split at e
    · rename_i i q2
      split at e
      · rename_i j q3; exact ⟨x, i, j, q1, q2, q3, e⟩
      · cases e
    · cases e
  · cases e
theorem isPart_partValue (p : Option (Int × Tok)) : IsPart (partValue p) (p.map (·.1)) := by
  cases p with
  | none => exact .none
  | some x => exact .int x.1 x.2
section
variable {X : Cx} {sc : Sc} {d : Nat}
theorem pNo_ : RefP X sc d none pNo := by
  intro A env P₀ g σ s μ val i r S L hf Q E k
  cases hf
  rw [evalPart_none]
  exact wpAny_pure (k none s.heap s.toks (Kp.refl _) rfl)
theorem pSome_ {e : Expr} {f : List T → Option T} (h : RefE X sc d e f) : RefP X sc d (some e) (pSome f) := by
  intro A env P₀ g σ s μ val i r S L hf Q E k
  unfold pSome at hf
  split at hf
  · rename_i n q
    cases hf
    rw [evalPart_some]
    refine h A env P₀ g σ s μ val _ r S L q _ _ fun v h' tk k' rv => ?_
    simp only [R] at rv
    obtain ⟨t, rfl⟩ := rv
    exact k (some (n, t)) h' tk k' rfl
  · cases hf
theorem slicePick_cut (vs : List Value) (lo hi : Option Int) : slicePick vs.toArray lo hi none = (cutL vs lo hi).toArray := by
  rw [slicePick_plain]
  unfold cutL
  have e : clipAt vs.toArray.size = clip vs.length := by funext i; rw [clip_eq, List.size_toArray]
  rw [e, List.size_toArray]
theorem strPick_cut (l : List Nat) (lo hi : Option Int) : ((Builtin.Str.strSliceIndices lo hi 1 l.length).filterMap (l.toArray[·]?)) = cutL l lo hi := by
  have h : Builtin.Str.strSliceIndices lo hi 1 l.length = sliceRange (sliceBounds lo hi none l.length).1 (sliceBounds lo hi none l.length).2.1 1 := by
    unfold Builtin.Str.strSliceIndices sliceBounds
    cases lo <;> cases hi <;> rfl
  rw [h, sliceBounds_plain]
  simp only [sliceRange_one, pick_run]
  unfold cutL
  have e : clipAt l.length = clip l.length := by funext i; rw [clip_eq]
  rw [e]
theorem RL.cut {P : Addr → Prop} {h : Heap} {l : List T} {vs : List Value} (x : RL X P h l vs) (lo hi : Option Int) : RL X P h (cutL l lo hi) (cutL vs lo hi) := by
  unfold cutL
  rw [x.length]
  exact (x.drop _).take _
theorem strSlice_length (l : List Nat) (lo hi : Option Int) : (cutL l lo hi).length ≤ l.length := by
  unfold cutL
  simp only [List.length_take, List.length_drop]; omega
theorem rSlice {a : Expr} {lo hi : Option Expr} {p pos : Pos} {fa : List T → Option T} {fl fh : List T → Option (Option Int)} (ha : RefW X sc d a fa) (hl : RefP X sc d lo fl) (hh : RefP X sc d hi fh) :
    RefE X sc d (.Subscript a (.Slice lo hi none p) pos) (eSlice fa fl fh) := by
  intro A env P₀ g σ s μ val t r S L hf Q E k
  obtain ⟨x, i, j, q1, q2, q3, q4⟩ := eSlice_some hf
  refine Subscript_ (ha A env P₀ g σ s μ val x r S L q1 _ _ fun u h₁ tk₁ k₁ r₁ => wpAny_Slice ?_)
  refine hl A env P₀ g σ _ μ val i r S (L.at_ k₁) q2 _ _ fun pl h₂ tk₂ k₂ e2 => ?_
  refine hh A env P₀ g σ _ μ val j r S (L.at_ (k₁.trans k₂)) q3 _ _ fun ph h₃ tk₃ k₃ e3 => ?_
  rw [evalPart_none]
  refine wpAny_pure ?_
  replace r₁ := r₁.keeps (k₂.trans k₃)
  have kk := (k₁.trans k₂).trans k₃
  unfold sliceT at q4
  split at q4
  · rename_i l
    split at q4
    · rename_i q
      cases q4
      simp only [RW] at r₁
      obtain ⟨a1, vs, m, rfl, hlst, hvs⟩ := r₁
      refine tail_any (T := "list") ⟨_, Heap.get?_push_of_some _ hlst, rfl⟩ list_getitem_lookup ?_ rfl
      refine wpAny_getItem_list_slice (items := vs.toArray) (lo := i) (hi := j) (st := none) ⟨_, Heap.get?_push_of_some _ hlst, rfl, _, rfl⟩ (Heap.IsSliceOf.new ..) (e2 ▸ isPart_partValue pl) (e3 ▸ isPart_partValue ph) .none (by simp) ?_ (by rw [List.size_toArray, hvs.length]; exact Nat.le_trans q lim_le)
      rw [slicePick_cut]
      refine k _ _ _ ((kk.trans (Kp.push _ _)).trans (Kp.push _ _)) ?_
      exact R.newLst (h := h₃.push _) (L.keeps (kk.trans (Kp.push _ _))).freeP ((hvs.cut i j).keeps (Kp.push _ _))
    · cases q4
  · rename_i l
    split at q4
    · rename_i q
      cases q4
      simp only [RW, R] at r₁
      obtain ⟨tt, rfl⟩ := r₁
      refine tail_any (T := "str") (typeIs_str _ _ _) F.slot_str_getitem.lookup ?_ rfl
      refine wpAny_getItem_str_slice (l := pl) (u := ph) (st := none) ⟨_, Heap.get?_push_size _ rfl, rfl, rfl⟩ rfl ?_
      have hlen : (⟨l.toArray⟩ : Str).length = l.length := by simp [Str.length]
      have hp : slicePicked ⟨l.toArray⟩ pl ph none = Builtin.Str.strSliceIndices i j 1 l.length := by unfold slicePicked; rw [hlen, e2, e3]; rfl
      have hc := strPick_cut l i j
      unfold sliceMade
      rw [hp]
      split
      · rename_i z
        have hz : (Builtin.Str.strSliceIndices i j 1 l.length).length = l.length := by
          have := (Bool.and_eq_true_iff.mp z).2
          rw [beq_iff_eq, hlen] at this; exact this
        have full : cutL l i j = l := by
          have h : Builtin.Str.strSliceIndices i j 1 l.length = sliceRange (sliceBounds i j none l.length).1 (sliceBounds i j none l.length).2.1 1 := by
            unfold Builtin.Str.strSliceIndices sliceBounds
            cases i <;> cases j <;> rfl
          rw [h, sliceBounds_plain] at hz
          simp only [sliceRange_one, List.length_map, List.length_range] at hz
          have e : clipAt l.length = clip l.length := by funext i; rw [clip_eq]
          rw [e] at hz
          unfold cutL
          have ha : i.elim 0 (clip l.length) = 0 ∨ l.length = 0 := by
            have h1 : j.elim l.length (clip l.length) ≤ l.length := by
              cases j with
              | none => simp
              | some j => simp only [Option.elim]; unfold clip; split <;> omega
            omega
          rcases ha with ha | ha
          · rw [ha] at hz ⊢
            simp only [Nat.sub_zero] at hz ⊢
            rw [hz]; simp
          · have : l = [] := List.length_eq_zero_iff.mp ha
            subst this; simp
        exact k _ _ _ (kk.trans (Kp.push _ _)) (by rw [full]; exact R.of_str _ _)
      · refine ⟨?_, ?_⟩
        · show (⟨((Builtin.Str.strSliceIndices i j 1 l.length).filterMap (l.toArray[·]?)).toArray⟩ : Str).length ≤ sizeLine
          rw [hc]
          simp only [Str.length, List.size_toArray]
          exact Nat.le_trans (Nat.le_trans (strSlice_length l i j) q) lim_le
        · show Q (.str ⟨((Builtin.Str.strSliceIndices i j 1 l.length).filterMap (l.toArray[·]?)).toArray⟩ _) _
          rw [hc]
          exact k _ _ _ (kk.trans (Kp.push _ _)) (R.of_str _ _)
    · cases q4
  · cases q4
noncomputable def negT : T → Option T
  | .int i => some (.int (-i))
  | _ => none
theorem rNeg {a : Expr} {pos : Pos} {fa : List T → Option T} (ha : RefE X sc d a fa) : RefE X sc d (.UnaryOp .USub a pos) (e1 negT fa) := by
  intro A env P₀ g σ s μ val t r S L hf Q E k
  obtain ⟨x, q1, q4⟩ := e1_some hf
  refine wpAny_UnaryOp (ha A env P₀ g σ s μ val x r S L q1 _ _ fun v h' tk k' rv => ?_)
  unfold negT at q4
  split at q4
  · cases q4
    simp only [R] at rv
    obtain ⟨tok, rfl⟩ := rv
    exact PyProof.Rows.neg_int (k _ h' _ k' (R.of_int _ _))
  · cases q4
end
end Mine
end
noncomputable section
set_option Elab.async false
set_option linter.unusedVariables false
namespace Mine
open PySem PySem.W PySem.Calls PyProof.Rows
/-- what a built-in of one argument has to meet -/
noncomputable def Un (X : Cx) (F : Value → Sem Value) (o : T → Option T) : Prop :=
  ∀ (A : Around) (P : Addr → Prop) (x t : T) (u : Value) (s : Shared) (d : Nat), Room A d → Kp X.h₀ s.heap → (∀ b, s.heap.get? b = none → P b) → RW X P s.heap x u → o x = some t →
    ∀ (Q : Value → Shared → Prop) (E : Value → Shared → Prop), (∀ z h' tk, Kp s.heap h' → R X P h' t z → Q z { s with heap := h', toks := tk }) → wpAny (model X.prog X.w) A (F u) Q E s
noncomputable def intsOf : List T → Option (List Int)
  | [] => some []
  | .int i :: r => (match intsOf r with
    | some l => some (i :: l)
    | none => none)
  | _ => none
noncomputable def strsOf : List T → Option (List (List Nat))
  | [] => some []
  | .str i :: r => (match strsOf r with
    | some l => some (i :: l)
    | none => none)
  | _ => none
theorem intsOf_are {X : Cx} {P : Addr → Prop} {h : Heap} : ∀ {l : List T} {ns : List Int} {vs : List Value}, intsOf l = some ns → RL X P h l vs → IntsAre vs ns
  | [], ns, vs, e, r => by
    simp only [RL] at r; subst r
    simp only [intsOf] at e; cases e; exact .nil
  | t :: ts, ns, vs, e, r => by
    simp only [RL] at r
    obtain ⟨v, vs', rfl, r1, r2⟩ := r
    cases t <;> first | (simp [intsOf] at e; done) | skip
    simp only [intsOf] at e
    split at e
    · rename_i i l q
      cases e
      simp only [R] at r1
      obtain ⟨k, rfl⟩ := r1
      exact .cons _ _ (intsOf_are q r2)
    · cases e
theorem strsOf_are {X : Cx} {P : Addr → Prop} {h : Heap} : ∀ {l : List T} {ns : List (List Nat)} {vs : List Value}, strsOf l = some ns → RL X P h l vs → ∃ ps : List (Str × Tok), strValues ps = vs ∧ ps.map (·.1) = ns.map fun x => (⟨x.toArray⟩ : Str)
  | [], ns, vs, e, r => by
    simp only [RL] at r; subst r
    simp only [strsOf] at e; cases e; exact ⟨[], rfl, rfl⟩
  | t :: ts, ns, vs, e, r => by
    simp only [RL] at r
    obtain ⟨v, vs', rfl, r1, r2⟩ := r
    cases t <;> first | (simp [strsOf] at e; done) | skip
    simp only [strsOf] at e
    split at e
    · rename_i i _ l q
      cases e
      simp only [R] at r1
      obtain ⟨k, rfl⟩ := r1
      obtain ⟨ps, e1, e2⟩ := strsOf_are q r2
      exact ⟨(⟨i.toArray⟩, k) :: ps, by simp [strValues, ← e1], by simp [e2]⟩
    · cases e
noncomputable def lenT : T → Option T
  | .lst l => if l.length ≤ lim then some (.int l.length) else none
  | .tup l => if l.length ≤ lim then some (.int l.length) else none
  | .str l => if l.length ≤ lim then some (.int l.length) else none
  | _ => none
noncomputable def rng1 : T → Option T
  | .int n => some (.rng 0 n)
  | _ => none
noncomputable def rng2 : T → T → Option T
  | .int a, .int b => some (.rng a b)
  | _, _ => none
noncomputable def max2 : T → T → Option T
  | .int a, .int b => some (.int (if b > a then b else a))
  | _, _ => none
noncomputable def min2 : T → T → Option T
  | .int a, .int b => some (.int (if b < a then b else a))
  | _, _ => none
noncomputable def maxI (a : Int) : List Int → Int
  | [] => a
  | b :: r => maxI (if a < b then b else a) r
noncomputable def maxT : T → Option T
  | .lst l => (match intsOf l with
    | some (a :: r) => some (.int (maxI a r))
    | _ => none)
  | _ => none
noncomputable def isBool : T → Option T
  | .int _ => some (.bool false)
  | .bool _ => some (.bool true)
  | _ => none
noncomputable def tupOf : T → Option T
  | .lst l => if l.length ≤ lim then some (.tup l) else none
  | _ => none
noncomputable def rngL (a : Int) : Nat → List T
  | 0 => []
  | n + 1 => .int a :: rngL (a + 1) n
noncomputable def lstOf : T → Option T
  | .rng a b => if -lim ≤ a ∧ a ≤ lim ∧ -lim ≤ b ∧ b ≤ lim then some (.lst (rngL a (b - a).toNat)) else none
  | _ => none
noncomputable def joinL (sep : List Nat) : List (List Nat) → List Nat
  | [] => []
  | [x] => x
  | x :: r => x ++ (sep ++ joinL sep r)
noncomputable def joinN (sep : List Nat) : List (List Nat) → Nat
  | [] => 0
  | x :: r => x.length + sep.length + joinN sep r
noncomputable def joinT : T → T → Option T
  | .str sep, .lst l => (match strsOf l with
    | some r => if joinN sep r ≤ lim then some (.str (joinL sep r)) else none
    | none => none)
  | _, _ => none
section
variable {X : Cx}
theorem uLen : Un X (fun v => call (.builtin "len") [v]) lenT := by
  intro A P x t u s d rm k0 hp rx e Q E k
  have hlim : lim = 100000 := rfl
  unfold lenT at e
  split at e
  · split at e
    · cases e
      simp only [RW] at rx
      obtain ⟨a, vs, n, rfl, hl, hvs⟩ := rx
      refine Calls.call_len_list (items := vs.toArray) ⟨_, hl, rfl, _, rfl⟩ (by rw [List.size_toArray, hvs.length]; omega) ?_
      rw [List.size_toArray, hvs.length]
      exact k _ _ _ (Kp.refl _) (R.of_int _ _)
    · cases e
  · split at e
    · cases e
      simp only [RW, R] at rx
      obtain ⟨a, vs, n, rfl, _, hl, hvs⟩ := rx
      refine PyProof.Rows.len_tuple (items := vs.toArray) ⟨_, hl, rfl, _, rfl⟩ (by rw [List.size_toArray, hvs.length]; omega) ?_
      rw [List.size_toArray, hvs.length]
      exact k _ _ _ (Kp.refl _) (R.of_int _ _)
    · cases e
  · rename_i l
    split at e
    · cases e
      simp only [RW, R] at rx
      obtain ⟨_, rfl⟩ := rx
      have hlen : (⟨l.toArray⟩ : Str).length = l.length := by simp [Str.length]
      refine PySem.P.len_str (by rw [hlen]; omega) ?_
      rw [hlen]
      exact k _ _ _ (Kp.refl _) (R.of_int _ _)
    · cases e
  · cases e
theorem uRng1 : Un X (fun v => call (.type "range") [v]) rng1 := by
  intro A P x t u s d rm k0 hp rx e Q E k
  unfold rng1 at e
  split at e
  · cases e
    simp only [RW, R] at rx
    obtain ⟨_, rfl⟩ := rx
    refine call_range_1 (k _ _ _ (Kp.push _ _) ?_)
    simp only [R]
    exact ⟨_, _, _, _, rfl, hp _ (fresh_size _), IsRange.new ..⟩
  · cases e
theorem bRng2 : Bin X (fun u v => call (.type "range") [u, v]) rng2 := by
  intro A P x y t u v s d rm k0 hp rx ry e Q E k
  unfold rng2 at e
  split at e
  · cases e
    simp only [RW, R] at rx ry
    obtain ⟨_, rfl⟩ := rx; obtain ⟨_, rfl⟩ := ry
    refine call_range_2 (k _ _ _ (Kp.push _ _) ?_)
    simp only [R]
    exact ⟨_, _, _, _, rfl, hp _ (fresh_size _), IsRange.new ..⟩
  · cases e
theorem bMax2 : Bin X (fun u v => call (.builtin "max") [u, v]) max2 := by
  intro A P x y t u v s d rm k0 hp rx ry e Q E k
  unfold max2 at e
  split at e
  · rename_i a b
    cases e
    simp only [RW, R] at rx ry
    obtain ⟨_, rfl⟩ := rx; obtain ⟨_, rfl⟩ := ry
    refine max_two_ints rm.handled fun h' tk hk => ?_
    refine k _ h' tk hk ?_
    split <;> exact R.of_int _ _
  · cases e
theorem bMin2 : Bin X (fun u v => call (.builtin "min") [u, v]) min2 := by
  intro A P x y t u v s d rm k0 hp rx ry e Q E k
  unfold min2 at e
  split at e
  · rename_i a b
    cases e
    simp only [RW, R] at rx ry
    obtain ⟨_, rfl⟩ := rx; obtain ⟨_, rfl⟩ := ry
    refine min_two_ints rm.handled fun h' tk hk => ?_
    refine k _ h' tk hk ?_
    split <;> exact R.of_int _ _
  · cases e
theorem maxI_mem : ∀ (l : List Int) (a : Int), (maxI a l = a ∨ maxI a l ∈ l) ∧ a ≤ maxI a l ∧ ∀ b ∈ l, b ≤ maxI a l
  | [], a => ⟨.inl rfl, Int.le_refl _, fun b h => by cases h⟩
  | c :: r, a => by
    obtain ⟨h1, h2, h3⟩ := maxI_mem r (if a < c then c else a)
    simp only [maxI]
    refine ⟨?_, ?_, fun b hb => ?_⟩
    · rcases h1 with h | h
      · rw [h]; split
        · exact .inr (.head _)
        · exact .inl rfl
      · exact .inr (.tail _ h)
    · refine Int.le_trans ?_ h2; split <;> omega
    · rcases List.mem_cons.mp hb with rfl | hb
      · refine Int.le_trans ?_ h2; split <;> omega
      · exact h3 b hb
theorem uMax : Un X (fun v => call (.builtin "max") [v]) maxT := by
  intro A P x t u s d rm k0 hp rx e Q E k
  unfold maxT at e
  split at e
  · rename_i l
    split at e
    · rename_i a r q
      cases e
      simp only [RW] at rx
      obtain ⟨ad, vs, n, rfl, hl, hvs⟩ := rx
      have hi := intsOf_are q hvs
      obtain ⟨xs, ex⟩ := hi.allInts.items
      have hns : a :: r = xs.toList.map (·.1) := by rw [← hi.numsOf, ← nums_intItems, ← ex]
      have hsz : 0 < xs.size := by
        have h3 := congrArg List.length hns
        simp only [List.length_cons, List.length_map, Array.length_toList] at h3; omega
      refine max_intList (xs := xs) rm.handled (by rw [← ex]; exact ⟨_, hl, rfl, _, rfl⟩) hsz fun v h' tk hv hk => ?_
      obtain ⟨tt, rfl⟩ := intItems_at hv
      obtain ⟨h1, h2⟩ := argBest_gt (numAt xs) (xs.size - 1)
      refine k _ h' tk hk ?_
      have hm : numAt xs (argBest (fun i j => decide (numAt xs i > numAt xs j)) (xs.size - 1)) ∈ a :: r := by
        rw [hns, numAt_eq]; exact getD_mem (by rw [List.length_map, Array.length_toList]; omega)
      have hM : ∀ b ∈ a :: r, b ≤ numAt xs (argBest (fun i j => decide (numAt xs i > numAt xs j)) (xs.size - 1)) := by
        intro b hb
        rw [hns] at hb
        obtain ⟨j, hj, rfl⟩ := mem_getD hb
        rw [List.length_map, Array.length_toList] at hj
        rw [← numAt_eq]; exact h2 j (by omega)
      obtain ⟨m1, m2, m3⟩ := maxI_mem r a
      have : numAt xs (argBest (fun i j => decide (numAt xs i > numAt xs j)) (xs.size - 1)) = maxI a r := by
        apply Int.le_antisymm
        · rcases List.mem_cons.mp hm with h | h
          · rw [h]; exact m2
          · exact m3 _ h
        · rcases m1 with h | h
          · rw [h]; exact hM a (.head _)
          · exact hM _ (.tail _ h)
      rw [this]
      exact R.of_int _ _
    · cases e
  · cases e
theorem IntsAre.at_ {vs : List Value} {ns : List Int} (h : IntsAre vs ns) : ∀ (i : Nat) (v : Value), vs.toArray[i]? = some v → ∃ t, v = .int (ns.getD i 0) t := by
  induction h with
  | nil => intro i v e; simp at e
  | cons n t h ih =>
    intro i v e
    cases i with
    | zero => simp at e; exact ⟨t, by rw [← e]; rfl⟩
    | succ i => simpa using ih i v (by simpa using e)
theorem uIsBool : Un X (fun v => call (.builtin "isinstance") [v, .type "bool"]) isBool := by
  intro A P x t u s d rm k0 hp rx e Q E k
  unfold isBool at e
  split at e
  · cases e
    simp only [RW, R] at rx
    obtain ⟨_, rfl⟩ := rx
    exact IsiPair.int_bool (k _ _ _ (Kp.refl _) (R.of_bool _))
  · cases e
    simp only [RW, R] at rx
    subst rx
    exact IsiPair.bool_bool (k _ _ _ (Kp.refl _) (R.of_bool _))
  · cases e
theorem uTup : Un X (fun v => call (.type "tuple") [v]) tupOf := by
  intro A P x t u s d rm k0 hp rx e Q E k
  unfold tupOf at e
  split at e
  · split at e
    · rename_i q
      cases e
      simp only [RW] at rx
      obtain ⟨ad, vs, n, rfl, hl, hvs⟩ := rx
      refine call_tuple_list (items := vs.toArray) ⟨_, hl, rfl, _, rfl⟩ (fun h' hk => ?_) (by rw [List.size_toArray, hvs.length]; exact Nat.le_trans q lim_le)
      refine k _ _ _ ((show Kp s.heap h' from hk).trans (Kp.push _ _)) ?_
      exact R.newTup (h := h') (fun b e => hp b (Kp.fresh hk e)) (hvs.keeps hk)
    · cases e
  · cases e
theorem rngL_length : ∀ (n : Nat) (a : Int), (rngL a n).length = n
  | 0, _ => rfl
  | n + 1, a => by simp [rngL, rngL_length n]
theorem RL.ofRng {P : Addr → Prop} {h : Heap} : ∀ (n : Nat) (a : Int) (vs : List Value), vs.length = n → (∀ (j : Nat) v, vs[j]? = some v → ∃ t, v = Value.int (a + j) t) → RL X P h (rngL a n) vs
  | 0, _, vs, hl, _ => by
    have : vs = [] := List.length_eq_zero_iff.mp hl
    subst this; exact .nil
  | n + 1, a, [], hl, _ => by simp at hl
  | n + 1, a, v :: vs, hl, hv => by
    refine .cons ?_ (RL.ofRng n (a + 1) vs (by simpa using hl) fun j w e => ?_)
    · obtain ⟨t, rfl⟩ := hv 0 v rfl
      simp only [R]; exact ⟨t, by simp⟩
    · obtain ⟨t, rfl⟩ := hv (j + 1) w (by simpa using e)
      exact ⟨t, by congr 1; push_cast; omega⟩
theorem rangeSize_toNat (a b : Int) : Builtin.Range.rangeSize a b 1 = ((b - a).toNat : Int) := by
  rw [rangeSize_one]; split <;> omega
theorem uLst : Un X (fun v => call (.type "list") [v]) lstOf := by
  intro A P x t u s d rm k0 hp rx e Q E k
  unfold lstOf at e
  split at e
  · rename_i a b
    split at e
    · rename_i q
      have hlim : lim = 100000 := rfl
      cases e
      simp only [RW, R] at rx
      obtain ⟨ad, t1, t2, t3, rfl, pa, hr⟩ := rx
      refine call_list_range rm.handled hr (small_one (by omega) (by omega) (by omega) (by omega)) (rangeSize_toNat a b) (by omega) fun h' tk acc' c' hk hacc hit => ?_
      refine k _ h' tk hk ?_
      refine R.lst_of (hp _ (fresh_size _)) (vs := acc'.toList) (k := c') (by simpa [lstObj] using hacc) (RL.ofRng _ a _ (by rw [Array.length_toList]; exact hit.1) fun j v e => ?_)
      obtain ⟨t, rfl⟩ := hit.2 j v (by simpa using e)
      exact ⟨t, by simp⟩
    · cases e
  · cases e
theorem str_join_eq (sep : List Nat) : ∀ r : List (List Nat), Str.join ⟨sep.toArray⟩ (r.map fun x => (⟨x.toArray⟩ : Str)) = ⟨(joinL sep r).toArray⟩
  | [] => rfl
  | [x] => rfl
  | x :: y :: r => by
    have ih := str_join_eq sep (y :: r)
    simp only [List.map_cons] at ih ⊢
    have e : Str.join ⟨sep.toArray⟩ (⟨x.toArray⟩ :: ⟨y.toArray⟩ :: r.map fun x => (⟨x.toArray⟩ : Str)) = ⟨x.toArray⟩ ++ ⟨sep.toArray⟩ ++ Str.join ⟨sep.toArray⟩ (⟨y.toArray⟩ :: r.map fun x => (⟨x.toArray⟩ : Str)) := rfl
    rw [e, ih]
    show Str.append (Str.append _ _) _ = _
    simp [Str.append, joinL]
  theorem joinN_fold (sep : List Nat) : ∀ (r : List (List Nat)) (n : Nat), (r.map fun x => (⟨x.toArray⟩ : Str)).foldl (fun acc p => acc + p.length + (⟨sep.toArray⟩ : Str).length) n = n + joinN sep r
  | [], n => by simp [joinN]
  | x :: r, n => by
    simp only [List.map_cons, List.foldl_cons, joinN_fold sep r, joinN]
    simp only [Str.length, List.size_toArray]; omega
end
end Mine
end
noncomputable section
set_option Elab.async false
set_option linter.unusedVariables false
namespace Mine
open PySem PySem.W PySem.Calls PyProof.Rows
section
variable {X : Cx} {sc : Sc} {d : Nat}
theorem gName_B {x : Str} {fv : Value} {np : Pos} {A : Around} {env : Env} {s : Shared} {Q : Value → Shared → Prop} {E : Value → Shared → Prop} (S : Scoped sc env) (k0 : Kp X.h₀ s.heap) (hx : x ∈ sc.globs) (e : nsIn X.K mainGlobals x = some none) (hv : bootBuiltins x = some fv)
    (h : Q fv s) : wpAny (model X.prog X.w) A (eval (.Name x np) env) Q E s := by
  obtain ⟨g1, g2, g3⟩ := S.gkind x hx
  refine Name_function_global S.kind g1 (loadGlobal_builtin (env := env) (by rw [S.glob]; exact X.top.g.keeps k0) (mg_none_of X.kin X.top.g e) (by rw [S.blt]; exact X.top.b.keeps k0) ((X.top.builtins x g3).trans hv) h) g2
theorem gName_K {x : Str} {fv : Value} {np : Pos} {A : Around} {env : Env} {s : Shared} {Q : Value → Shared → Prop} {E : Value → Shared → Prop} (S : Scoped sc env) (k0 : Kp X.h₀ s.heap) (hx : x ∈ sc.globs) (e : nsIn X.K mainGlobals x = some (some fv))
    (h : Q fv s) : wpAny (model X.prog X.w) A (eval (.Name x np) env) Q E s := by
  obtain ⟨g1, g2, g3⟩ := S.gkind x hx
  exact Name_function_global S.kind g1 (loadGlobal_global (env := env) (by rw [S.glob]; exact X.top.g.keeps k0) (mg_of X.kin X.top.g e) h) g2
/-- a built-in, not an object of the heap -/
noncomputable def offHeap : Value → Bool
  | .ref _ => false
  | _ => true
theorem keeper_off {M : Model} {h : Heap} {fv : Value} (e : offHeap fv = true) : ∃ k, (k = Keeper.frame ∨ k = Keeper.machine ∨ k = Keeper.boundFrame) ∧ Looks M h (keeperOf fv) k := by
  refine ⟨.machine, .inr (.inl rfl), ?_⟩
  cases fv <;> first | (simp [offHeap] at e; done) | exact Looks.of_pure rfl
theorem rCall1 {x : Str} {fv : Value} {np pos : Pos} {a : Expr} {fa : List T → Option T} {o : T → Option T} (hx : x ∈ sc.globs) (e : nsIn X.K mainGlobals x = some none) (hv : bootBuiltins x = some fv) (ho : offHeap fv = true)
    (hu : Un X (fun v => call fv [v]) o) (ha : RefW X sc d a fa) (hs : ∀ env, starEach [a] env = (false, eval a env) :: starEach [] env := by intro _; rfl) : RefE X sc d (.Call (.Name x np) [a] [] pos) (e1 o fa) := by
  intro A env P₀ g σ s μ val t r S L hf Q E k
  obtain ⟨y, q1, q2⟩ := e1_some hf
  show wpAny _ A (do callWith pos (← eval (.Name x np) env) [] (backTo pos (starEach [a] env)) (backToKw pos (keywordEach [] env))) Q E s
  refine wpAny_bind (gName_B S L.keep₀ hx e hv ?_)
  rw [hs]
  refine callWith_of (P := fun _ => True) rfl (fun _ _ => keeper_off ho) (evalArgs_plain (Calls.spliced_cons ?_))
  refine ha A env P₀ g σ s μ val y r S L q1 _ _ fun v h' tk k' rv => Calls.spliced_nil ⟨trivial, ?_⟩
  exact hu A _ y t v _ d r (L.keep₀.trans k') (L.keeps k').freeP rv q2 _ _ fun z h'' tk'' k'' rz => k z h'' tk'' (k'.trans k'') rz
theorem rCall2 {x : Str} {fv : Value} {np pos : Pos} {a b : Expr} {fa fb : List T → Option T} {o : T → T → Option T} (hx : x ∈ sc.globs) (e : nsIn X.K mainGlobals x = some none) (hv : bootBuiltins x = some fv) (ho : offHeap fv = true)
    (hu : Bin X (fun u v => call fv [u, v]) o) (ha : RefW X sc d a fa) (hb : RefW X sc d b fb) (hs : ∀ env, starEach [a, b] env = [(false, eval a env), (false, eval b env)] := by intro _; rfl) : RefE X sc d (.Call (.Name x np) [a, b] [] pos) (e2 o fa fb) := by
  intro A env P₀ g σ s μ val t r S L hf Q E k
  obtain ⟨y, z, q1, q2, q3⟩ := e2_some hf
  show wpAny _ A (do callWith pos (← eval (.Name x np) env) [] (backTo pos (starEach [a, b] env)) (backToKw pos (keywordEach [] env))) Q E s
  refine wpAny_bind (gName_B S L.keep₀ hx e hv ?_)
  rw [hs]
  refine callWith_of (P := fun _ => True) rfl (fun _ _ => keeper_off ho) (evalArgs_plain (Calls.spliced_cons ?_))
  refine ha A env P₀ g σ s μ val y r S L q1 _ _ fun u h' tk k' ru => Calls.spliced_cons ?_
  refine hb A env P₀ g σ _ μ val z r S (L.at_ k') q2 _ _ fun v h'' tk' k'' rv => Calls.spliced_nil ⟨trivial, ?_⟩
  exact hu A _ y z t u v _ d r (L.keep₀.trans (k'.trans k'')) (L.keeps (k'.trans k'')).freeP (ru.keeps k'') rv q3 _ _ fun w h3 tk3 k3 rw_ => k w h3 tk3 ((k'.trans k'').trans k3) rw_
/-- isinstance(a, type) -/
theorem rIsi {x ty : Str} {tv : Value} {np tp pos : Pos} {a : Expr} {fa : List T → Option T} {o : T → Option T} (hx : x ∈ sc.globs) (e : nsIn X.K mainGlobals x = some none) (hv : bootBuiltins x = some (.builtin "isinstance"))
    (hx' : ty ∈ sc.globs) (e' : nsIn X.K mainGlobals ty = some none) (hv' : bootBuiltins ty = some tv)
    (hu : Un X (fun v => call (.builtin "isinstance") [v, tv]) o) (ha : RefW X sc d a fa) (hs : ∀ env, starEach [a, .Name ty tp] env = [(false, eval a env), (false, eval (.Name ty tp) env)] := by intro _; rfl) : RefE X sc d (.Call (.Name x np) [a, .Name ty tp] [] pos) (e1 o fa) := by
  intro A env P₀ g σ s μ val t r S L hf Q E k
  obtain ⟨y, q1, q2⟩ := e1_some hf
  show wpAny _ A (do callWith pos (← eval (.Name x np) env) [] (backTo pos (starEach [a, .Name ty tp] env)) (backToKw pos (keywordEach [] env))) Q E s
  refine wpAny_bind (gName_B S L.keep₀ hx e hv ?_)
  rw [hs]
  refine callWith_of (P := fun _ => True) rfl (fun _ _ => keeper_off rfl) (evalArgs_plain (Calls.spliced_cons ?_))
  refine ha A env P₀ g σ s μ val y r S L q1 _ _ fun v h' tk k' rv => Calls.spliced_cons ?_
  refine gName_B S (L.keep₀.trans k') hx' e' hv' (Calls.spliced_nil ⟨trivial, ?_⟩)
  exact hu A _ y t v _ d r (L.keep₀.trans k') (L.keeps k').freeP rv q2 _ _ fun z h'' tk'' k'' rz => k z h'' tk'' (k'.trans k'') rz
/-- a def of the text (or its class) computes F -/
noncomputable def FnOk (X : Cx) (d : Nat) (f : Addr) (F : List T → Option T) : Prop :=
  ∀ (A : Around) (P : Addr → Prop) (ts : List T) (t : T) (vs : List Value) (s : Shared), Room A d → Kp X.h₀ s.heap → X.h₀.objs.size ≤ s.heap.objs.size → (∀ b, s.heap.get? b = none → P b) → RL X P s.heap ts vs → F ts = some t →
    ∀ (Q : Value → Shared → Prop) (E : Value → Shared → Prop), (∀ z h' tk, Kp s.heap h' → R X P h' t z → Q z { s with heap := h', toks := tk }) → wpAny (model X.prog X.w) A (call (.ref f) vs []) Q E s
theorem FnOk.le {f : Addr} {F : List T → Option T} {d' : Nat} (x : FnOk X d f F) (h : d ≤ d') : FnOk X d' f F :=
  fun A P ts t vs s r => x A P ts t vs s ⟨r.handled, by have := r.depth; omega, by have := r.units; omega⟩
noncomputable def eCall (F : List T → Option T) (fl : List T → Option (List T)) : List T → Option T := fun σ => match fl σ with
  | some l => F l
  | none => none
theorem eCall_some {F : List T → Option T} {fl : List T → Option (List T)} {σ : List T} {t : T} (e : eCall F fl σ = some t) : ∃ l, fl σ = some l ∧ F l = some t := by
  unfold eCall at e
  split at e
  · rename_i l q; exact ⟨l, q, e⟩
  · cases e
theorem backTo_plain {pos : Pos} {env : Env} {es : List Expr} (h : (starEach es env).any (·.1) = false) : (backTo pos (starEach es env)).any (·.1) = false := by
  unfold backTo
  rw [List.any_map]
  exact h
theorem Rel.size {env : Env} {P₀ : Addr → Prop} {g h : Heap} {σ : List T} {μ : List Addr} {val : Nat → Value} (L : Rel X sc env P₀ g σ h μ val) : X.h₀.objs.size ≤ h.objs.size := by
  obtain ⟨m, hm⟩ := L.ns
  exact Nat.le_trans L.above (Nat.le_of_lt hm.lt)
theorem rCallF {x : Str} {f : Addr} {np pos : Pos} {a : Expr} {es : List Expr} {fl : List T → Option (List T)} {F : List T → Option T} (hx : x ∈ sc.globs) (e : nsIn X.K mainGlobals x = some (some (.ref f))) (hk : keepIn X.K (.ref f) = true)
    (hF : FnOk X d f F) (ha : RefL X sc d (a :: es) fl) (hs : ∀ env, starEach (a :: es) env = (false, eval a env) :: starEach es env := by intro _; rfl) (hs' : ∀ env, (starEach es env).any (·.1) = false := by intro _; rfl) :
    RefE X sc d (.Call (.Name x np) (a :: es) [] pos) (eCall F fl) := by
  intro A env P₀ g σ s μ val t r S L hf Q E k
  obtain ⟨l, q1, q2⟩ := eCall_some hf
  show wpAny _ A (do callWith pos (← eval (.Name x np) env) [] (backTo pos (starEach (a :: es) env)) (backToKw pos (keywordEach [] env))) Q E s
  refine wpAny_bind (gName_K S L.keep₀ hx e ?_)
  refine callWith_K (K := X.K) X.kin hk ?_ (hs env) (backTo_plain (hs' env))
  refine ha A env P₀ g σ s μ val l pos r S L q1 _ _ fun vs h' tk k' rv => ⟨X.kin.keeps (L.keep₀.trans k'), ?_⟩
  exact hF A _ l t vs _ r (L.keep₀.trans k') (L.keeps k').size (L.keeps k').freeP rv q2 _ _ fun z h'' tk'' k'' rz => k z h'' tk'' (k'.trans k'') rz
/-- the facts of the class that its instances' attributes ask -/
structure ClsOk (X : Cx) : Prop where
  ga : findIn X.K (.ref X.C) "__getattribute__" = some (some (.builtin "object.__getattribute__"))
  gt : findIn X.K (.ref X.C) "__getattr__" = some none
  sa : findIn X.K (.ref X.C) "__setattr__" = some (some (.builtin "object.__setattr__"))
  dict : hasDictIn X.K X.C = true
  over : plainOver X.K X.C = true
  nodup : X.flds.Nodup
  noattr : ∀ f ∈ X.flds, findIn X.K (.ref X.C) f = some none
theorem Ents.get {P : Params} : ∀ {fs : List Str} {vs : List Value} {es : List DictEntry} {i : Nat} {f : Str} {v : Value}, Ents P fs vs es → fs.Nodup → fs[i]? = some f → vs[i]? = some v → getL f es = some (some v)
  | _, [], _, _, _, _, _, _, _, e => by simp at e
  | [], _ :: _, _, _, _, _, h, _, _, _ => h.elim
  | f₀ :: fs, v₀ :: vs, es, i, f, v, h, nd, ef, ev => by
    obtain ⟨t, es', rfl, h'⟩ := h
    cases i with
    | zero =>
      simp at ef ev; subst ef ev
      simp [getL, Value.isStr]
    | succ i =>
      have ef' : fs[i]? = some f := by simpa using ef
      have hne : f₀ ≠ f := fun e => (List.nodup_cons.mp nd).1 (e ▸ List.mem_of_getElem? ef')
      have ih := Ents.get h' (List.nodup_cons.mp nd).2 ef' (by simpa using ev)
      have hf : Value.isStr (Value.str f₀ t) f = false := by simp [Value.isStr, hne]
      unfold getL at ih ⊢
      simp only [List.find?_cons, hf]
      cases hq : es'.find? (·.key.isStr f) with
      | some e => rw [hq] at ih; exact ih
      | none =>
        rw [hq] at ih
        dsimp only at ih
        split at ih <;> cases ih
theorem Ents.miss {P : Params} {f : Str} : ∀ {fs : List Str} {vs : List Value} {es : List DictEntry}, Ents P fs vs es → f ∉ fs → getL f es = some none ∧ es.any (·.key.isStr f) = false ∧ es.any (·.refKey) = false
  | fs, [], es, h, _ => by cases fs <;> (simp only [Ents] at h; subst h; simp [getL])
  | [], _ :: _, _, h, _ => h.elim
  | f₀ :: fs, v₀ :: vs, es, h, nf => by
    obtain ⟨t, es', rfl, h'⟩ := h
    obtain ⟨h1, h2, h3⟩ := Ents.miss h' (fun m => nf (.tail _ m))
    have hf : Value.isStr (Value.str f₀ t) f = false := by
      have : f₀ ≠ f := fun e => nf (e ▸ .head _)
      simp [Value.isStr, this]
    have hr : DictEntry.refKey ⟨PyData.keyHash P f₀, Value.str f₀ t, v₀⟩ = false := rfl
    refine ⟨?_, by simp [hf, h2], by simp [hr, h3]⟩
    unfold getL at h1 ⊢
    simp only [List.find?_cons, hf, List.any_cons, hr, Bool.false_or]
    exact h1
noncomputable def attrT (i : Nat) : T → Option T
  | .inst l => (match l[i]? with | some .unb => none | x => x)
  | _ => none
theorem handed_of {P : Addr → Prop} {h : Heap} {t : T} {v : Value} (r : R X P h t v) (n : t ≠ .unb) : handedIn v = true := by
  cases t <;> simp only [R] at r <;> first
    | exact absurd rfl n
    | (subst r; rfl)
    | (obtain ⟨_, rfl⟩ := r; rfl)
    | (obtain ⟨_, _, _, rfl, _⟩ := r; rfl)
    | (obtain ⟨_, _, _, _, rfl, _⟩ := r; rfl)
    | (obtain ⟨_, _, _, _, _, rfl, _⟩ := r; rfl)
/-- reading a field -/
theorem get_field {A : Around} {P : Addr → Prop} {h : Heap} {s : Shared} {a dd : Addr} {vs : List Value} {es : List DictEntry} {n i : Nat} {f : Str} {v : Value} {ex : Bool} (c : ClsOk X) (k0 : Kp X.h₀ s.heap) (g1 : s.heap.get? a = some (instObj X.C dd)) (g2 : s.heap.get? dd = some (dictOf es n)) (he : Ents X.w.params X.flds vs es)
    (hf : X.flds[i]? = some f) (hv : vs[i]? = some v) (hh : handedIn v = true) {Q : Value → Shared → Prop} {E : Value → Shared → Prop} (k : Q v { s with toks := s.toks + 1 }) : wpAny (model X.prog X.w) A (getAttr (.ref a) f ex) Q E s :=
  get_value (X.kin.keeps k0) ⟨g1, rfl, rfl, g2⟩ c.ga (findObj_own c.dict (c.noattr f (List.mem_of_getElem? hf)) rfl (show lookIn f (dictOf es n) = _ from he.get c.nodup hf hv)) hh k
theorem rAttr {a : Expr} {i : Nat} {f : Str} {pos : Pos} {fa : List T → Option T} (c : ClsOk X) (ha : RefE X sc d a fa) (hf : X.flds[i]? = some f)
    (he : ∀ env, eval (.Attribute a f pos) env = (do let o ← eval a env; standAt pos.atName; let r ← holding [o] (getAttr o f true); letTemporaryGo a o r; pure r) := by intro _; with_unfolding_all rfl) : RefE X sc d (.Attribute a f pos) (e1 (attrT i) fa) := by
  intro A env P₀ g σ s μ val t r S L hq Q E k
  obtain ⟨y, q1, q2⟩ := e1_some hq
  refine Attribute_any_ (ha A env P₀ g σ s μ val y r S L q1 _ _ fun v h' tk k' rv => ?_) (he env)
  unfold attrT at q2
  split at q2
  · rename_i l
    have q3 : l[i]? = some t ∧ t ≠ .unb := by
      split at q2
      · cases q2
      · rename_i hn; exact ⟨q2, fun z => hn (z ▸ q2)⟩
    simp only [R] at rv
    obtain ⟨ad, dd, vs, es, n, rfl, pa, pd, g1, g2, ge, rl⟩ := rv
    obtain ⟨w, hw, rw_⟩ := rl.get q3.1
    exact get_field (P := Pm P₀ μ) (h := h') c (L.keep₀.trans k') g1 g2 ge hf hw (handed_of rw_ q3.2) (k _ h' _ k' rw_)
  · cases q2
/-- a field of the instance that __init__ makes -/
theorem rAttrSelf {v : VarD} {np : Pos} {i : Nat} {f : Str} {pos : Pos} (c : ClsOk X) (hv : v ∈ sc.vars) (hm : v.mode = .self) (hf : X.flds[i]? = some f) : RefE X sc d (.Attribute (.Name v.name np) f pos) (e1 (attrT i) (eVar v.slot)) := by
  intro A env P₀ g σ s μ val t r S L hq Q E k
  obtain ⟨y, q1, q2⟩ := e1_some hq
  refine Attribute_name (wpAny_Name (rVarLoad hv S L q1 fun m => ?_) (S.nodbg v hv))
  rw [hm] at m
  obtain ⟨ts, ad, dd, vs, es, n, rfl, e2, pa, hd, hne, g1, g2, ge, rl⟩ := m
  rw [e2]
  simp only [attrT] at q2
  have q3 : ts[i]? = some t ∧ t ≠ .unb := by
    split at q2
    · cases q2
    · rename_i hn; exact ⟨q2, fun z => hn (z ▸ q2)⟩
  obtain ⟨w, hw, rw_⟩ := rl.get q3.1
  exact get_field (P := Pm P₀ μ) (h := s.heap) c L.keep₀ g1 g2 ge hf hw (handed_of rw_ q3.2) (k _ s.heap _ (Kp.refl _) rw_)
/-- a method's call -/
theorem rMeth {o : Expr} {m : Str} {f : Addr} {apos pos : Pos} {es : List Expr} {fo : List T → Option T} {fl : List T → Option (List T)} {F : List T → Option T} (c : ClsOk X) (ho : RefE X sc d o fo)
    (hm : findIn X.K (.ref X.C) m = some (some (.ref f))) (ht : isFn X.K (.ref f) = true) (hnf : m ∉ X.flds) (hk : keepIn X.K (.ref f) = true) (hF : FnOk X d f F) (ha : RefL X sc d es fl)
    (hfo : ∀ σ t, fo σ = some t → ∃ l, t = .inst l)
    (hbase : ∀ env, attributeBase o m env (eval o env) = eval o env := by intro _; rfl) (hform : ∀ env, methodCallForm (es.length + ([] : List Keyword).length) (backTo pos (starEach es env)) (backToKw pos (keywordEach [] env)) = true := by intro _; rfl)
    (hline : (apos.endLine == pos.line) = true := by rfl)
    (hs : ∀ env, es = [] ∨ ∃ a r, es = a :: r ∧ starEach (a :: r) env = (false, eval a env) :: starEach r env ∧ (starEach r env).any (·.1) = false) :
    RefE X sc d (.Call (.Attribute o m apos) es [] pos) (eCall F (eLc fo fl)) := by
  intro A env P₀ g σ s μ val t r S L hq Q E k
  obtain ⟨l, q1, q2⟩ := eCall_some hq
  obtain ⟨y, ys, q3, q4, rfl⟩ := eLc_some q1
  rw [arm_eval_Call, hbase]
  refine wpAny_bind (ho A env P₀ g σ s μ val y r S L q3 _ _ fun v h' tk k' rv => wpAny_bind (wpAny_standAt ?_))
  obtain ⟨li, rfl⟩ := hfo σ y q3
  have rv0 := rv
  simp only [R] at rv
  obtain ⟨ad, dd, vs, es', n, rfl, pa, pd, g1, g2, ge, rl⟩ := rv
  have hpos : methodCallPos true o env apos pos = pure pos := by unfold methodCallPos; simp [hline]
  unfold methodCall
  rw [hform env]
  refine wpAny_bind (wpAny_holding (method_fn (X.kin.keeps (L.keep₀.trans k')) (⟨g1, rfl, rfl, g2⟩ : InstAt h' ad (instObj X.C dd) X.C (some (dictOf es' n))) c.ga c.gt hm (beq_iff_eq.mp ht) ?_ (wpAny_bind (wpAny_of_eq hpos ?_))))
  · show (lookIn m (dictOf es' n)).map _ = _
    rw [lookIn_dict, (ge.miss hnf).1]; rfl
  · have fin : ∀ vs' h'' tk', Kp h' h'' → RL X (Pm P₀ μ) h'' ys vs' → wpAny (model X.prog X.w) A (call (.ref f) ([.ref ad] ++ vs')) Q E { s with heap := h'', toks := tk' } := by
      intro vs' h'' tk' k'' rl'
      exact hF A _ _ t _ _ r (L.keep₀.trans (k'.trans k'')) (L.keeps (k'.trans k'')).size (L.keeps (k'.trans k'')).freeP (.cons (rv0.keeps k'') rl') q2 _ _ fun z h3 tk3 k3 rz => k z h3 tk3 ((k'.trans k'').trans k3) rz
    rcases hs env with rfl | ⟨a, rr, rfl, hs1, hs2⟩
    · refine callWith_K0 (K := X.K) (env := env) (X.kin.keeps (L.keep₀.trans k')) hk ?_
      have hz := ha A env P₀ g σ { s with heap := h', toks := tk } μ val ys pos r S (L.at_ k') q4 (fun vs' s' => wpAny (model X.prog X.w) A (call (.ref f) ([.ref ad] ++ vs')) Q E s') E fun vs' h'' tk' k'' rl' => fin vs' h'' tk' k'' rl'
      exact fun Γ p hΓ => hz Γ p hΓ Γ p hΓ
    · refine callWith_K (K := X.K) X.kin hk ?_ hs1 (backTo_plain hs2)
      refine ha A env P₀ g σ _ μ val ys pos r S (L.at_ k') q4 _ _ fun vs' h'' tk' k'' rl' => ⟨X.kin.keeps (L.keep₀.trans (k'.trans k'')), ?_⟩
      exact fin vs' h'' tk' k'' rl'
end
end Mine
end
noncomputable section
set_option Elab.async false
set_option linter.unusedVariables false
namespace Mine
open PySem PySem.W PySem.Calls PyProof.Rows
inductive Res where
  | next (σ : List T)
  | brk (σ : List T)
  | ret (t : T)
/-- only the frame's own addresses were written; the new ones among them are new -/
structure Fm (h h' : Heap) (μ μ' : List Addr) : Prop where
  kept : ∀ b o, b ∉ μ → h.get? b = some o → h'.get? b = some o
  sub : ∀ b ∈ μ, b ∈ μ'
  new : ∀ b ∈ μ', b ∈ μ ∨ h.get? b = none
theorem Fm.refl (h : Heap) (μ : List Addr) : Fm h h μ μ := ⟨fun _ _ _ e => e, fun _ h => h, fun _ h => .inl h⟩
theorem Fm.of_kp {h h' : Heap} {μ : List Addr} (k : Kp h h') : Fm h h' μ μ := ⟨fun b o _ e => k b o e, fun _ h => h, fun _ h => .inl h⟩
theorem Fm.trans {h h' h'' : Heap} {μ μ' μ'' : List Addr} (x : Fm h h' μ μ') (y : Fm h' h'' μ' μ'') : Fm h h'' μ μ'' where
  kept := fun b o hb e => y.kept b o (fun m => (x.new b m).elim hb fun q => by rw [q] at e; cases e) (x.kept b o hb e)
  sub := fun b hb => y.sub b (x.sub b hb)
  new := fun b hb => by
    rcases y.new b hb with q | q
    · exact x.new b q
    · by_cases z : b ∈ μ
      · exact .inl z
      · refine .inr ?_
        cases e : h.get? b with
        | none => rfl
        | some o => rw [x.kept b o z e] at q; cases q
theorem Fm.before {h h₁ h' : Heap} {μ μ' : List Addr} (k : Kp h h₁) (x : Fm h₁ h' μ μ') : Fm h h' μ μ' := (Fm.of_kp k).trans x
noncomputable def Post (X : Cx) (sc : Sc) (env : Env) (P₀ : Addr → Prop) (g : Heap) (h : Heap) (μ : List Addr) (r : Res) (fl : Flow) (h' : Heap) : Prop :=
  match r with
  | .next σ' => fl = .next ∧ ∃ μ' val', Rel X sc env P₀ g σ' h' μ' val' ∧ Fm h h' μ μ'
  | .brk σ' => fl = .brk ∧ ∃ μ' val', Rel X sc env P₀ g σ' h' μ' val' ∧ Fm h h' μ μ'
  | .ret t => ∃ v, fl = .ret v ∧ R X P₀ h' t v ∧ Kp g h'
theorem Post.before {X : Cx} {sc : Sc} {env : Env} {P₀ : Addr → Prop} {g h h₁ h' : Heap} {μ μ₁ : List Addr} {r : Res} {fl : Flow} (f : Fm h h₁ μ μ₁) (p : Post X sc env P₀ g h₁ μ₁ r fl h') : Post X sc env P₀ g h μ r fl h' := by
  cases r with
  | next σ' => obtain ⟨e, μ', val', r, f'⟩ := p; exact ⟨e, μ', val', r, f.trans f'⟩
  | brk σ' => obtain ⟨e, μ', val', r, f'⟩ := p; exact ⟨e, μ', val', r, f.trans f'⟩
  | ret t => exact p
noncomputable def RefS (X : Cx) (sc : Sc) (d : Nat) (st : Stmt) (f : List T → Option Res) : Prop :=
  ∀ (A : Around) (env : Env) (P₀ : Addr → Prop) (g : Heap) (σ : List T) (s : Shared) (μ : List Addr) (val : Nat → Value) (r : Res),
    Room A d → Scoped sc env → Rel X sc env P₀ g σ s.heap μ val → f σ = some r →
    ∀ (Q : Flow → Shared → Prop) (E : Value → Shared → Prop), (∀ fl h' tk, Post X sc env P₀ g s.heap μ r fl h' → Q fl { s with heap := h', toks := tk }) →
      wpAny (model X.prog X.w) A (exec st env) Q E s
noncomputable def RefSs (X : Cx) (sc : Sc) (d : Nat) (st : List Stmt) (f : List T → Option Res) : Prop :=
  ∀ (A : Around) (env : Env) (P₀ : Addr → Prop) (g : Heap) (σ : List T) (s : Shared) (μ : List Addr) (val : Nat → Value) (r : Res),
    Room A d → Scoped sc env → Rel X sc env P₀ g σ s.heap μ val → f σ = some r →
    ∀ (Q : Flow → Shared → Prop) (E : Value → Shared → Prop), (∀ fl h' tk, Post X sc env P₀ g s.heap μ r fl h' → Q fl { s with heap := h', toks := tk }) →
      wpAny (model X.prog X.w) A (execs st env) Q E s
noncomputable def sNil : List T → Option Res := fun σ => some (.next σ)
noncomputable def sSeq (a b : List T → Option Res) : List T → Option Res := fun σ => match a σ with
  | some (.next σ') => b σ'
  | r => r
noncomputable def sSet (i : Nat) (f : List T → Option T) : List T → Option Res := fun σ => match f σ with
  | some .unb => none
  | some t => some (.next (σ.set i t))
  | none => none
noncomputable def sRet (f : List T → Option T) : List T → Option Res := fun σ => match f σ with
  | some t => some (.ret t)
  | none => none
noncomputable def sBrk : List T → Option Res := fun σ => some (.brk σ)
noncomputable def sIf (c : List T → Option Bool) (a b : List T → Option Res) : List T → Option Res := fun σ => match c σ with
  | some true => a σ
  | some false => b σ
  | none => none
theorem sSet_some {i : Nat} {f : List T → Option T} {σ : List T} {r : Res} (e : sSet i f σ = some r) : ∃ t, f σ = some t ∧ t ≠ .unb ∧ r = .next (σ.set i t) := by
  unfold sSet at e
  split at e
  · cases e
  · rename_i t hn q; cases e; exact ⟨t, q, hn, rfl⟩
  · cases e
section
variable {X : Cx} {sc : Sc} {d : Nat}
theorem sNil_ : RefSs X sc d [] sNil := by
  intro A env P₀ g σ s μ val r rm S L hf Q E k
  cases hf
  exact wpAny_execs_nil (k _ s.heap s.toks ⟨rfl, μ, val, L, .refl _ _⟩)
theorem sCons_ {st : Stmt} {rest : List Stmt} {fa fb : List T → Option Res} (ha : RefS X sc d st fa) (hb : RefSs X sc d rest fb) : RefSs X sc d (st :: rest) (sSeq fa fb) := by
  intro A env P₀ g σ s μ val r rm S L hf Q E k
  unfold sSeq at hf
  refine wpAny_execs_cons ?_
  split at hf
  · rename_i σ' q
    refine ha A env P₀ g σ s μ val _ rm S L q _ _ fun fl h' tk p => ?_
    obtain ⟨rfl, μ', val', L', f⟩ := p
    exact hb A env P₀ g σ' _ μ' val' r rm S L' hf _ _ fun fl h'' tk' p => k fl h'' tk' (p.before f)
  · rename_i _ hn
    refine ha A env P₀ g σ s μ val r rm S L hf _ _ fun fl h' tk p => ?_
    cases r with
    | next σ' => exact absurd hf (hn σ')
    | brk σ' => obtain ⟨rfl, z⟩ := p; exact k _ h' tk ⟨rfl, z⟩
    | ret t => obtain ⟨v, rfl, z⟩ := p; exact k _ h' tk ⟨v, rfl, z⟩
/-- a frozen name is stored -/
theorem Rel.storeFro {v : VarD} {t : T} {w : Value} {env : Env} {P₀ : Addr → Prop} {g : Heap} {σ : List T} {s : Shared} {μ : List Addr} {val : Nat → Value} (S : Scoped sc env) (L : Rel X sc env P₀ g σ s.heap μ val) (hv : v ∈ sc.vars) (hst : v.st = true) (hm : v.mode = .fro)
    (r : R X (Pm P₀ μ) s.heap t w) (ht : t ≠ .unb) {M : Model} {A : Around} {E : Value → Shared → Prop} {Q : Unit → Shared → Prop}
    (k : ∀ h' tk val', Rel X sc env P₀ g (σ.set v.slot t) h' μ val' → Fm s.heap h' μ μ → Q () { s with heap := h', toks := tk }) : wpAny M A (storeName env v.name w) Q E s :=
  L.store S hv hst (by rw [hm]; exact r) (fun z => by rw [hm] at z; cases z) ht rfl fun h' tk L' hk => k h' tk _ L' ⟨hk, fun _ h => h, fun _ h => .inl h⟩
theorem sAssign {v : VarD} {np pos : Pos} {e : Expr} {f : List T → Option T} (hv : v ∈ sc.vars) (hst : v.st = true) (hm : v.mode = .fro) (h : RefE X sc d e f) (hs : ∀ env, swapsWith e (some (.Name v.name np)) pos.line env = pure false := by intro _; rfl) :
    RefS X sc d (.Assign [.Name v.name np] e pos) (sSet v.slot f) := by
  intro A env P₀ g σ s μ val r rm S L hf Q E k
  obtain ⟨t, q, ht, rfl⟩ := sSet_some hf
  refine wpAny_Assign_Name (h A env P₀ g σ s μ val t rm S L q _ _ fun w h' tk k' rw_ => ?_) (hs env)
  exact (L.at_ k').storeFro S hv hst hm rw_ ht fun h'' tk' val' L' fm => k _ h'' tk' ⟨rfl, μ, val', L', fm.before k'⟩
theorem sAssignOwn {v : VarD} {np pos : Pos} {e : Expr} {f : List T → Option T} (hv : v ∈ sc.vars) (hst : v.st = true) (hm : v.mode = .own) (h : RefF X sc d e f) (hs : ∀ env, swapsWith e (some (.Name v.name np)) pos.line env = pure false := by intro _; rfl) :
    RefS X sc d (.Assign [.Name v.name np] e pos) (sSet v.slot f) := by
  intro A env P₀ g σ s μ val r rm S L hf Q E k
  obtain ⟨t, q, ht, rfl⟩ := sSet_some hf
  refine wpAny_Assign_Name (h A env P₀ g σ s μ val t rm S L q _ _ fun a vs n l h' tk k' fr et ga rl => ?_) (hs env)
  subst et
  have L' := L.grow fr k' ga
  refine L'.store S hv hst ?_ ?_ (by intro z; cases z) rfl fun h'' tk' L'' hk => k _ h'' tk' ⟨rfl, a :: μ, _, L'', ?_⟩
  · rw [hm]; exact ⟨l, a, vs, n, rfl, rfl, .head _, ga, rl.of_no⟩
  · intro _ d' hd' hm' hne t' q' n' z
    obtain ⟨_, w⟩ := L.var d' hd' t' q' n'
    rw [hm'] at w
    obtain ⟨_, b, _, _, _, e2, _, e4, _⟩ := w
    rw [e2] at z
    cases z
    rw [fr] at e4; cases e4
  · exact (Fm.mk (fun b o _ e => k' b o e) (fun b hb => .tail _ hb) (fun b hb => (List.mem_cons.mp hb).elim (fun z => .inr (z ▸ fr)) .inl) : Fm s.heap h' μ (a :: μ)).trans ⟨hk, fun _ h => h, fun _ h => .inl h⟩
noncomputable def sSet3 (i j l : Nat) (f : List T → Option T) : List T → Option Res := fun σ => match f σ with
  | some .unb => none
  | some t => some (.next (((σ.set i t).set j t).set l t))
  | none => none
theorem sAssign3 {v1 v2 v3 : VarD} {n1 n2 n3 pos : Pos} {e : Expr} {f : List T → Option T} (h1 : v1 ∈ sc.vars) (h2 : v2 ∈ sc.vars) (h3 : v3 ∈ sc.vars) (s1 : v1.st = true) (s2 : v2.st = true) (s3 : v3.st = true) (m1 : v1.mode = .fro) (m2 : v2.mode = .fro) (m3 : v3.mode = .fro)
    (h : RefE X sc d e f) (hat : ∀ P P' (h h' : Heap) σ t v, f σ = some t → R X P h t v → R X P' h' t v) (hw : ∀ env, swappedStores [.Name v1.name n1, .Name v2.name n2, .Name v3.name n3] e env = pure none := by intro _; rfl) :
    RefS X sc d (.Assign [.Name v1.name n1, .Name v2.name n2, .Name v3.name n3] e pos) (sSet3 v1.slot v2.slot v3.slot f) := by
  intro A env P₀ g σ s μ val r rm S L hf Q E k
  have hf' : ∃ t, f σ = some t ∧ t ≠ .unb ∧ r = .next (((σ.set v1.slot t).set v2.slot t).set v3.slot t) := by
    unfold sSet3 at hf
    split at hf
    · cases hf
    · rename_i t hn q; cases hf; exact ⟨t, q, hn, rfl⟩
    · cases hf
  obtain ⟨t, q, ht, rfl⟩ := hf'
  refine wpAny_Assign_three (h A env P₀ g σ s μ val t rm S L q _ _ fun w h' tk k' rw_ => ?_) rfl (hw env)
  refine wpAny_assign_Name ((L.at_ k').storeFro S h1 s1 m1 rw_ ht fun ha ta va La fa => ?_)
  refine wpAny_assign_Name (La.storeFro (s := { s with heap := ha, toks := ta }) S h2 s2 m2 (hat _ _ _ _ σ t w q rw_) ht fun hb tb vb Lb fb => ?_)
  refine wpAny_assign_Name (Lb.storeFro (s := { s with heap := hb, toks := tb }) S h3 s3 m3 (hat _ _ _ _ σ t w q rw_) ht fun hc tc vc Lc fc => ?_)
  exact k _ hc tc ⟨rfl, μ, vc, Lc, ((fa.before k').trans fb).trans fc⟩
theorem sReturn {e : Expr} {pos : Pos} {f : List T → Option T} (h : RefE X sc d e f) : RefS X sc d (.Return (some e) pos) (sRet f) := by
  intro A env P₀ g σ s μ val r rm S L hf Q E k
  unfold sRet at hf
  split at hf
  · rename_i t q
    cases hf
    exact wpAny_Return_some (h A env P₀ g σ s μ val t rm S L q _ _ fun w h' tk k' rw_ => k _ h' tk ⟨w, rfl, R.weak rw_ fun b p => p.1, L.keep.trans k'⟩)
  · cases hf
/-- return x, a list of the frame's own -/
theorem sReturnOwn {v : VarD} {np pos : Pos} (hv : v ∈ sc.vars) (hm : v.mode = .own) : RefS X sc d (.Return (some (.Name v.name np)) pos) (sRet (eVar v.slot)) := by
  intro A env P₀ g σ s μ val r rm S L hf Q E k
  unfold sRet at hf
  split at hf
  · rename_i t q
    cases hf
    refine wpAny_Return_some (wpAny_Name (rVarLoad hv S L q fun m => ?_) (S.nodbg v hv))
    rw [hm] at m
    obtain ⟨ts, a, vs, n, rfl, e, ha, ga, rl⟩ := m
    rw [e]
    exact k _ s.heap s.toks ⟨_, rfl, R.lst_of (L.mine a ha) ga (RL.mono (fun b o p _ => p.1) (fun _ _ _ e => e) _ rl), L.keep⟩
  · cases hf
theorem sBreak {pos : Pos} : RefS X sc d (.Break pos) sBrk := by
  intro A env P₀ g σ s μ val r rm S L hf Q E k
  cases hf
  exact wpAny_Break (k _ s.heap s.toks ⟨rfl, μ, val, L, .refl _ _⟩)
theorem sIf_ {c : Expr} {a b : List Stmt} {pos : Pos} {fc : List T → Option Bool} {fa fb : List T → Option Res} (hc : RefT X sc d c fc) (ha : RefSs X sc d a fa) (hb : RefSs X sc d b fb) : RefS X sc d (.If c a b pos) (sIf fc fa fb) := by
  intro A env P₀ g σ s μ val r rm S L hf Q E k
  refine wpAny_If ?_
  unfold sIf at hf
  split at hf
  · rename_i q
    refine hc A env P₀ g σ s μ val true rm S L q _ _ fun h' tk k' => ?_
    rw [if_pos rfl]
    exact ha A env P₀ g σ _ μ val r rm S (L.at_ k') hf _ _ fun fl h'' tk' p => k fl h'' tk' (p.before (.of_kp k'))
  · rename_i q
    refine hc A env P₀ g σ s μ val false rm S L q _ _ fun h' tk k' => ?_
    rw [if_neg (by decide)]
    exact hb A env P₀ g σ _ μ val r rm S (L.at_ k') hf _ _ fun fl h'' tk' p => k fl h'' tk' (p.before (.of_kp k'))
  · cases hf
end
end Mine
end
noncomputable section
set_option Elab.async false
set_option linter.unusedVariables false
namespace Mine
open PySem PySem.W PySem.Calls PyProof.Rows
noncomputable def chars : List Nat → List T
  | [] => []
  | c :: r => .str [c] :: chars r
theorem chars_length : ∀ l, (chars l).length = l.length
  | [] => rfl
  | c :: r => by simp [chars, chars_length r]
theorem chars_get : ∀ (l : List Nat) (i : Nat) (t : T), (chars l)[i]? = some t → ∃ c, l[i]? = some c ∧ t = .str [c]
  | [], i, t, e => by simp [chars] at e
  | c :: r, 0, t, e => by simp [chars] at e; exact ⟨c, rfl, e.symm⟩
  | c :: r, i + 1, t, e => by simpa using chars_get r i t (by simpa [chars] using e)
theorem rngL_get : ∀ (n : Nat) (a : Int) (i : Nat) (t : T), (rngL a n)[i]? = some t → t = .int (a + i)
  | 0, a, i, t, e => by simp [rngL] at e
  | n + 1, a, 0, t, e => by simp [rngL] at e; simp [← e]
  | n + 1, a, i + 1, t, e => by
    have := rngL_get n (a + 1) i t (by simpa [rngL] using e)
    rw [this]; congr 1; push_cast; omega
noncomputable def iterT : T → Option (List T)
  | .lst l => some l
  | .tup l => some l
  | .str l => some (chars l)
  | .rng a b => if -lim ≤ a ∧ a ≤ lim ∧ -lim ≤ b ∧ b ≤ lim then some (rngL a (b - a).toNat) else none
  | _ => none
section
variable {X : Cx} {sc : Sc} {d : Nat}
theorem iter_ok {A : Around} (hh : A.handled = none) {t : T} {items : List T} {v : Value} {s : Shared} {P : Addr → Prop} (e : iterT t = some items) (r : RW X P s.heap t v) {Q : Value → Shared → Prop} {E : Value → Shared → Prop}
    (k : ∀ (o : Obj) (ax : List Addr) (n : Nat) (Pv : Nat → Value → Prop) (St : Nat → Heap → Prop), Walks X.prog X.w A s.heap.objs.size (s.heap.objs.size :: ax) [s.heap.objs.size] n Pv St → St 0 (s.heap.push o) → (s.heap.push o).get? s.heap.objs.size = some o → n = items.length →
      (∀ b ∈ ax, ∃ ob, s.heap.get? b = some ob) → (R X P s.heap t v → ∀ b ∈ ax, P b) → (∀ i h', St i h' → ∃ ob, h'.get? s.heap.objs.size = some ob ∧ ∃ vs, ob.data = .fields vs ∧ ∃ c, ob.cls = .type c ∧ (["enumerate", "zip", "dict_itemiterator", "dict_reverseitemiterator", "odict_iterator", "itertools.zip_longest", "itertools.pairwise"] : List String).contains c = false) →
      (∀ i w ti P'' h'', Pv i w → items[i]? = some ti → (∀ b ob, P b → s.heap.get? b = some ob → P'' b ∧ h''.get? b = some ob) → R X P'' h'' ti w) →
      Q (.ref s.heap.objs.size) { s with heap := s.heap.push o }) : wpAny (model X.prog X.w) A (pyIter v) Q E s := by
  unfold iterT at e
  split at e
  · rename_i l
    cases e
    simp only [RW] at r
    obtain ⟨a, vs, n, rfl, ga, rl⟩ := r
    have hlt : a < s.heap.objs.size := Heap.lt_size ga
    have hil : s.heap.IsList a vs.toArray := ⟨_, ga, rfl, _, rfl⟩
    refine wpAny_pyIter_list hil ?_
    refine k _ [a] _ _ _ (Walks.list hh s.heap.objs.size a (Nat.ne_of_lt hlt) vs.toArray) ⟨⟨_, Heap.get?_push_size _ rfl, rfl, rfl⟩, hil.push _⟩ (Heap.get?_push_size _ rfl) (by rw [List.size_toArray, rl.length]) ?_ ?_ ?_ ?_
    · intro b hb; rw [List.mem_singleton.mp hb]; exact ⟨_, ga⟩
    · intro rr b hb
      rw [List.mem_singleton.mp hb]
      simp only [R] at rr
      obtain ⟨a', _, _, e, pa, _⟩ := rr
      cases e; exact pa
    · rintro i h' ⟨⟨o, ho, hc, hd⟩, _⟩; exact ⟨o, ho, _, hd, _, hc, by decide⟩
    · intro i w ti P'' h'' hw ht hm
      obtain ⟨w', hw', rw_⟩ := rl.get ht
      have : w' = w := by
        have hw2 : vs[i]? = some w := by simpa using hw
        rw [hw2] at hw'; cases hw'; rfl
      subst this
      exact R.mono (fun b o p q => (hm b o p q).1) (fun b o p q => (hm b o p q).2) _ rw_
  · rename_i l
    cases e
    simp only [RW, R] at r
    obtain ⟨a, vs, n, rfl, pa, ga, rl⟩ := r
    have hlt : a < s.heap.objs.size := Heap.lt_size ga
    have hil : s.heap.IsTuple a vs.toArray := ⟨_, ga, rfl, _, rfl⟩
    refine wpAny_pyIter_tuple hil ?_
    refine k _ [a] _ _ _ (Walks.tuple hh s.heap.objs.size a (Nat.ne_of_lt hlt) vs.toArray) ⟨⟨_, Heap.get?_push_size _ rfl, rfl, rfl⟩, hil.push _⟩ (Heap.get?_push_size _ rfl) (by rw [List.size_toArray, rl.length]) ?_ ?_ ?_ ?_
    · intro b hb; rw [List.mem_singleton.mp hb]; exact ⟨_, ga⟩
    · intro _ b hb; rw [List.mem_singleton.mp hb]; exact pa
    · rintro i h' ⟨⟨o, ho, hc, hd⟩, _⟩; exact ⟨o, ho, _, hd, _, hc, by decide⟩
    · intro i w ti P'' h'' hw ht hm
      obtain ⟨w', hw', rw_⟩ := rl.get ht
      have : w' = w := by
        have hw2 : vs[i]? = some w := by simpa using hw
        rw [hw2] at hw'; cases hw'; rfl
      subst this
      exact R.mono (fun b o p q => (hm b o p q).1) (fun b o p q => (hm b o p q).2) _ rw_
  · rename_i l
    cases e
    simp only [RW, R] at r
    obtain ⟨t, rfl⟩ := r
    have fin : ∀ {i w ti P'' h''}, SignAt ⟨l.toArray⟩ i w → (chars l)[i]? = some ti → R X P'' h'' ti w := by
      intro i w ti P'' h'' hw ht
      obtain ⟨c, hc, rfl⟩ := chars_get l i ti ht
      obtain ⟨c', u, hc', rfl⟩ := hw
      have : c' = c := by
        have h2 : l[i]? = some c' := by simpa using hc'
        rw [h2] at hc; cases hc; rfl
      subst this
      exact R.of_str [c'] u
    cases ha : (⟨l.toArray⟩ : Str).cps.all (· < 128)
    · refine wpAny_pyIter_wide ha (k _ [] _ _ _ (Walks.strWide hh s.heap.objs.size ⟨l.toArray⟩ t) ⟨_, Heap.get?_push_size _ rfl, rfl, rfl⟩ (Heap.get?_push_size _ rfl) (by simp [chars_length]) (fun _ h => (nomatch h)) (fun _ _ h => (nomatch h)) ?_ (fun i w ti P'' h'' hw ht _ => fin hw ht))
      rintro i h' ⟨o, ho, hc, hd⟩; exact ⟨o, ho, _, hd, _, hc, by decide⟩
    · refine wpAny_pyIter_ascii ha (k _ [] _ _ _ (Walks.strAscii hh s.heap.objs.size ⟨l.toArray⟩ t) ⟨_, Heap.get?_push_size _ rfl, rfl, rfl⟩ (Heap.get?_push_size _ rfl) (by simp [chars_length]) (fun _ h => (nomatch h)) (fun _ _ h => (nomatch h)) ?_ (fun i w ti P'' h'' hw ht _ => fin hw ht))
      rintro i h' ⟨o, ho, hc, hd⟩; exact ⟨o, ho, _, hd, _, hc, by decide⟩
  · rename_i a b
    split at e
    · rename_i q
      have hlim : lim = 100000 := rfl
      cases e
      simp only [RW, R] at r
      obtain ⟨ad, t1, t2, t3, rfl, pa, hr⟩ := r
      refine wpAny_pyIter_range hr (small_one (by omega) (by omega) (by omega) (by omega)) ?_
      rw [rangeSize_toNat]
      refine k _ [] _ _ _ (Walks.range hh s.heap.objs.size a 1 (b - a).toNat) ?_ (Heap.get?_push_size _ rfl) (by rw [rngL_length]) (fun _ h => (nomatch h)) (fun _ _ h => (nomatch h)) ?_ ?_
      · show IsRangeIter _ _ _ _ _
        have : (a + ((0 : Nat) : Int) * 1) = a := by simp
        rw [this]
        have : (((b - a).toNat : Int) - ((0 : Nat) : Int)) = ((b - a).toNat : Int) := by simp
        rw [this]
        exact Heap.get?_push_size _ rfl
      · intro i h' hst; exact ⟨_, hst, _, rfl, _, rfl, by decide⟩
      · intro i w ti P'' h'' hw ht _
        obtain ⟨tt, rfl⟩ := hw
        rw [rngL_get _ _ _ _ ht]
        simp only [R]
        exact ⟨tt, by simp⟩
    · cases e
  · cases e
noncomputable def forR (i : Nat) (fb : List T → Option Res) : List T → List T → Option Res
  | [], σ => some (.next σ)
  | t :: ts, σ => match t with
    | .unb => none
    | t => (match fb (σ.set i t) with
      | some (.next σ') => forR i fb ts σ'
      | some (.brk σ') => some (.next σ')
      | some (.ret t) => some (.ret t)
      | none => none)
noncomputable def sFor (i : Nat) (fi : List T → Option T) (fb : List T → Option Res) : List T → Option Res := fun σ => match fi σ with
  | some t => (match iterT t with
    | some l => forR i fb l σ
    | none => none)
  | none => none
theorem sFor_some {i : Nat} {fi : List T → Option T} {fb : List T → Option Res} {σ : List T} {r : Res} (e : sFor i fi fb σ = some r) : ∃ t l, fi σ = some t ∧ iterT t = some l ∧ forR i fb l σ = some r := by
  unfold sFor at e
  split at e
  · rename_i t q
    split at e
    · rename_i l q'; exact ⟨t, l, q, q', e⟩
    · cases e
  · cases e
theorem forR_cons {i : Nat} {fb : List T → Option Res} {t : T} {ts : List T} {σ : List T} {r : Res} (e : forR i fb (t :: ts) σ = some r) : t ≠ .unb ∧ ∃ q, fb (σ.set i t) = some q ∧ (match q with
    | .next σ' => forR i fb ts σ' = some r
    | .brk σ' => r = .next σ'
    | .ret t => r = .ret t) := by
  unfold forR at e
  split at e
  · cases e
  · rename_i hn
    refine ⟨hn, ?_⟩
    split at e
    · rename_i σ' q; exact ⟨_, q, e⟩
    · rename_i σ' q; cases e; exact ⟨_, q, rfl⟩
    · rename_i t q; cases e; exact ⟨_, q, rfl⟩
    · cases e
/-- what stands at a turn of a for -/
inductive FInv (X : Cx) (sc : Sc) (env : Env) (P : Addr → Prop) (g h₀ : Heap) (I : Addr) (St : Nat → Heap → Prop) (i₀ : Nat) (fb : List T → Option Res) (items : List T) (r : Res) (s : Shared) (μ : List Addr) : Nat → Shared → Prop
  | mk (i : Nat) (h' : Heap) (tk : Nat) (σ' : List T) (μ' : List Addr) (val' : Nat → Value) (hi : i ≤ items.length) (hst : St i h') (L : Rel X sc env P g σ' h' μ' val') (fm : Fm h₀ h' (I :: μ) (I :: μ')) (hI : I ∉ μ') (hfr : forR i₀ fb (items.drop i) σ' = some r) :
      FInv X sc env P g h₀ I St i₀ fb items r s μ (items.length + 1 - i) { s with heap := h', toks := tk }
theorem sFor_ {v : VarD} {np pos : Pos} {it : Expr} {body : List Stmt} {fi : List T → Option T} {fb : List T → Option Res} (hv : v ∈ sc.vars) (hst : v.st = true) (hm : v.mode = .fro) (hcs : ∀ d ∈ sc.vars, d.st = true) (hi : RefE X sc d it fi) (hb : RefSs X sc d body fb)
    (hs : ∀ env x, foldedSetIterable it env x = pure x := by intro _ _; rfl) : RefS X sc d (.For (.Name v.name np) it body [] pos) (sFor v.slot fi fb) := by
  intro A env P₀ g σ s μ val r rm S L hf Q E k
  obtain ⟨t, items, q1, q2, q3⟩ := sFor_some hf
  refine wpAny_For (hi A env P₀ g σ s μ val t rm S L q1 _ _ fun w hE tkE kE rw_ => ?_) (hs env)
  have LE := L.keeps kE
  refine iter_ok (X := X) (s := { s with heap := hE, toks := tkE }) rm.handled q2 (.of rw_) fun o ax n Pv St W st0 hIo hn hax hPax hlive hitem => ?_
  have hPax := hPax rw_
  have hIfree : hE.get? hE.objs.size = none := fresh_size hE
  have hgI : g.get? hE.objs.size = none := (LE.keep).fresh hIfree
  have kpush : Kp hE (hE.push o) := Kp.push hE o
  have hoth : ∀ b ob, hE.get? b = some ob → b ≠ hE.objs.size := fun b ob e z => by rw [z, hIfree] at e; cases e
  have P₀I : P₀ hE.objs.size := LE.free _ hIfree
  have hax' : ∀ b ∈ ax, b ≠ hE.objs.size := fun b hb => by obtain ⟨ob, e⟩ := hax b hb; exact hoth b ob e
  have hIμ : hE.objs.size ∉ μ := fun m => by obtain ⟨ob, e⟩ := LE.live _ m; rw [hIfree] at e; cases e
  have hcI : ∀ (h' : Heap) (μ' : List Addr) (val' : Nat → Value) (σ' : List T) (P' : Addr → Prop), Rel X sc env P' g σ' h' μ' val' → hE.objs.size ∉ μ' → ∀ d ∈ sc.vars, d.cell = true → ∀ c, env.cells.lookup d.name = some c → c ≠ hE.objs.size := by
    intro h' μ' val' σ' P' L' hI d hd hc c hl z
    obtain ⟨c', ov, e, i, m⟩ := L'.cells d hd hc
    rw [hl] at e; cases e
    exact hI (z ▸ m (hcs d hd))
  -- the loop's own predicate: never the iterator
  have L1 : Rel X sc env (fun b => P₀ b ∧ b ≠ hE.objs.size) g σ (hE.push o) μ val :=
    LE.move kpush (fun b ob p e => ⟨p, hoth b ob e⟩) (fun b e => ⟨LE.free b (kpush.fresh e), fun z => by rw [z, hIo] at e; cases e⟩)
  -- out of the loop: its predicate is forgotten
  have out : ∀ fl h' tk r', Post X sc env P₀ g hE μ r' fl h' → r' = r → Q fl { s with heap := h', toks := tk } := fun fl h' tk r' p e => k fl h' tk (e ▸ p.before (.of_kp kE))
  refine codeAny_forLoop_any (FInv X sc env (fun b => P₀ b ∧ b ≠ hE.objs.size) g (hE.push o) hE.objs.size St v.slot fb items r s μ) ?_ (items.length + 1)
    (.mk (s := s) 0 _ _ σ μ val (Nat.zero_le _) st0 L1 (.refl _ _) hIμ (by simpa using q3))
  rintro m s' ⟨i, h', tk, σ', μ', val', hi', hst', L', fm, hI', hfr⟩
  -- what the loop has kept since the start
  have old : ∀ b ob, b ∉ μ → hE.get? b = some ob → h'.get? b = some ob := fun b ob hb e => fm.kept b ob (fun z => (List.mem_cons.mp z).elim (hoth b ob e) hb) (kpush b ob e)
  have sub : ∀ b ∈ μ, b ∈ μ' := fun b hb => (List.mem_cons.mp (fm.sub b (.tail _ hb))).elim (fun z => absurd (z ▸ hb) hIμ) id
  have new : ∀ b ∈ μ', b ∈ μ ∨ hE.get? b = none := fun b hb => by
    rcases fm.new b (.tail _ hb) with z | z
    · rcases List.mem_cons.mp z with z | z
      · exact absurd (z ▸ hb) hI'
      · exact .inl z
    · exact .inr (kpush.fresh z)
  cases hv' : items[i]? with
  | none =>
    have hin : i = items.length := Nat.le_antisymm hi' (by simpa using hv')
    subst hin
    rw [List.drop_length] at hfr
    simp only [forR] at hfr
    cases hfr
    refine W.done _ _ _ (hn ▸ hst') fun h₁ tk₁ hk₁ => wpAny_execs_nil ?_
    refine out _ h₁ tk₁ (.next σ') ⟨rfl, μ', val', ?_, ?_⟩ rfl
    · refine L'.iter (P₁ := P₀) hI' (fun b p => ⟨p.2, p.1⟩) hgI (hcI _ _ _ _ _ L' hI') (fun b ob hb e => hk₁ b ob (fun z => hb (List.mem_singleton.mp z)) e) fun b e => ?_
      by_cases z : b = hE.objs.size
      · rw [z]; exact P₀I
      · refine (L'.free b ?_).1
        cases q : h'.get? b with
        | none => rfl
        | some ob => rw [hk₁ b ob (fun y => z (List.mem_singleton.mp y)) q] at e; cases e
    · exact ⟨fun b ob hb e => hk₁ b ob (fun z => hoth b ob e (List.mem_singleton.mp z)) (old b ob hb e), sub, new⟩
  | some ti =>
    have hlt : i < items.length := (List.getElem?_eq_some_iff.mp hv').1
    have hdrop : items.drop i = ti :: items.drop (i + 1) := by rw [List.drop_eq_getElem_cons hlt]; congr 1; exact (List.getElem?_eq_some_iff.mp hv').2
    rw [hdrop] at hfr
    obtain ⟨hub, qr, hq, hfr⟩ := forR_cons hfr
    refine W.item i _ _ _ (hn ▸ hlt) hst' fun w' h₁ tk₁ hPw hst₁ hk₁ => ?_
    have hk₁' : ∀ b ob, b ≠ hE.objs.size → h'.get? b = some ob → h₁.get? b = some ob := fun b ob hb e => hk₁ b ob (fun z => hb (List.mem_singleton.mp z)) e
    have L₁ : Rel X sc env (fun b => P₀ b ∧ b ≠ hE.objs.size) g σ' h₁ μ' val' := by
      refine L'.iter (P₁ := fun b => P₀ b ∧ b ≠ hE.objs.size) hI' (fun b p => ⟨p.2, p⟩) hgI (hcI _ _ _ _ _ L' hI') hk₁' fun b e => ?_
      by_cases z : b = hE.objs.size
      · obtain ⟨ob, hob, _⟩ := hlive _ _ hst₁
        rw [z, hob] at e; cases e
      · refine L'.free b ?_
        cases q : h'.get? b with
        | none => rfl
        | some ob => rw [hk₁' b ob z q] at e; cases e
    have ri : R X (Pm (fun b => P₀ b ∧ b ≠ hE.objs.size) μ') h₁ ti w' := by
      refine hitem i w' ti _ h₁ hPw hv' fun b ob p e => ⟨⟨⟨p.1, hoth b ob e⟩, fun m => ?_⟩, hk₁' b ob (hoth b ob e) (old b ob p.2 e)⟩
      rcases new b m with z | z
      · exact p.2 z
      · have e' : hE.get? b = some ob := e
        rw [z] at e'; cases e'
    show wpAny _ A (pure ()) _ _ _
    refine wpAny_pure (wpAny_assign_Name (L₁.storeFro (s := { s with heap := h₁, toks := tk₁ }) S hv hst hm ri hub fun h₂ tk₂ val₂ L₂ f₂ => ?_))
    refine hb A env _ g _ { s with heap := h₂, toks := tk₂ } μ' val₂ qr rm S L₂ hq _ _ fun fl h₃ tk₃ p => ?_
    -- what a turn keeps
    have keepAx : ∀ (h₃ : Heap) (μ₃ : List Addr), Fm h₂ h₃ μ' μ₃ → St (i + 1) h₃ := by
      intro h₃ μ₃ f₃
      refine W.frame _ _ _ hst₁ fun b hb ob e => ?_
      have hbμ : b ∉ μ' := by
        rcases List.mem_cons.mp hb with z | z
        · rw [z]; exact hI'
        · intro m
          obtain ⟨ob', e'⟩ := hax b z
          rcases new b m with y | y
          · exact (hPax b z).2 y
          · have e' : hE.get? b = some ob' := e'
            rw [y] at e'; cases e'
      exact f₃.kept b ob hbμ (f₂.kept b ob hbμ e)
    have fmT : ∀ (h₃ : Heap) (μ₃ : List Addr), Fm h₂ h₃ μ' μ₃ → Fm (hE.push o) h₃ (hE.objs.size :: μ) (hE.objs.size :: μ₃) ∧ hE.objs.size ∉ μ₃ := by
      intro h₃ μ₃ f₃
      have f23 := f₂.trans f₃
      have hI₁ : ∃ ob, h₁.get? hE.objs.size = some ob := let ⟨ob, e, _⟩ := hlive _ _ hst₁; ⟨ob, e⟩
      have hI₃ : hE.objs.size ∉ μ₃ := fun m => by
        rcases f23.new _ m with z | z
        · exact hI' z
        · obtain ⟨ob, e⟩ := hI₁
          rw [e] at z; cases z
      refine ⟨⟨fun b ob hb e => ?_, fun b hb => ?_, fun b hb => ?_⟩, hI₃⟩
      · have hbI : b ≠ hE.objs.size := fun z => hb (z ▸ .head _)
        have e2 := hk₁' b ob hbI (fm.kept b ob hb e)
        refine f23.kept b ob (fun m => ?_) e2
        rcases fm.new b (.tail _ m) with z | z
        · exact hb z
        · rw [e] at z; cases z
      · rcases List.mem_cons.mp hb with z | z
        · rw [z]; exact .head _
        · exact .tail _ (f23.sub b (sub b z))
      · rcases List.mem_cons.mp hb with z | z
        · rw [z]; exact .inl (.head _)
        · rcases f23.new b z with y | y
          · exact fm.new b (.tail _ y)
          · by_cases zz : b = hE.objs.size
            · rw [zz]; exact .inl (.head _)
            · cases q : (hE.push o).get? b with
              | none => exact .inr rfl
              | some ob =>
                by_cases m : b ∈ hE.objs.size :: μ
                · exact .inl m
                · have := hk₁' b ob zz (fm.kept b ob m q)
                  rw [this] at y; cases y
    have fin : ∀ h₃ μ₃ val₃ σ₃, Rel X sc env (fun b => P₀ b ∧ b ≠ hE.objs.size) g σ₃ h₃ μ₃ val₃ → Fm h₂ h₃ μ' μ₃ → (Rel X sc env P₀ g σ₃ h₃ μ₃ val₃ ∧ Fm hE h₃ μ μ₃) := by
      intro h₃ μ₃ val₃ σ₃ L₃ f₃
      obtain ⟨ft, hI₃⟩ := fmT h₃ μ₃ f₃
      obtain ⟨ob₃, hob₃, _⟩ := hlive _ _ (keepAx h₃ μ₃ f₃)
      refine ⟨L₃.pred (fun b ob p _ => p.1) (fun b e => (L₃.free b e).1), fun b ob hb e => ft.kept b ob (fun z => (List.mem_cons.mp z).elim (hoth b ob e) hb) (kpush b ob e), fun b hb => ?_, fun b hb => ?_⟩
      · exact (List.mem_cons.mp (ft.sub b (.tail _ hb))).elim (fun z => absurd (z ▸ hb) hIμ) id
      · rcases ft.new b (.tail _ hb) with z | z
        · rcases List.mem_cons.mp z with z | z
          · exact absurd (z ▸ hb) hI₃
          · exact .inl z
        · exact .inr (kpush.fresh z)
    cases qr with
    | next σ₃ =>
      obtain ⟨rfl, μ₃, val₃, L₃, f₃⟩ := p
      obtain ⟨ft, hI₃⟩ := fmT h₃ μ₃ f₃
      exact ⟨items.length + 1 - (i + 1), by omega, .mk (i + 1) h₃ tk₃ σ₃ μ₃ val₃ hlt (keepAx h₃ μ₃ f₃) L₃ ft hI₃ hfr⟩
    | brk σ₃ =>
      obtain ⟨rfl, μ₃, val₃, L₃, f₃⟩ := p
      obtain ⟨L₄, f₄⟩ := fin h₃ μ₃ val₃ σ₃ L₃ f₃
      exact out _ h₃ tk₃ (.next σ₃) ⟨rfl, μ₃, val₃, L₄, f₄⟩ hfr.symm
    | ret t₃ =>
      obtain ⟨v₃, rfl, r₃, k₃⟩ := p
      exact out _ h₃ tk₃ (.ret t₃) ⟨v₃, rfl, R.weak r₃ fun b p => p.1, k₃⟩ hfr.symm
end
end Mine
end
noncomputable section
set_option Elab.async false
set_option linter.unusedVariables false
namespace Mine
open PySem PySem.W PySem.Calls PyProof.Rows
noncomputable def whileR (ft : List T → Option Bool) (fb fe : List T → Option Res) : Nat → List T → Option Res
  | 0, _ => none
  | n + 1, σ => match ft σ with
    | some true => (match fb σ with
      | some (.next σ') => whileR ft fb fe n σ'
      | some (.brk σ') => some (.next σ')
      | some (.ret t) => some (.ret t)
      | none => none)
    | some false => fe σ
    | none => none
noncomputable def sWhile (n : Nat) (ft : List T → Option Bool) (fb fe : List T → Option Res) : List T → Option Res := whileR ft fb fe n
section
variable {X : Cx} {sc : Sc} {d : Nat}
/-- what stands at a turn of a while -/
inductive WInv (X : Cx) (sc : Sc) (env : Env) (P₀ : Addr → Prop) (g : Heap) (ft : List T → Option Bool) (fb fe : List T → Option Res) (r : Res) (s : Shared) (μ : List Addr) : Nat → Shared → Prop
  | mk (m : Nat) (h' : Heap) (tk : Nat) (σ' : List T) (μ' : List Addr) (val' : Nat → Value) (L : Rel X sc env P₀ g σ' h' μ' val') (fm : Fm s.heap h' μ μ') (hw : whileR ft fb fe m σ' = some r) : WInv X sc env P₀ g ft fb fe r s μ m { s with heap := h', toks := tk }
theorem sWhile_ {n : Nat} {c : Expr} {body els : List Stmt} {pos : Pos} {ft : List T → Option Bool} {fb fe : List T → Option Res} (hc : RefT X sc d c ft) (hb : RefSs X sc d body fb) (he : RefSs X sc d els fe) : RefS X sc d (.While c body els pos) (sWhile n ft fb fe) := by
  intro A env P₀ g σ s μ val r rm S L hf Q E k
  refine wpAny_While ?_
  refine codeAny_whileLoop (WInv X sc env P₀ g ft fb fe r s μ) ?_ n (.mk n s.heap s.toks σ μ val L (.refl _ _) hf)
  rintro m s' ⟨h', tk, σ', μ', val', L', fm, hw⟩
  cases m with
  | zero => simp [whileR] at hw
  | succ m =>
    simp only [whileR] at hw
    split at hw
    · rename_i q
      refine hc A env P₀ g σ' _ μ' val' true rm S L' q _ _ fun h₁ tk₁ k₁ => ?_
      rw [if_pos rfl]
      split at hw
      · rename_i σ₂ q2
        refine hb A env P₀ g σ' _ μ' val' _ rm S (L'.at_ k₁) q2 _ _ fun fl h₂ tk₂ p => ?_
        obtain ⟨rfl, μ₂, val₂, L₂, f₂⟩ := p
        exact ⟨m, Nat.lt_succ_self _, .mk m h₂ tk₂ σ₂ μ₂ val₂ L₂ (fm.trans (f₂.before k₁)) hw⟩
      · rename_i σ₂ q2
        cases hw
        refine hb A env P₀ g σ' _ μ' val' _ rm S (L'.at_ k₁) q2 _ _ fun fl h₂ tk₂ p => ?_
        obtain ⟨rfl, μ₂, val₂, L₂, f₂⟩ := p
        exact k _ h₂ tk₂ ⟨rfl, μ₂, val₂, L₂, fm.trans (f₂.before k₁)⟩
      · rename_i t q2
        cases hw
        refine hb A env P₀ g σ' _ μ' val' _ rm S (L'.at_ k₁) q2 _ _ fun fl h₂ tk₂ p => ?_
        obtain ⟨v, rfl, z⟩ := p
        exact k _ h₂ tk₂ ⟨v, rfl, z⟩
      · cases hw
    · rename_i q
      refine hc A env P₀ g σ' _ μ' val' false rm S L' q _ _ fun h₁ tk₁ k₁ => ?_
      rw [if_neg (by decide)]
      exact he A env P₀ g σ' _ μ' val' r rm S (L'.at_ k₁) hw _ _ fun fl h₂ tk₂ p => k fl h₂ tk₂ (p.before (fm.trans (.of_kp k₁)))
    · cases hw
noncomputable def iaddT : T → T → Option T
  | .int a, .int b => some (.int (a + b))
  | _, _ => none
theorem bIadd : Bin X (inplaceOp .Add) iaddT := by
  intro A P x y t u v s d rm k0 hp rx ry e Q E k
  unfold iaddT at e
  split at e
  · cases e
    simp only [RW, R] at rx ry
    obtain ⟨_, rfl⟩ := rx; obtain ⟨_, rfl⟩ := ry
    exact PyProof.Rows.iadd_int (k _ _ _ (Kp.refl _) (R.of_int _ _))
  · cases e
theorem bIsub : Bin X (inplaceOp .Sub) subT := by
  intro A P x y t u v s d rm k0 hp rx ry e Q E k
  unfold subT at e
  split at e
  · cases e
    simp only [RW, R] at rx ry
    obtain ⟨_, rfl⟩ := rx; obtain ⟨_, rfl⟩ := ry
    exact PyProof.Rows.isub_int (k _ _ _ (Kp.refl _) (R.of_int _ _))
  · cases e
theorem sAug {v : VarD} {np pos : Pos} {op : Operator} {e : Expr} {f : List T → Option T} {o : T → T → Option T} (hv : v ∈ sc.vars) (hst : v.st = true) (hm : v.mode = .fro) (ho : Bin X (inplaceOp op) o) (h : RefE X sc d e f) :
    RefS X sc d (.AugAssign (.Name v.name np) op e pos) (sSet v.slot (e2 o (eVar v.slot) f)) := by
  intro A env P₀ g σ s μ val r rm S L hf Q E k
  obtain ⟨t, q, ht, rfl⟩ := sSet_some hf
  obtain ⟨x, y, q1, q2, q3⟩ := e2_some q
  refine wpAny_AugAssign_Name (rVarLoad hv S L q1 fun m => ?_)
  rw [hm] at m
  refine h A env P₀ g σ s μ val y rm S L q2 _ _ fun w h' tk k' rw_ => ?_
  refine ho A _ x y t _ w _ d rm (L.keep₀.trans k') (L.keeps k').freeP (.of (R.keeps m k')) (.of rw_) q3 _ _ fun z h₂ tk₂ k₂ rz => ?_
  exact (L.at_ (k'.trans k₂)).storeFro S hv hst hm rz ht fun h'' tk' val' L' fm => k _ h'' tk' ⟨rfl, μ, val', L', fm.before (k'.trans k₂)⟩
/-- a list of the frame's own is changed in place -/
theorem Rel.setOwn {v : VarD} {env : Env} {P₀ : Addr → Prop} {g h h' : Heap} {σ : List T} {μ : List Addr} {val : Nat → Value} (S : Scoped sc env) (L : Rel X sc env P₀ g σ h μ val) (hv : v ∈ sc.vars) (hm : v.mode = .own) {a : Addr} {ts ts' : List T} {vs vs' : List Value} {n n' : Nat}
    (e0 : σ[v.slot]? = some (.lst ts)) (e1 : val v.slot = .ref a) (ha : a ∈ μ) (g0 : h.get? a = some (lstObj vs n)) (g1 : h'.get? a = some (lstObj vs' n')) (hs : Heap.SameBut a h h') (rl : RL X (Pm P₀ μ) h ts' vs') :
    Rel X sc env P₀ g (σ.set v.slot (.lst ts')) h' μ val := by
  have hlt : v.slot < σ.length := (List.getElem?_eq_some_iff.mp e0).1
  have nL : env.locals ≠ a := fun z => by
    obtain ⟨o, es, k, e, dd⟩ := L.get_locals
    rw [z, g0] at e; cases e; cases dd
  have nC : ∀ c ov, h.IsCell c ov → c ≠ a := fun c ov i z => by
    obtain ⟨o, e, dd⟩ := i
    rw [z, g0] at e; cases e; cases dd
  refine ⟨L.base, L.above, L.keep.but (L.fresh a ha) hs, L.fresh, free_but L.free hs g1, live_but L.live hs g1, L.mine, L.lin, ?_, ?_, ?_, ?_⟩
  · obtain ⟨m, n⟩ := L.ns; exact ⟨m, n.sameBut hs nL⟩
  · intro d hd hc
    obtain ⟨c, ov, e, i, r⟩ := L.cells d hd hc
    exact ⟨c, ov, e, i.sameBut hs (nC c ov i), r⟩
  · intro d hd t q nub
    by_cases z : d.slot = v.slot
    · have := S.slots d hd v hv z
      subst this
      rw [List.getElem?_set_self hlt] at q
      cases q
      obtain ⟨u, w⟩ := L.var d hd _ e0 (by intro z; cases z)
      refine ⟨u.but hs (fun _ => nL) (fun c hc e => ?_), ?_⟩
      · obtain ⟨c', ov, e', i, _⟩ := L.cells d hd hc
        rw [e] at e'; cases e'; exact nC c ov i
      · rw [hm]; exact ⟨ts', a, vs', n', rfl, e1, ha, g1, rl.but ha hs⟩
    · rw [List.getElem?_set_ne (Ne.symm z)] at q
      obtain ⟨u, w⟩ := L.var d hd t q nub
      refine ⟨u.but hs (fun _ => nL) (fun c hc e => ?_), w.but ha hs (fun hown e => ?_) (fun _ => .inr fun es k e => ?_)⟩
      · obtain ⟨c', ov, e', i, _⟩ := L.cells d hd hc
        rw [e] at e'; cases e'; exact nC c ov i
      · exact absurd (e.trans e1.symm) (L.apart d hd v hv hown hm z t _ q nub e0 (by intro z; cases z))
      · rw [g0] at e
        have h3 : (lstObj vs n).data = (dictOf es k).data := congrArg Obj.data (Option.some.inj e)
        cases h3
  · intro d1 h1 d2 h2 m1 m2 hne t1 t2 q1 n1 q2 n2
    have conv : ∀ d ∈ sc.vars, ∀ t, (σ.set v.slot (.lst ts'))[d.slot]? = some t → t ≠ .unb → ∃ t', σ[d.slot]? = some t' ∧ t' ≠ .unb := by
      intro d hd t q nn
      by_cases z : d.slot = v.slot
      · exact ⟨_, z ▸ e0, by intro z; cases z⟩
      · rw [List.getElem?_set_ne (Ne.symm z)] at q; exact ⟨t, q, nn⟩
    obtain ⟨a1, b1, c1⟩ := conv d1 h1 t1 q1 n1
    obtain ⟨a2, b2, c2⟩ := conv d2 h2 t2 q2 n2
    exact L.apart d1 h1 d2 h2 m1 m2 hne a1 a2 b1 c1 b2 c2
noncomputable def sApp (i : Nat) (f : List T → Option T) : List T → Option Res := fun σ => match f σ with
  | some .unb => none
  | some t => (match σ[i]? with
    | some (.lst l) => if l.length ≤ lim then some (.next (σ.set i (.lst (l ++ [t])))) else none
    | _ => none)
  | none => none
theorem sApp_some {i : Nat} {f : List T → Option T} {σ : List T} {r : Res} (e : sApp i f σ = some r) : ∃ t l, f σ = some t ∧ t ≠ .unb ∧ σ[i]? = some (.lst l) ∧ l.length ≤ lim ∧ r = .next (σ.set i (.lst (l ++ [t]))) := by
  unfold sApp at e
  split at e
  · cases e
  · rename_i t hn q
    split at e
    · rename_i l q'
      split at e
      · rename_i z; cases e; exact ⟨t, l, q, hn, q', z, rfl⟩
      · cases e
    · cases e
  · cases e
/-- x.append(e) -/
theorem sAppend {v : VarD} {np apos cpos epos : Pos} {e : Expr} {f : List T → Option T} (hv : v ∈ sc.vars) (hm : v.mode = .own) (h : RefE X sc d e f)
    (hint : ∀ env : Env, env.scope.kind = .function → interactive env = false := by intro env h; simp [interactive, h])
    (hsw : ∀ env, swapsWith (.Call (.Attribute (.Name v.name np) "append" apos) [e] [] cpos) none epos.line env = pure false := by intro _; rfl)
    (hline : (apos.endLine == cpos.line) = true := by rfl) (htr : ∀ env, backTo cpos (starEach [e] env) = [(false, eval e env)] := by intro _; rfl) :
    RefS X sc d (.Expr (.Call (.Attribute (.Name v.name np) "append" apos) [e] [] cpos) epos) (sApp v.slot f) := by
  intro A env P₀ g σ s μ val r rm S L hf Q E k
  obtain ⟨t, l, q, ht, q', z, rfl⟩ := sApp_some hf
  refine wpAny_Expr ?_ (hint env S.kind) (hsw env)
  refine wpAny_Call_append rfl (by rw [htr]; rfl) hline (htr env) ?_
  refine wpAny_Name (rVarLoad hv S L (t := .lst l) (by unfold eVar; rw [q']) fun m => ?_) (S.nodbg v hv)
  rw [hm] at m
  obtain ⟨ts, a, vs, n, e1, e2, ha, ga, rl⟩ := m
  cases e1
  refine ⟨a, vs.toArray, e2, ⟨_, n, ga, rfl, rfl, rfl⟩, ?_⟩
  refine h A env P₀ g σ s μ val t rm S L q _ _ fun w h' tk k' rw_ => ?_
  refine append_at (its := vs.toArray) (n := n) (s := { s with heap := h', toks := tk }) (k' _ _ ga) (fun h'' hs'' ho'' => ?_) (by rw [List.size_toArray, rl.length]; exact Nat.le_trans z lim_le)
  have ho : h''.get? a = some (lstObj (vs ++ [w]) (n + 1)) := by
    rw [ho'']; unfold lstObj; simp
  refine k _ h'' tk ⟨rfl, μ, val, (L.keeps k').setOwn S hv hm q' e2 ha (k' _ _ ga) ho hs'' ((rl.keeps k').append (.one rw_)), Fm.before k' ⟨fun b o hb e => (hs''.2 b (fun zz => hb (zz ▸ ha))).trans e, fun _ h => h, fun _ h => .inl h⟩⟩
noncomputable def sSetI (i : Nat) (fi f : List T → Option T) : List T → Option Res := fun σ => match f σ with
  | some .unb => none
  | some t => (match σ[i]? with
    | some (.lst l) => (match fi σ with
      | some (.int j) => if 0 ≤ j ∧ j < l.length ∧ l.length ≤ lim then some (.next (σ.set i (.lst (l.set j.toNat t)))) else none
      | _ => none)
    | _ => none)
  | none => none
theorem sSetI_some {i : Nat} {fi f : List T → Option T} {σ : List T} {r : Res} (e : sSetI i fi f σ = some r) : ∃ t l j, f σ = some t ∧ t ≠ .unb ∧ σ[i]? = some (.lst l) ∧ fi σ = some (.int j) ∧ 0 ≤ j ∧ j < l.length ∧ l.length ≤ lim ∧ r = .next (σ.set i (.lst (l.set j.toNat t))) := by
  unfold sSetI at e
  split at e
  · cases e
  · rename_i t hn q
    split at e
    · rename_i l q'
      split at e
      · rename_i j q2
        split at e
        · rename_i z; cases e; exact ⟨t, l, j, q, hn, q', q2, z.1, z.2.1, z.2.2, rfl⟩
        · cases e
      · cases e
    · cases e
  · cases e
/-- x[i] = e -/
theorem sSetItem {v : VarD} {np ip pos : Pos} {i e : Expr} {fi f : List T → Option T} (hv : v ∈ sc.vars) (hm : v.mode = .own) (hi : RefE X sc d i fi) (h : RefE X sc d e f)
    (hs : ∀ env, swapsWith e (some (.Subscript (.Name v.name np) i ip)) pos.line env = pure false := by intro _; rfl) : RefS X sc d (.Assign [.Subscript (.Name v.name np) i ip] e pos) (sSetI v.slot fi f) := by
  intro A env P₀ g σ s μ val r rm S L hf Q E k
  obtain ⟨t, l, j, q, ht, q', q2, z1, z2, z3, rfl⟩ := sSetI_some hf
  have hlim : lim = 100000 := rfl
  refine wpAny_Assign_Subscript (h A env P₀ g σ s μ val t rm S L q _ _ fun w h' tk k' rw_ => ?_) (hs env)
  refine wpAny_Name (rVarLoad hv S (L.at_ k') (t := .lst l) (by unfold eVar; rw [q']) fun m => ?_) (S.nodbg v hv)
  rw [hm] at m
  obtain ⟨ts, a, vs, n, e1, e2, ha, ga, rl⟩ := m
  cases e1
  rw [e2]
  refine hi A env P₀ g σ _ μ val _ rm S (L.at_ k') q2 _ _ fun wi h₂ tk₂ k₂ rwi => ?_
  simp only [R] at rwi
  obtain ⟨tok, rfl⟩ := rwi
  have ga₂ : h₂.get? a = some (lstObj vs n) := k₂ _ _ ga
  refine ki_setAt (items := vs.toArray) (n := n) (s := { s with heap := h₂, toks := tk₂ }) ga₂ z1 (by omega) (by rw [List.size_toArray, rl.length]; exact z2) ?_
  have hu : (h₂.update a (Obj.mapSeq (·.setIfInBounds j.toNat w))).get? a = some (lstObj (vs.set j.toNat w) n) := by
    have : Obj.mapSeq (·.setIfInBounds j.toNat w) (lstObj vs n) = lstObj (vs.set j.toNat w) n := by
      simp [Obj.mapSeq, lstObj]
    rw [← this]
    exact Heap.get?_update_self _ ga₂ (by rw [this]; rfl)
  refine k _ _ tk₂ ⟨rfl, μ, val, (L.keeps (k'.trans k₂)).setOwn S hv hm q' e2 ha ga₂ hu (Heap.SameBut.update ..) ((rl.keeps k₂).set (rw_.keeps k₂) _), Fm.before (k'.trans k₂) ⟨fun b o hb e => ((Heap.SameBut.update h₂ a _).2 b (fun zz => hb (zz ▸ ha))).trans e, fun _ h => h, fun _ h => .inl h⟩⟩
end
end Mine
end
noncomputable section
set_option Elab.async false
set_option linter.unusedVariables false
namespace Mine
open PySem PySem.W PySem.Calls PyProof.Rows
/-- the cells that a comprehension's block takes from its frame -/
noncomputable def clos (cells : List (Str × Addr)) : List (Str × NameKind) → List (Str × Addr) → List (Str × Addr)
  | [], acc => acc
  | (n, k) :: r, acc => clos cells r (if k == .free then (match cells.lookup n with | some c => (n, c) :: acc | none => acc) else acc)
theorem closureFor_clos {scope : Scope} {env : Env} (h : ∀ y ∈ scope.names, y.2 = .free → ∃ c, env.cells.lookup y.1 = some c) : closureFor scope env = pure (clos env.cells scope.names []) := by
  unfold closureFor
  have gen : ∀ (l : List (Str × NameKind)) (acc : List (Str × Addr)), (∀ y ∈ l, y.2 = .free → ∃ c, env.cells.lookup y.1 = some c) →
      (forIn l acc (fun x r => if (x.2 == NameKind.free) = true then do let a ← cellOf env x.1; pure (ForInStep.yield ((x.1, a) :: r)) else pure (ForInStep.yield r)) : Sem (List (Str × Addr))) = pure (clos env.cells l acc) := by
    intro l
    induction l with
    | nil => intro acc _; rfl
    | cons y l ih =>
      intro acc hy
      obtain ⟨n, k⟩ := y
      rw [List.forIn_cons]
      simp only [clos]
      by_cases hk : k = .free
      · subst hk
        obtain ⟨c, hc⟩ := hy (n, .free) (.head _) rfl
        have hc : env.cells.lookup n = some c := hc
        simp only [beq_self_eq_true, if_true, hc, cellOf]
        rw [← ih _ fun y hm => hy y (.tail _ hm)]
        rfl
      · have : (k == NameKind.free) = false := by simpa using hk
        simp only [this, Bool.false_eq_true, if_false]
        rw [← ih _ fun y hm => hy y (.tail _ hm)]
        rfl
  show ((forIn scope.names ([] : List (Str × Addr)) (fun x r => if (x.2 == NameKind.free) = true then do let a ← cellOf env x.1; pure (ForInStep.yield ((x.1, a) :: r)) else pure (ForInStep.yield r)) : Sem (List (Str × Addr))) >>= fun s => pure s) = _
  rw [gen scope.names [] h]
  rfl
theorem clos_lookup (cells : List (Str × Addr)) : ∀ (l : List (Str × NameKind)) (acc : List (Str × Addr)), (∀ n c, acc.lookup n = some c → cells.lookup n = some c) → ∀ n c, (clos cells l acc).lookup n = some c → cells.lookup n = some c
  | [], _, h, n, c, e => h n c e
  | (n₀, k) :: r, acc, h, n, c, e => by
    refine clos_lookup cells r _ ?_ n c e
    intro n' c' e'
    split at e'
    · split at e'
      · rename_i c₀ q
        rw [List.lookup_cons] at e'
        split at e'
        · rename_i z; cases e'; rw [beq_iff_eq.mp z]; exact q
        · exact h n' c' e'
      · exact h n' c' e'
    · exact h n' c' e'
theorem clos_some (cells : List (Str × Addr)) (n : Str) (c : Addr) (hc : cells.lookup n = some c) : ∀ (l : List (Str × NameKind)) (acc : List (Str × Addr)), ((n, NameKind.free) ∈ l ∨ ∃ c', acc.lookup n = some c') → ∃ c', (clos cells l acc).lookup n = some c'
  | [], acc, h => h.elim (fun z => by cases z) id
  | (n₀, k) :: r, acc, h => by
    simp only [clos]
    refine clos_some cells n c hc r _ ?_
    rcases h with h | ⟨c', h⟩
    · rcases List.mem_cons.mp h with z | z
      · cases z
        right
        simp only [beq_self_eq_true, if_true, hc]
        exact ⟨c, by simp [List.lookup_cons]⟩
      · exact .inl z
    · right
      split
      · split
        · rename_i c₀ q
          rw [List.lookup_cons]
          split
          · exact ⟨_, rfl⟩
          · exact ⟨c', h⟩
        · exact ⟨c', h⟩
      · exact ⟨c', h⟩
theorem lookup_relabel {env : Env} : ∀ {names : List (Str × NameKind)} {x : Str} {k : NameKind}, names.lookup x = some k →
    (names.map fun (n, k) => if (k == NameKind.free && env.scope.kind == .function && env.kindOf n == some .cell) then (n, NameKind.cell) else (n, k)).lookup x = some (if (k == NameKind.free && env.scope.kind == .function && env.kindOf x == some .cell) then .cell else k)
  | [], _, _, h => by simp at h
  | (n, k₀) :: r, x, k, h => by
    have ih := @lookup_relabel env r x k
    rw [List.lookup_cons] at h
    simp only [List.map_cons]
    split at h
    · rename_i z
      cases h
      have z' := beq_iff_eq.mp z
      subst z'
      by_cases hc : (k₀ == NameKind.free && env.scope.kind == .function && env.kindOf x == some .cell) = true
      · simp only [hc, if_true]; simp [List.lookup_cons]
      · simp only [hc, if_false]; simp [List.lookup_cons]
    · rename_i z
      by_cases hc : (k₀ == NameKind.free && env.scope.kind == .function && env.kindOf n == some .cell) = true
      · rw [if_pos hc]; rw [List.lookup_cons]; simp only [z]; exact ih h
      · rw [if_neg hc]; rw [List.lookup_cons]; simp only [z]; exact ih h
/-- sc' is the inner block's view of the names: its own, and those that it takes from sc -/
structure CompSc (sc sc' : Sc) (cl : List Nat) (scope : Scope) : Prop where
  kind : scope.kind = .function
  nocell : ∀ y ∈ scope.names, y.2 ≠ .cell
  loc : ∀ y ∈ scope.names, y.2 = .local → scope.names.lookup y.1 = some .local
  free : ∀ y ∈ scope.names, y.2 = .free → ∃ d ∈ sc.vars, d.cell = true ∧ d.name = y.1
  vars : ∀ d' ∈ sc'.vars, d'.mode = .fro ∧ ((d'.cell = false ∧ d'.st = true ∧ d'.slot ∈ cl ∧ scope.names.lookup d'.name = some .local) ∨
    (d'.cell = true ∧ d'.st = false ∧ d'.slot ∉ cl ∧ scope.names.lookup d'.name = some .free ∧ (d'.name, NameKind.free) ∈ scope.names ∧ ∃ d ∈ sc.vars, d.cell = true ∧ d.name = d'.name ∧ d.slot = d'.slot ∧ d.mode = .fro))
  nodbg : ∀ d ∈ sc'.vars, (d.name == ("__debug__" : Str)) = false
  names : ∀ d ∈ sc'.vars, ∀ d' ∈ sc'.vars, d.name = d'.name → d = d'
  slots : ∀ d ∈ sc'.vars, ∀ d' ∈ sc'.vars, d.slot = d'.slot → d = d'
  globs : ∀ x ∈ sc'.globs, scope.names.lookup x = some .globalImplicit ∧ (x == ("__debug__" : Str)) = false ∧ x ≠ "__name__"
theorem CompSc.scoped {sc sc' : Sc} {cl : List Nat} {scope : Scope} (c : CompSc sc sc' cl scope) {env : Env} (S : Scoped sc env) (C : Addr) : Scoped sc' (compEnvC scope (clos env.cells scope.names []) C env) where
  kind := c.kind
  loc := fun d hd hc => by
    have := (c.vars d hd).2
    rcases this with ⟨_, _, _, h⟩ | ⟨h, _⟩
    · exact (lookup_relabel h).trans (by simp)
    · rw [hc] at h; cases h
  cel := fun d hd hc => by
    rcases (c.vars d hd).2 with ⟨h, _⟩ | ⟨_, _, _, h, _, d₀, hd₀, hc₀, hn, _⟩
    · rw [hc] at h; cases h
    · refine (lookup_relabel h).trans ?_
      have : env.kindOf d.name = some .cell := hn ▸ S.cel d₀ hd₀ hc₀
      simp [this, S.kind]
  nodbg := c.nodbg
  names := c.names
  slots := c.slots
  apart := fun n n' cc e e' => by
    have h1 := clos_lookup env.cells scope.names [] (fun _ _ z => by simp at z) n cc e
    have h2 := clos_lookup env.cells scope.names [] (fun _ _ z => by simp at z) n' cc e'
    exact S.apart n n' cc h1 h2
  glob := S.glob
  blt := S.blt
  gkind := fun x hx => by
    obtain ⟨h1, h2, h3⟩ := c.globs x hx
    exact ⟨(lookup_relabel h1).trans (by simp), h2, h3⟩
/-- a target -/
noncomputable def RefTg (X : Cx) (sc : Sc) (tg : Expr) (f : T → List T → Option (List T)) : Prop :=
  ∀ (A : Around) (env : Env) (P₀ : Addr → Prop) (g : Heap) (σ : List T) (s : Shared) (μ : List Addr) (val : Nat → Value) (t : T) (v : Value) (σ' : List T), A.handled = none → Scoped sc env → Rel X sc env P₀ g σ s.heap μ val → R X (Pm P₀ μ) s.heap t v → f t σ = some σ' →
    ∀ (Q : Unit → Shared → Prop) (E : Value → Shared → Prop), (∀ h' tk val', Rel X sc env P₀ g σ' h' μ val' → Fm s.heap h' μ μ → Q () { s with heap := h', toks := tk }) → wpAny (model X.prog X.w) A (assign tg env v) Q E s
noncomputable def g1 (i : Nat) (t : T) (σ : List T) : Option (List T) := match t with
  | .unb => none
  | t => some (σ.set i t)
noncomputable def g3 (i j l : Nat) (t : T) (σ : List T) : Option (List T) := match t with
  | .tup [a, b, c] => (match a, b, c with
    | .unb, _, _ => none
    | _, .unb, _ => none
    | _, _, .unb => none
    | a, b, c => some (((σ.set i a).set j b).set l c))
  | _ => none
/-- the tests of a comprehension -/
noncomputable def RefIfs (X : Cx) (sc : Sc) (d : Nat) (ifs : List Expr) (f : List T → Option Bool) : Prop :=
  ∀ (A : Around) (env : Env) (P₀ : Addr → Prop) (g : Heap) (σ : List T) (s : Shared) (μ : List Addr) (val : Nat → Value) (t : Bool), Room A d → Scoped sc env → Rel X sc env P₀ g σ s.heap μ val → f σ = some t →
    ∀ (Q : Bool → Shared → Prop) (E : Value → Shared → Prop), (∀ h' tk, Kp s.heap h' → Q t { s with heap := h', toks := tk }) →
      wpAny (model X.prog X.w) A (forIn ifs true fun c r => if r = true then do let ok ← isTrue c env (eval c env); pure (ForInStep.yield ok) else pure (ForInStep.yield r)) Q E s
noncomputable def tT : List T → Option Bool := fun _ => some true
noncomputable def compR (tg : T → List T → Option (List T)) (ft : List T → Option Bool) (fe : List T → Option T) : List T → List T → Option (List T)
  | [], _ => some []
  | t :: ts, σ => match tg t σ with
    | some σ' => (match ft σ' with
      | some true => (match fe σ' with
        | some x => (match compR tg ft fe ts σ' with
          | some r => some (x :: r)
          | none => none)
        | none => none)
      | some false => compR tg ft fe ts σ'
      | none => none)
    | none => none
noncomputable def clr : List Nat → List T → List T
  | [], σ => σ
  | i :: r, σ => clr r (σ.set i .unb)
theorem clr_in : ∀ (l : List Nat) (σ : List T) (i : Nat), (i ∈ l ∨ σ[i]? = some .unb ∨ σ[i]? = none) → (clr l σ)[i]? = some .unb ∨ (clr l σ)[i]? = none
  | [], σ, i, h => h.elim (fun z => by cases z) id
  | j :: r, σ, i, h => by
    simp only [clr]
    refine clr_in r _ i ?_
    by_cases z : i = j
    · right
      subst z
      by_cases hl : i < σ.length
      · left; exact List.getElem?_set_self hl
      · right; rw [List.getElem?_eq_none]; simpa using Nat.le_of_not_lt hl
    · rcases h with h | h
      · rcases List.mem_cons.mp h with y | y
        · exact absurd y z
        · exact .inl y
      · right; rw [List.getElem?_set_ne (Ne.symm z)]; exact h
theorem clr_out : ∀ (l : List Nat) (σ : List T) (i : Nat), i ∉ l → (clr l σ)[i]? = σ[i]?
  | [], σ, i, _ => rfl
  | j :: r, σ, i, h => by
    simp only [clr]
    rw [clr_out r _ i fun m => h (.tail _ m), List.getElem?_set_ne (fun z : j = i => h (z ▸ .head _))]
noncomputable def eComp (cl : List Nat) (fi : List T → Option T) (tg : T → List T → Option (List T)) (ft : List T → Option Bool) (fe : List T → Option T) : List T → Option T := fun σ => match fi σ with
  | some t => (match iterT t with
    | some l => if l.length ≤ lim then (match compR tg ft fe l (clr cl σ) with
        | some r => some (.lst r)
        | none => none) else none
    | none => none)
  | none => none
theorem eComp_some {cl : List Nat} {fi : List T → Option T} {tg : T → List T → Option (List T)} {ft : List T → Option Bool} {fe : List T → Option T} {σ : List T} {t : T} (e : eComp cl fi tg ft fe σ = some t) : ∃ x l r, fi σ = some x ∧ iterT x = some l ∧ l.length ≤ lim ∧ compR tg ft fe l (clr cl σ) = some r ∧ t = .lst r := by
  unfold eComp at e
  split at e
  · rename_i x q
    split at e
    · rename_i l q'
      split at e
      · rename_i z
        split at e
        · rename_i r q2; cases e; exact ⟨x, l, r, q, q', z, q2, rfl⟩
        · cases e
      · cases e
    · cases e
  · cases e
theorem compR_cons {tg : T → List T → Option (List T)} {ft : List T → Option Bool} {fe : List T → Option T} {t : T} {ts : List T} {σ : List T} {r : List T} (e : compR tg ft fe (t :: ts) σ = some r) :
    ∃ σ' b, tg t σ = some σ' ∧ ft σ' = some b ∧ (match b with
      | true => ∃ x r', fe σ' = some x ∧ compR tg ft fe ts σ' = some r' ∧ r = x :: r'
      | false => compR tg ft fe ts σ' = some r) := by
  simp only [compR] at e
  split at e
  · rename_i σ' q
    split at e
    · rename_i q2
      split at e
      · rename_i x q3
        split at e
        · rename_i r' q4; cases e; exact ⟨σ', true, q, q2, x, r', q3, q4, rfl⟩
        · cases e
      · cases e
    · rename_i q2; exact ⟨σ', false, q, q2, e⟩
    · cases e
  · cases e
theorem compR_len {tg : T → List T → Option (List T)} {ft : List T → Option Bool} {fe : List T → Option T} : ∀ {ts : List T} {σ : List T} {r : List T}, compR tg ft fe ts σ = some r → r.length ≤ ts.length
  | [], σ, r, e => by simp only [compR] at e; cases e; simp
  | t :: ts, σ, r, e => by
    obtain ⟨σ', b, _, _, h⟩ := compR_cons e
    cases b with
    | true => obtain ⟨x, r', _, h2, rfl⟩ := h; have := compR_len h2; simp only [List.length_cons]; omega
    | false => have := compR_len h; simp only [List.length_cons]; omega
section
variable {X : Cx} {sc sc' : Sc} {d : Nat} {cl : List Nat}
theorem tgName {v : VarD} {np : Pos} (hv : v ∈ sc.vars) (hst : v.st = true) (hm : v.mode = .fro) : RefTg X sc (.Name v.name np) (g1 v.slot) := by
  intro A env P₀ g σ s μ val t w σ' hh S L r hf Q E k
  have hq : t ≠ .unb ∧ σ' = σ.set v.slot t := by
    unfold g1 at hf
    split at hf
    · cases hf
    · rename_i hn; cases hf; exact ⟨hn, rfl⟩
  obtain ⟨hu, rfl⟩ := hq
  exact wpAny_assign_Name (L.storeFro S hv hst hm r hu k)
theorem ifs0 : RefIfs X sc d [] tT := by
  intro A env P₀ g σ s μ val t r S L hf Q E k
  cases hf
  exact wpAny_tests_nil (k s.heap s.toks (Kp.refl _))
theorem ifs1 {c : Expr} {f : List T → Option Bool} (h : RefT X sc d c f) : RefIfs X sc d [c] f := by
  intro A env P₀ g σ s μ val t r S L hf Q E k
  exact wpAny_tests_one (h A env P₀ g σ s μ val t r S L hf _ _ k)
theorem codeAny_compLoop_gen {prog : Program} {w : World} {A : Around} {R : Result → Shared → Prop} {s : Shared} {elt target iter : Expr} {ifs : List Expr} {scope : Scope} {pos : Pos} {it acc : Value} {env : Env} (I : Nat → Shared → Prop)
    (turn : ∀ n s, I n s → ∀ E, wpAny (model prog w) A (pyNext it) (fun r s₁ => match r with
      | none => R (.ok .next) s₁
      | some v => wpAny (model prog w) A (letOwnedTupleGo target it v) (fun _ s₁' => wpAny (model prog w) A (assign target env v) (fun _ s₂ =>
          wpAny (model prog w) A (forIn ifs true fun c r => if r = true then do let ok ← isTrue c env (eval c env); pure (ForInStep.yield ok) else pure (ForInStep.yield r)) (fun ok s₃ =>
            if ok = true then wpAny (model prog w) A (eval elt env) (fun x s₄ => wpAny (model prog w) A (call (.builtin "list.append") [acc, x]) (fun _ s₅ => ∃ m, m < n ∧ I m s₅) E s₄) E s₃
            else ∃ m, m < n ∧ I m s₃) E s₂) E s₁') E s₁) E s)
    (n : Nat) (h : I n s) : codeAny (model prog w) A (.compLoop (.ListComp elt [⟨target, iter, ifs, 0⟩] scope pos) 0 it acc env) R s := by
  refine codeAny_loop rfl I (fun n s hI => ?_) n h
  show wpAny _ A ((compTurn (.ListComp elt [⟨target, iter, ifs, 0⟩] scope pos) 0 it acc env).onRaise (fun x => do noteFrame x env; theTreesLotGoes x)) _ _ s
  refine wpAny_noted ?_
  rw [compTurn_list]
  refine wpAny_bind (wpAny_standAt (wpAny_bind (wpAny_mono (turn n s hI _) (fun r s₁ h₁ => ?_) fun _ _ h' => h')))
  cases r with
  | none => exact wpAny_pure h₁
  | some v =>
    refine wpAny_bind (wpAny_mono h₁ (fun _ s₁' h₁' => ?_) fun _ _ h' => h')
    refine wpAny_bind (wpAny_mono h₁' (fun _ s₂ h₂ => wpAny_bind (wpAny_mono h₂ (fun ok s₃ h₃ => ?_) fun _ _ h' => h')) fun _ _ h' => h')
    cases ok with
    | false => exact wpAny_pure ⟨rfl, h₃⟩
    | true => exact wpAny_bind (wpAny_bind (wpAny_mono h₃ (fun x s₄ h₄ => wpAny_bind (wpAny_mono h₄ (fun _ s₅ h₅ => wpAny_pure (wpAny_pure ⟨rfl, h₅⟩)) fun _ _ h' => h')) fun _ _ h' => h'))
/-- targets that are let go of nothing -/
noncomputable def plainTg : Expr → Bool
  | .Name .. => true
  | .Tuple .. => true
  | _ => false
theorem letOwned_ok {M : Model} {A : Around} {E : Value → Shared → Prop} {s : Shared} {tg : Expr} (ht : plainTg tg = true) {I : Addr} {v : Value} {ob : Obj} {vs : Array Value} {c : String} (ho : s.heap.get? I = some ob) (hd : ob.data = .fields vs) (hc : ob.cls = .type c)
    (hn : (["enumerate", "zip", "dict_itemiterator", "dict_reverseitemiterator", "odict_iterator", "itertools.zip_longest", "itertools.pairwise"] : List String).contains c = false) {Q : Unit → Shared → Prop} (h : Q () s) : wpAny M A (letOwnedTupleGo tg (.ref I) v) Q E s := by
  cases tg <;> first | (simp [plainTg] at ht; done) | skip
  case Name => exact wpAny_pure h
  case Tuple =>
    unfold letOwnedTupleGo
    cases v <;> first | exact wpAny_pure h | skip
    refine wpAny_bind (wpAny_load ho ?_)
    rw [hc, hd]
    dsimp only
    rw [hn]
    exact wpAny_pure h
/-- what stands at a turn of a comprehension's loop -/
inductive CInv (X : Cx) (sc' : Sc) (env : Env) (P : Addr → Prop) (hE : Heap) (C D : Addr) (St : Nat → Heap → Prop) (tf : T → List T → Option (List T)) (ft : List T → Option Bool) (fe : List T → Option T) (items res : List T) (s : Shared) : Nat → Shared → Prop
  | mk (i : Nat) (h' : Heap) (tk : Nat) (σ' : List T) (val' : Nat → Value) (acc : List T) (vs : List Value) (k : Nat) (rest : List T) (hi : i ≤ items.length) (hst : St i h') (L : Rel X sc' env P hE σ' h' [C] val') (gD : h'.get? D = some (lstObj vs k)) (rl : RL X (Pm P [C]) h' acc vs) (hal : acc.length ≤ i)
      (hcr : compR tf ft fe (items.drop i) σ' = some rest) (hres : res = acc ++ rest) : CInv X sc' env P hE C D St tf ft fe items res s (items.length + 1 - i) { s with heap := h', toks := tk }
theorem comp_loop {elt iter tg : Expr} {ifs : List Expr} {scope : Scope} {pos : Pos} {tf : T → List T → Option (List T)} {ft : List T → Option Bool} {fe : List T → Option T} (c : CompSc sc sc' cl scope) (htg : RefTg X sc' tg tf) (hpt : plainTg tg = true) (hft : RefIfs X sc' d ifs ft) (hfe : RefE X sc' d elt fe)
    {A : Around} {env : Env} {P₀ : Addr → Prop} {g hE h₃ : Heap} {σ : List T} {s : Shared} {μ : List Addr} {val : Nat → Value} (rm : Room A d) (S : Scoped sc env) (LE : Rel X sc env P₀ g σ hE μ val) {I D C : Addr} (fI : hE.get? I = none) (fD : hE.get? D = none) (fC : hE.get? C = none) (nID : I ≠ D) (nIC : I ≠ C) (nDC : D ≠ C)
    (k3 : Kp hE h₃) (gD : h₃.get? D = some (lstObj [] 0)) (nC : ∃ m, h₃.Ns C m) (habove : X.h₀.objs.size ≤ C) {ax : List Addr} {n : Nat} {Pv : Nat → Value → Prop} {St : Nat → Heap → Prop} (W : Walks X.prog X.w A I (I :: ax) [I] n Pv St) (st0 : St 0 h₃) {items res : List T} (hn : n = items.length) (hlen : items.length ≤ lim)
    (hax : ∀ b ∈ ax, ∃ ob, hE.get? b = some ob) (hlive : ∀ i h', St i h' → ∃ ob, h'.get? I = some ob ∧ ∃ vs, ob.data = .fields vs ∧ ∃ c, ob.cls = .type c ∧ (["enumerate", "zip", "dict_itemiterator", "dict_reverseitemiterator", "odict_iterator", "itertools.zip_longest", "itertools.pairwise"] : List String).contains c = false)
    (hitem : ∀ i w ti P'' h'', Pv i w → items[i]? = some ti → (∀ b ob, Pm P₀ μ b → hE.get? b = some ob → P'' b ∧ h''.get? b = some ob) → R X P'' h'' ti w) (q3 : compR tf ft fe items (clr cl σ) = some res) {RR : Result → Shared → Prop} {tk₀ : Nat}
    (hR : ∀ h' tk vs k m, Kp hE h' → h'.Ns C m → h'.get? D = some (lstObj vs k) → RL X (fun b => Pm P₀ μ b ∧ b ≠ C ∧ b ≠ D) h' res vs → RR (.ok .next) { s with heap := h', toks := tk }) :
    codeAny (model X.prog X.w) A (.compLoop (.ListComp elt [⟨tg, iter, ifs, 0⟩] scope pos) 0 (.ref I) (.ref D) (compEnvC scope (clos env.cells scope.names []) C env)) RR { s with heap := h₃, toks := tk₀ } := by
  have S' := c.scoped S C
  have hoth : ∀ b ob, hE.get? b = some ob → b ≠ I ∧ b ≠ D ∧ b ≠ C := fun b ob e => ⟨fun z => (by rw [z, fI] at e; cases e), fun z => (by rw [z, fD] at e; cases e), fun z => (by rw [z, fC] at e; cases e)⟩
  have hCl : ∃ ob, h₃.get? C = some ob := let ⟨m, o, _, _, e, _⟩ := nC; ⟨o, e⟩
  have freeP : ∀ h', Kp hE h' → (∃ ob, h'.get? I = some ob) → (∃ ob, h'.get? D = some ob) → ∀ b, h'.get? b = none → (Pm P₀ μ b ∧ b ≠ I ∧ b ≠ D) := by
    intro h' k' ⟨_, eI⟩ ⟨_, eD⟩ b e
    exact ⟨LE.freeP b (k'.fresh e), fun z => (by rw [z, eI] at e; cases e), fun z => (by rw [z, eD] at e; cases e)⟩
  -- the inner frame at the loop's start
  have L0 : Rel X sc' (compEnvC scope (clos env.cells scope.names []) C env) (fun b => Pm P₀ μ b ∧ b ≠ I ∧ b ≠ D) hE (clr cl σ) h₃ [C] val := by
    refine ⟨LE.keep₀, habove, k3, fun b hb => by rw [List.mem_singleton.mp hb]; exact fC, freeP h₃ k3 (let ⟨ob, e, _⟩ := hlive _ _ st0; ⟨ob, e⟩) ⟨_, gD⟩, fun b hb => by rw [List.mem_singleton.mp hb]; exact hCl,
      fun b hb => by rw [List.mem_singleton.mp hb]; exact ⟨LE.freeP C fC, Ne.symm nIC, Ne.symm nDC⟩, .head _, nC, ?_, ?_, ?_⟩
    · intro d' hd' hc'
      rcases (c.vars d' hd').2 with ⟨h, _⟩ | ⟨_, hst, _, _, hmem, d₀, hd₀, hc₀, hn₀, _⟩
      · rw [hc'] at h; cases h
      · obtain ⟨cc, ov, e, i, _⟩ := LE.cells d₀ hd₀ hc₀
        rw [hn₀] at e
        obtain ⟨c', e'⟩ := clos_some env.cells d'.name cc e scope.names [] (.inl hmem)
        have := clos_lookup env.cells scope.names [] (fun _ _ z => by simp at z) _ _ e'
        rw [e] at this; cases this
        exact ⟨cc, ov, e', i.keeps k3, fun z => by rw [hst] at z; cases z⟩
    · intro d' hd' t' q' nub
      rcases (c.vars d' hd').2 with ⟨h, _, hin, _⟩ | ⟨hcell, hst, hout, _, hmem, d₀, hd₀, hc₀, hn₀, hs₀, hm₀⟩
      · rcases clr_in cl σ d'.slot (.inl hin) with z | z
        · rw [z] at q'; cases q'; exact absurd rfl nub
        · rw [z] at q'; cases q'
      · rw [clr_out cl σ _ hout, ← hs₀] at q'
        obtain ⟨u, w⟩ := LE.var d₀ hd₀ t' q' nub
        rw [hm₀] at w
        rw [(c.vars d' hd').1, ← hs₀]
        unfold Has at u ⊢
        rw [hc₀] at u
        rw [hcell]
        obtain ⟨cc, e, i⟩ := u
        rw [hn₀] at e
        obtain ⟨c', e'⟩ := clos_some env.cells d'.name cc e scope.names [] (.inl hmem)
        have := clos_lookup env.cells scope.names [] (fun _ _ z => by simp at z) _ _ e'
        rw [e] at this; cases this
        refine ⟨⟨cc, e', i.keeps k3⟩, ?_⟩
        exact R.mono (fun b o p q => ⟨⟨p, (hoth b o q).1, (hoth b o q).2.1⟩, fun z => (hoth b o q).2.2 (List.mem_singleton.mp z)⟩) (fun b o p q => k3 b o q) _ w
    · intro d1 h1 d2 h2 m1
      rw [(c.vars d1 h1).1] at m1; cases m1
  have cellNe : ∀ {h' : Heap} {σ' : List T} {val' : Nat → Value} {J : Addr} {ob : Obj}, Rel X sc' (compEnvC scope (clos env.cells scope.names []) C env) (fun b => Pm P₀ μ b ∧ b ≠ I ∧ b ≠ D) hE σ' h' [C] val' → h'.get? J = some ob → (∀ v, ob.data ≠ .cell v) →
      ∀ d ∈ sc'.vars, d.cell = true → ∀ cc, (compEnvC scope (clos env.cells scope.names []) C env).cells.lookup d.name = some cc → cc ≠ J := by
    intro h' σ' val' J ob L' hJ hnc d hd hc cc hl z
    obtain ⟨c', ov, e, ⟨oc, ec, dc⟩, _⟩ := L'.cells d hd hc
    rw [hl] at e; cases e
    rw [z, hJ] at ec; cases ec
    exact hnc _ dc
  refine codeAny_compLoop_gen (CInv X sc' (compEnvC scope (clos env.cells scope.names []) C env) (fun b => Pm P₀ μ b ∧ b ≠ I ∧ b ≠ D) hE C D St tf ft fe items res s) ?_ (items.length + 1)
    (.mk 0 h₃ tk₀ (clr cl σ) val [] [] 0 res (Nat.zero_le _) st0 L0 gD .nil (Nat.le_refl _) (by simpa using q3) rfl)
  rintro m s' ⟨i, h', tk, σ', val', acc, vs, k, rest, hi', hst', L', gD', rl', hal, hcr, hres⟩ E
  cases hv' : items[i]? with
  | none =>
    have hin : i = items.length := Nat.le_antisymm hi' (by simpa using hv')
    subst hin
    rw [List.drop_length] at hcr
    simp only [compR] at hcr
    cases hcr
    refine W.done _ _ _ (hn ▸ hst') fun h₁ tk₁ hk₁ => ?_
    have hk₁' : ∀ b ob, b ≠ I → h'.get? b = some ob → h₁.get? b = some ob := fun b ob hb e => hk₁ b ob (fun z => hb (List.mem_singleton.mp z)) e
    obtain ⟨m', ns'⟩ := L'.ns
    refine hR h₁ tk₁ vs k m' (fun b ob e => hk₁' b ob (hoth b ob e).1 (L'.keep b ob e)) (let ⟨o, es, ep, e, r⟩ := ns'; ⟨o, es, ep, hk₁' _ _ (Ne.symm nIC) e, r⟩) (hk₁' _ _ (Ne.symm nID) gD') ?_
    rw [hres, List.append_nil]
    exact RL.mono (fun b ob p _ => ⟨p.1.1, fun z => p.2 (z ▸ .head _), p.1.2.2⟩) (fun b ob p e => hk₁' b ob p.1.2.1 e) _ rl'
  | some ti =>
    have hlt : i < items.length := (List.getElem?_eq_some_iff.mp hv').1
    have hdrop : items.drop i = ti :: items.drop (i + 1) := by rw [List.drop_eq_getElem_cons hlt]; congr 1; exact (List.getElem?_eq_some_iff.mp hv').2
    rw [hdrop] at hcr
    obtain ⟨σ₂, b₂, qt, qf, hcr⟩ := compR_cons hcr
    refine W.item i _ _ _ (hn ▸ hlt) hst' fun w' h₁ tk₁ hPw hst₁ hk₁ => ?_
    have hk₁' : ∀ b ob, b ≠ I → h'.get? b = some ob → h₁.get? b = some ob := fun b ob hb e => hk₁ b ob (fun z => hb (List.mem_singleton.mp z)) e
    obtain ⟨obI, hobI, vsI, hdI, cI, hcI, hnI⟩ := hlive _ _ hst₁
    obtain ⟨obI', hobI', vsI', hdI', _⟩ := hlive _ _ hst'
    have kE1 : Kp hE h₁ := fun b ob e => hk₁' b ob (hoth b ob e).1 (L'.keep b ob e)
    have gD₁ := hk₁' _ _ (Ne.symm nID) gD'
    have L₁ : Rel X sc' (compEnvC scope (clos env.cells scope.names []) C env) (fun b => Pm P₀ μ b ∧ b ≠ I ∧ b ≠ D) hE σ' h₁ [C] val' :=
      L'.iter (fun z => nIC (List.mem_singleton.mp z)) (fun b p => ⟨p.2.1, p⟩) fI (cellNe L' hobI' (fun v e => by rw [hdI'] at e; cases e)) hk₁' (freeP h₁ kE1 ⟨_, hobI⟩ ⟨_, gD₁⟩)
    have rl₁ : RL X (Pm (fun b => Pm P₀ μ b ∧ b ≠ I ∧ b ≠ D) [C]) h₁ acc vs := RL.mono (fun _ _ p _ => p) (fun b ob p e => hk₁' b ob p.1.2.1 e) _ rl'
    have ri : R X (Pm (fun b => Pm P₀ μ b ∧ b ≠ I ∧ b ≠ D) [C]) h₁ ti w' :=
      hitem i w' ti _ h₁ hPw hv' fun b ob p e => ⟨⟨⟨p, (hoth b ob e).1, (hoth b ob e).2.1⟩, fun z => (hoth b ob e).2.2 (List.mem_singleton.mp z)⟩, kE1 b ob e⟩
    refine letOwned_ok (s := { s with heap := h₁, toks := tk₁ }) hpt hobI hdI hcI hnI ?_
    refine htg A _ _ hE σ' { s with heap := h₁, toks := tk₁ } [C] val' ti w' σ₂ rm.handled S' L₁ ri qt _ _ fun h₂ tk₂ val₂ L₂ f₂ => ?_
    have nb : ∀ b, b ≠ C → b ∉ [C] := fun b hb z => hb (List.mem_singleton.mp z)
    have hst₂ : St (i + 1) h₂ := W.frame _ _ _ hst₁ fun b hb ob e => f₂.kept b ob (nb b (by
      rcases List.mem_cons.mp hb with z | z
      · rw [z]; exact nIC
      · obtain ⟨ob', e'⟩ := hax b z; exact (hoth b ob' e').2.2)) e
    have gD₂ := f₂.kept _ _ (nb D nDC) gD₁
    have rl₂ : RL X (Pm (fun b => Pm P₀ μ b ∧ b ≠ I ∧ b ≠ D) [C]) h₂ acc vs := RL.mono (fun _ _ p _ => p) (fun b ob p e => f₂.kept b ob p.2 e) _ rl₁
    refine hft A _ _ hE σ₂ { s with heap := h₂, toks := tk₂ } [C] val₂ b₂ rm S' L₂ qf _ _ fun h₃' tk₃ k₃' => ?_
    have L₃ := L₂.keeps k₃'
    have hst₃ : St (i + 1) h₃' := W.frame _ _ _ hst₂ fun b _ ob e => k₃' b ob e
    cases b₂ with
    | false =>
      rw [if_neg (by decide)]
      exact ⟨items.length + 1 - (i + 1), by omega, .mk (i + 1) h₃' tk₃ σ₂ val₂ acc vs k rest hlt hst₃ L₃ (k₃' _ _ gD₂) (rl₂.keeps k₃') (Nat.le_succ_of_le hal) hcr hres⟩
    | true =>
      rw [if_pos rfl]
      obtain ⟨x, r', qe, qr, rfl⟩ := hcr
      refine hfe A _ _ hE σ₂ { s with heap := h₃', toks := tk₃ } [C] val₂ x rm S' L₃ qe _ _ fun y h₄ tk₄ k₄ ry => ?_
      have gD₄ : h₄.get? D = some (lstObj vs k) := k₄ _ _ (k₃' _ _ gD₂)
      have rl₄ := (rl₂.keeps k₃').keeps k₄
      have L₄ := L₃.keeps k₄
      refine append_at (its := vs.toArray) (n := k) (s := { s with heap := h₄, toks := tk₄ }) gD₄ (fun h₅ hs₅ ho₅ => ?_) (by rw [List.size_toArray, rl₄.length]; exact Nat.le_trans (by omega) lim_le)
      have ho₅' : h₅.get? D = some (lstObj (vs ++ [y]) (k + 1)) := by rw [ho₅]; unfold lstObj; simp
      have hk₅ : ∀ b ob, b ≠ D → h₄.get? b = some ob → h₅.get? b = some ob := fun b ob hb e => (hs₅.2 b hb).trans e
      have hst₄ : St (i + 1) h₄ := W.frame _ _ _ hst₃ fun b _ ob e => k₄ b ob e
      have hst₅ : St (i + 1) h₅ := W.frame _ _ _ hst₄ fun b hb ob e => hk₅ b ob (by
        rcases List.mem_cons.mp hb with z | z
        · rw [z]; exact nID
        · obtain ⟨ob', e'⟩ := hax b z; exact (hoth b ob' e').2.1) e
      have kE5 : Kp hE h₅ := fun b ob e => hk₅ b ob (hoth b ob e).2.1 (L₄.keep b ob e)
      obtain ⟨obI5, hobI5, _⟩ := hlive _ _ hst₅
      have L₅ : Rel X sc' (compEnvC scope (clos env.cells scope.names []) C env) (fun b => Pm P₀ μ b ∧ b ≠ I ∧ b ≠ D) hE σ₂ h₅ [C] val₂ :=
        L₄.iter (fun z => nDC (List.mem_singleton.mp z)) (fun b p => ⟨p.2.2, p⟩) fD (cellNe L₄ gD₄ (fun v e => by cases e)) hk₅ (freeP h₅ kE5 ⟨_, hobI5⟩ ⟨_, ho₅'⟩)
      refine ⟨items.length + 1 - (i + 1), by omega, .mk (i + 1) h₅ tk₄ σ₂ val₂ (acc ++ [x]) (vs ++ [y]) (k + 1) r' hlt hst₅ L₅ ho₅' ?_ (by simp; omega) qr (by rw [hres]; simp)⟩
      exact RL.mono (fun _ _ p _ => p) (fun b ob p e => hk₅ b ob p.1.2.2 e) _ (rl₄.append (.one ry))
theorem comp_core {elt iter tg : Expr} {ifs : List Expr} {scope : Scope} {pos cpos : Pos} {fi : List T → Option T} {tf : T → List T → Option (List T)} {ft : List T → Option Bool} {fe : List T → Option T} (c : CompSc sc sc' cl scope) (hi : RefW X sc d iter fi) (htg : RefTg X sc' tg tf) (hpt : plainTg tg = true) (hft : RefIfs X sc' d ifs ft) (hfe : RefE X sc' d elt fe)
    (hsi : ∀ env x, foldedSetIterable iter env x = pure x) {A : Around} {env : Env} {P₀ : Addr → Prop} {g : Heap} {σ : List T} {s : Shared} {μ : List Addr} {val : Nat → Value} {t : T} (rm : Room A d) (S : Scoped sc env) (L : Rel X sc env P₀ g σ s.heap μ val) (hf : eComp cl fi tf ft fe σ = some t) {use : Option (Value → Sem Unit)} {Q : Value → Shared → Prop} {E : Value → Shared → Prop}
    (fin : ∀ ts D C hE h' tk vs k m, t = .lst ts → ts.length ≤ lim → Kp s.heap hE → hE.get? D = none → hE.get? C = none → D ≠ C → Kp hE h' → h'.Ns C m → h'.get? D = some (lstObj vs k) → RL X (fun b => Pm P₀ μ b ∧ b ≠ C ∧ b ≠ D) h' ts vs →
      compPost (model X.prog X.w) A E use Q (.ref D) C (.ok .next) { s with heap := h', toks := tk }) :
    wpAny (model X.prog X.w) A (comprehension (.ListComp elt [⟨tg, iter, ifs, 0⟩] scope pos) scope env cpos (newList []) false (eval iter env) use) Q E s := by
  obtain ⟨x, items, res, q1, q2, hlen, q3, rfl⟩ := eComp_some hf
  have hclos : closureFor scope env = pure (clos env.cells scope.names []) := closureFor_clos fun y hy hk => by
    obtain ⟨d₀, hd₀, hc₀, hn₀⟩ := c.free y hy hk
    obtain ⟨cc, _, e, _⟩ := L.cells d₀ hd₀ hc₀
    exact ⟨cc, hn₀ ▸ e⟩
  refine wpAny_comprehension_free (use := use) rfl (hsi env) hclos c.kind c.loc ?_
  refine hi A env P₀ g σ s μ val x rm S L q1 _ _ fun w hE tkE kE rw_ => ?_
  have LE := L.keeps kE
  refine iter_ok (X := X) (s := { s with heap := hE, toks := tkE }) rm.handled q2 rw_ fun o ax n Pv St W st0 hIo hn hax _ hlive hitem => ?_
  refine wpAny_newObj_type ?_
  refine wpAny_newFunctionEnv c.nocell (by intro y hy; simp at hy) (fun h₃ hns hsb => ?_) c.kind
  have hsz1 : (hE.push o).objs.size = hE.objs.size + 1 := Heap.size_push ..
  have hsz2 : ((hE.push o).push (lstObj [] 0)).objs.size = hE.objs.size + 2 := by rw [Heap.size_push, hsz1]
  have fr : ∀ b : Nat, hE.objs.size ≤ b → hE.get? b = none := fun b hb => by
    cases q : hE.get? b with
    | none => rfl
    | some ob => exact absurd (Heap.lt_size q) (Nat.not_lt.mpr hb)
  have hns : h₃.Ns (((hE.push o).push (lstObj [] 0)).objs.size) (fun x => ([] : List (Str × Value)).reverse.lookup x) := hns
  have hsb : Heap.SameBut (((hE.push o).push (lstObj [] 0)).objs.size) (((hE.push o).push (lstObj [] 0)).push { cls := .type (if (some env).isSome then "dict" else "frame"), data := .dict #[] }) h₃ := hsb
  have nb : ∀ b : Nat, b < hE.objs.size + 2 → b ≠ ((hE.push o).push (lstObj [] 0)).objs.size := fun b hb => by rw [hsz2]; exact Nat.ne_of_lt hb
  have k12 : Kp (hE.push o) h₃ := fun b ob e => (hsb.2 b (nb b (by have : b < (hE.push o).objs.size := Heap.lt_size e; rw [hsz1] at this; exact Nat.lt_succ_of_lt this))).trans (Heap.get?_push_of_some _ (Heap.get?_push_of_some _ e))
  have k3 : Kp hE h₃ := (Kp.push hE o).trans k12
  have gD : h₃.get? (hE.push o).objs.size = some (lstObj [] 0) := (hsb.2 _ (nb _ (by rw [hsz1]; exact Nat.lt_succ_self _))).trans (Heap.get?_push_of_some _ (Heap.get?_push_size _ rfl))
  have st3 : St 0 h₃ := W.frame _ _ _ st0 fun b _ ob e => k12 b ob e
  have fD : hE.get? (hE.push o).objs.size = none := fr _ (by rw [hsz1]; exact Nat.le_succ _)
  have fC : hE.get? ((hE.push o).push (lstObj [] 0)).objs.size = none := fr _ (by rw [hsz2]; exact Nat.le_trans (Nat.le_succ _) (Nat.le_succ _))
  have dDC : (hE.push o).objs.size ≠ ((hE.push o).push (lstObj [] 0)).objs.size := nb _ (by rw [hsz1]; exact Nat.lt_succ_self _)
  have habove : X.h₀.objs.size ≤ ((hE.push o).push (lstObj [] 0)).objs.size := by
    have h1 : X.h₀.objs.size ≤ env.locals := L.above
    have hlt : env.locals < hE.objs.size := let ⟨m, hm⟩ := LE.ns; hm.lt
    rw [hsz2]; exact Nat.le_trans (Nat.le_trans h1 (Nat.le_of_lt hlt)) (Nat.le_trans (Nat.le_succ _) (Nat.le_succ _))
  have loop := @comp_loop X sc sc' d cl elt iter tg ifs scope pos tf ft fe c htg hpt hft hfe A env P₀ g hE h₃ σ s μ val rm S LE hE.objs.size (hE.push o).objs.size ((hE.push o).push (lstObj [] 0)).objs.size (fr _ (Nat.le_refl _)) fD fC (by rw [hsz1]; exact Nat.ne_of_lt (Nat.lt_succ_self _)) (nb _ (Nat.lt_succ_of_lt (Nat.lt_succ_self _))) dDC
    k3 gD ⟨_, hns⟩ habove ax n Pv St W st3 items res hn hlen hax hlive hitem q3
    (compPost (model X.prog X.w) A E use Q (.ref (hE.push o).objs.size) ((hE.push o).push (lstObj [] 0)).objs.size) tkE
    (fun h' tk vs k m kE' ns' gD' rl' => fin res _ _ hE h' tk vs k m rfl (Nat.le_trans (compR_len q3) hlen) kE fD fC dDC kE' ns' gD' rl')
  exact codeAny_compStart_list loop (W.self 0 _ _ _ st3 loop)
end
end Mine
end
noncomputable section
set_option Elab.async false
set_option linter.unusedVariables false
namespace Mine
open PySem PySem.W PySem.Calls PyProof.Rows
section
variable {X : Cx} {sc sc' : Sc} {d : Nat} {cl : List Nat}
theorem rComp {elt iter tg : Expr} {ifs : List Expr} {scope : Scope} {pos : Pos} {fi : List T → Option T} {tf : T → List T → Option (List T)} {ft : List T → Option Bool} {fe : List T → Option T} (c : CompSc sc sc' cl scope) (hi : RefW X sc d iter fi) (htg : RefTg X sc' tg tf) (hft : RefIfs X sc' d ifs ft) (hfe : RefE X sc' d elt fe)
    (hpt : plainTg tg = true := by rfl) (hsi : ∀ env x, foldedSetIterable iter env x = pure x := by intro _ _; rfl) : RefE X sc d (.ListComp elt [⟨tg, iter, ifs, 0⟩] scope pos) (eComp cl fi tf ft fe) := by
  intro A env P₀ g σ s μ val t rm S L hf Q E k
  rw [eval_ListComp]
  refine comp_core (use := none) c hi htg hpt hft hfe hsi rm S L hf ?_
  intro ts D C hE h' tk vs n m e _ kE fD fC dDC kE' ns' gD' rl'
  subst e
  refine ⟨m, ns', fun h'' hs'' => ?_⟩
  refine k _ h'' tk (kE.trans fun b ob e => (hs''.2 b (fun z => by rw [z, fC] at e; cases e)).trans (kE' b ob e)) ?_
  refine R.lst_of ((L.keeps kE).freeP D fD) ((hs''.2 D dDC).trans gD') ?_
  exact RL.mono (fun b ob p _ => p.1) (fun b ob p e => (hs''.2 b p.2.1).trans e) _ rl'
theorem Env.blockKind_fun {env : Env} (h : env.scope.kind = .function) : env.blockKind = .function := by unfold Env.blockKind; rw [h]; rfl
/-- x = [...] where x is no cell: the store comes first -/
theorem sComp {v : VarD} {np pos cp : Pos} {elt iter tg : Expr} {ifs : List Expr} {scope : Scope} {fi : List T → Option T} {tf : T → List T → Option (List T)} {ft : List T → Option Bool} {fe : List T → Option T} (hv : v ∈ sc.vars) (hst : v.st = true) (hm : v.mode = .fro) (hc : v.cell = false) (hcs : ∀ d ∈ sc.vars, d.st = true)
    (c : CompSc sc sc' cl scope) (hi : RefW X sc d iter fi) (htg : RefTg X sc' tg tf) (hft : RefIfs X sc' d ifs ft) (hfe : RefE X sc' d elt fe) (hnn : (scope.names.any fun (n, k) => n == v.name && (k == .local || k == .cell)) = false)
    (hln : (np.line == cp.line) = true := by rfl) (hpt : plainTg tg = true := by rfl) (hsi : ∀ env x, foldedSetIterable iter env x = pure x := by intro _ _; rfl) :
    RefS X sc d (.Assign [.Name v.name np] (.ListComp elt [⟨tg, iter, ifs, 0⟩] scope cp) pos) (sSet v.slot (eComp cl fi tf ft fe)) := by
  intro A env P₀ g σ s μ val r rm S L hf Q E k
  obtain ⟨t, q, ht, rfl⟩ := sSet_some hf
  have hsw : swapsWith (.ListComp elt [⟨tg, iter, ifs, 0⟩] scope cp) (some (.Name v.name np)) pos.line env = pure true := by
    show (pure (env.blockKind == ScopeKind.function && env.kindOf v.name == some NameKind.local && np.line == cp.line && !(scope.names.any fun (n, k) => n == v.name && (k == NameKind.local || k == NameKind.cell))) : Sem Bool) = pure true
    rw [Env.blockKind_fun S.kind, S.loc v hv hc, hln, hnn]; rfl
  rw [exec_Assign_Name_used _ _ _ _ hsw]
  refine wpAny_bind (wpAny_standAt (wpAny_bind ?_))
  show wpAny _ A (do let _ ← comprehension (.ListComp elt [⟨tg, iter, ifs, 0⟩] scope cp) scope env _ (newList []) false (eval iter env) (some (assign (.Name v.name np) env))) _ _ s
  refine wpAny_bind ?_
  refine comp_core (use := some (assign (.Name v.name np) env)) c hi htg hpt hft hfe hsi rm S L q ?_
  intro ts D C hE h' tk vs n m e _ kE fD fC dDC kE' ns' gD' rl'
  subst e
  have kk := kE.trans kE'
  have LE := L.keeps kE
  have hnl : ∀ b ob, hE.get? b = some ob → b ≠ C := fun b ob e z => by rw [z, fC] at e; cases e
  have P₀C : P₀ C := LE.free C fC
  have hCμ : C ∉ μ := fun z => by obtain ⟨ob, e⟩ := LE.live C z; rw [fC] at e; cases e
  have hCl : ∃ ob, h'.get? C = some ob := let ⟨o, _, _, e, _⟩ := ns'; ⟨o, e⟩
  -- the frame, away from the comprehension's own table
  have L1 : Rel X sc env (fun b => P₀ b ∧ b ≠ C) g σ h' μ val := LE.move kE' (fun b ob p e => ⟨p, hnl b ob e⟩) fun b e => ⟨LE.free b (kE'.fresh e), fun z => by obtain ⟨ob, q⟩ := hCl; rw [z, q] at e; cases e⟩
  have rD : R X (Pm (fun b => P₀ b ∧ b ≠ C) μ) h' (.lst ts) (.ref D) := R.lst_of ⟨⟨(LE.freeP D fD).1, dDC⟩, (LE.freeP D fD).2⟩ gD' (RL.mono (fun b ob p _ => ⟨⟨p.1.1, p.2.1⟩, p.1.2⟩) (fun _ _ _ e => e) _ rl')
  show wpAny _ A (assign (.Name v.name np) env (.ref D)) _ _ _
  refine wpAny_assign_Name (L1.storeFro (s := { s with heap := h', toks := tk }) S hv hst hm rD ht fun h₂ tk₂ val₂ L₂ f₂ => ?_)
  refine ⟨m, (let ⟨o, es, ep, e, r⟩ := ns'; ⟨o, es, ep, f₂.kept C o hCμ e, r⟩), fun h₃ hs₃ => wpAny_pure (wpAny_pure ?_)⟩
  have L₃ : Rel X sc env P₀ g (σ.set v.slot (.lst ts)) h₃ μ val₂ := by
    refine L₂.iter (I := C) (P₁ := P₀) hCμ (fun b p => ⟨p.2, p.1⟩) (LE.keep.fresh fC) (fun d hd hcell cc hl z => ?_) (fun b ob hb e => (hs₃.2 b hb).trans e) fun b e => ?_
    · obtain ⟨c', ov, e, _, mm⟩ := L₂.cells d hd hcell
      rw [hl] at e; cases e
      exact hCμ (z ▸ mm (hcs d hd))
    · by_cases z : b = C
      · rw [z]; exact P₀C
      · exact (L₂.free b (by rw [← hs₃.2 b z]; exact e)).1
  refine k _ h₃ tk₂ ⟨rfl, μ, val₂, L₃, ?_⟩
  exact ⟨fun b ob hb e => (hs₃.2 b (hnl b ob (kE b ob e))).trans (f₂.kept b ob hb (kk b ob e)), fun _ h => h, fun _ h => .inl h⟩
/-- x = [...] where x is a cell -/
theorem sCompCell {v : VarD} {np pos cp : Pos} {elt : Expr} {gens : List Comprehension} {scope : Scope} {f : List T → Option T} (hv : v ∈ sc.vars) (hst : v.st = true) (hm : v.mode = .fro) (hc : v.cell = true) (h : RefE X sc d (.ListComp elt gens scope cp) f) :
    RefS X sc d (.Assign [.Name v.name np] (.ListComp elt gens scope cp) pos) (sSet v.slot f) := by
  intro A env P₀ g σ s μ val r rm S L hf Q E k
  obtain ⟨t, q, ht, rfl⟩ := sSet_some hf
  refine wpAny_Assign_Name (h A env P₀ g σ s μ val t rm S L q _ _ fun w h' tk k' rw_ => ?_) ?_
  · exact (L.at_ k').storeFro S hv hst hm rw_ ht fun h'' tk' val' L' fm => k _ h'' tk' ⟨rfl, μ, val', L', fm.before k'⟩
  · show (pure (env.blockKind == ScopeKind.function && env.kindOf v.name == some NameKind.local && np.line == cp.line && !(scope.names.any fun (n, k) => n == v.name && (k == NameKind.local || k == NameKind.cell))) : Sem Bool) = pure false
    rw [S.cel v hv hc]
    have : ((some NameKind.cell) == some NameKind.local) = false := by decide
    rw [this, Bool.and_false, Bool.false_and, Bool.false_and]
/-- names from a tuple, in order -/
theorem tgTup3 {v1 v2 v3 : VarD} {n1 n2 n3 tp : Pos} {kk : Nat} (h1 : v1 ∈ sc.vars) (h2 : v2 ∈ sc.vars) (h3 : v3 ∈ sc.vars) (s1 : v1.st = true) (s2 : v2.st = true) (s3 : v3.st = true) (m1 : v1.mode = .fro) (m2 : v2.mode = .fro) (m3 : v3.mode = .fro) :
    RefTg X sc (.Tuple [.Name v1.name n1, .Name v2.name n2, .Name v3.name n3] kk tp) (g3 v1.slot v2.slot v3.slot) := by
  intro A env P₀ g σ s μ val t w σ' hh S L r hf Q E k
  have hq : ∃ a b c, t = .tup [a, b, c] ∧ a ≠ .unb ∧ b ≠ .unb ∧ c ≠ .unb ∧ σ' = ((σ.set v1.slot a).set v2.slot b).set v3.slot c := by
    unfold g3 at hf
    split at hf
    · rename_i a b c
      split at hf
      · cases hf
      · cases hf
      · cases hf
      · rename_i ha hb hc; cases hf; exact ⟨a, b, c, rfl, ha, hb, hc, rfl⟩
    · cases hf
  obtain ⟨a, b, c, rfl, ua, ub, uc, rfl⟩ := hq
  simp only [R, RL] at r
  obtain ⟨ad, vs, n, rfl, pa, ga, ⟨wa, vs1, rfl, ra, wb, vs2, rfl, rb, wc, vs3, rfl, rc, rfl⟩⟩ := r
  rw [arm_assign_Tuple]
  refine wpAny_bind (wpAny_standAt ?_)
  refine PyProof.Rows.unpack_tuple (items := #[wa, wb, wc]) hh ⟨_, ga, rfl, _, rfl⟩ rfl rfl fun h' he => ?_
  have k' : Kp s.heap h' := fun b o e => he b o (Nat.ne_of_lt (Heap.lt_size e)) e
  show wpAny _ A (assignInOrder [assign (.Name v1.name n1) env, assign (.Name v2.name n2) env, assign (.Name v3.name n3) env] [wa, wb, wc]) Q E _
  simp only [assignInOrder]
  refine wpAny_bind (wpAny_holding (wpAny_assign_Name ((L.keeps k').storeFro (s := { s with heap := h' }) S h1 s1 m1 (ra.keeps k') ua fun ha ta va La fa => ?_)))
  have mv : ∀ {t v}, R X (Pm P₀ μ) h' t v → R X (Pm P₀ μ) ha t v := fun r => R.mono (fun _ _ p _ => p) (fun b o p e => fa.kept b o p.2 e) _ r
  refine wpAny_bind (wpAny_holding (wpAny_assign_Name (La.storeFro (s := { s with heap := ha, toks := ta }) S h2 s2 m2 (mv (rb.keeps k')) ub fun hb tb vb Lb fb => ?_)))
  have mv2 : ∀ {t v}, R X (Pm P₀ μ) ha t v → R X (Pm P₀ μ) hb t v := fun r => R.mono (fun _ _ p _ => p) (fun b o p e => fb.kept b o p.2 e) _ r
  refine wpAny_bind (wpAny_holding (wpAny_assign_Name (Lb.storeFro (s := { s with heap := hb, toks := tb }) S h3 s3 m3 (mv2 (mv (rc.keeps k'))) uc fun hc tc vc Lc fc => ?_)))
  exact wpAny_pure (k hc tc vc Lc (((fa.before k').trans fb).trans fc))
noncomputable def sSet2 (i j : Nat) (f : List T → Option T) : List T → Option Res := fun σ => match f σ with
  | some (.tup [a, b]) => (match a, b with
    | .unb, _ => none
    | _, .unb => none
    | a, b => some (.next ((σ.set i a).set j b)))
  | _ => none
theorem sSet2_some {i j : Nat} {f : List T → Option T} {σ : List T} {r : Res} (e : sSet2 i j f σ = some r) : ∃ a b, f σ = some (.tup [a, b]) ∧ a ≠ .unb ∧ b ≠ .unb ∧ r = .next ((σ.set i a).set j b) := by
  unfold sSet2 at e
  split at e
  · rename_i a b q
    split at e
    · cases e
    · cases e
    · rename_i ha hb; cases e; exact ⟨a, b, q, ha, hb, rfl⟩
  · cases e
/-- a, b = e -/
theorem sUnpack2 {v1 v2 : VarD} {n1 n2 tp pos : Pos} {kk : Nat} {e : Expr} {f : List T → Option T} (h1 : v1 ∈ sc.vars) (h2 : v2 ∈ sc.vars) (s1 : v1.st = true) (s2 : v2.st = true) (m1 : v1.mode = .fro) (m2 : v2.mode = .fro) (h : RefE X sc d e f)
    (hs : ∀ env, swapsWithSole [.Tuple [.Name v1.name n1, .Name v2.name n2] kk tp] e pos.line env = pure false := by intro _; rfl) (hw : ∀ env, swappedStores [.Tuple [.Name v1.name n1, .Name v2.name n2] kk tp] e env = pure none := by intro _; rfl) :
    RefS X sc d (.Assign [.Tuple [.Name v1.name n1, .Name v2.name n2] kk tp] e pos) (sSet2 v1.slot v2.slot f) := by
  intro A env P₀ g σ s μ val r rm S L hf Q E k
  obtain ⟨a, b, q, ua, ub, rfl⟩ := sSet2_some hf
  refine Assign_Tuple (h A env P₀ g σ s μ val _ rm S L q _ _ fun w h' tk k' r => ?_) (hs env) (hw env)
  simp only [R, RL] at r
  obtain ⟨ad, vs, n, rfl, pa, ga, ⟨wa, vs1, rfl, ra, wb, vs2, rfl, rb, rfl⟩⟩ := r
  rw [arm_assign_Tuple]
  refine wpAny_bind (wpAny_standAt ?_)
  refine PyProof.Rows.unpack_tuple (s := { s with heap := h', toks := tk }) (items := #[wa, wb]) rm.handled ⟨_, ga, rfl, _, rfl⟩ rfl rfl fun h₁ he => ?_
  have k₁ : Kp h' h₁ := fun b o e => he b o (Nat.ne_of_lt (Heap.lt_size e)) e
  show wpAny _ A (assignInOrder [assign (.Name v1.name n1) env, assign (.Name v2.name n2) env] [wa, wb]) _ E _
  simp only [assignInOrder]
  refine wpAny_bind (wpAny_holding (wpAny_assign_Name ((L.keeps (k'.trans k₁)).storeFro (s := { s with heap := h₁, toks := tk }) S h1 s1 m1 (ra.keeps k₁) ua fun ha ta va La fa => ?_)))
  have mv : ∀ {t v}, R X (Pm P₀ μ) h₁ t v → R X (Pm P₀ μ) ha t v := fun r => R.mono (fun _ _ p _ => p) (fun b o p e => fa.kept b o p.2 e) _ r
  refine wpAny_bind (wpAny_holding (wpAny_assign_Name (La.storeFro (s := { s with heap := ha, toks := ta }) S h2 s2 m2 (mv (rb.keeps k₁)) ub fun hb tb vb Lb fb => ?_)))
  exact wpAny_pure (k _ hb tb ⟨rfl, μ, vb, Lb, (fa.before (k'.trans k₁)).trans fb⟩)
/-- a, b = (e, e'): the second name is stored first -/
theorem sSwap2 {v1 v2 : VarD} {n1 n2 tp pos vp : Pos} {kk vk : Nat} {ea eb : Expr} {f : List T → Option T} (h1 : v1 ∈ sc.vars) (h2 : v2 ∈ sc.vars) (s1 : v1.st = true) (s2 : v2.st = true) (m1 : v1.mode = .fro) (m2 : v2.mode = .fro) (c1 : v1.cell = false) (c2 : v2.cell = false) (hne : v1.name ≠ v2.name) (h : RefE X sc d (.Tuple [ea, eb] vk vp) f)
    (hl : (n2.line == n1.line) = true := by rfl) (hst : ([ea, eb].any fun | .Starred .. => true | _ => false) = false := by rfl) (hfo : [ea, eb].all (foldedForSure 8) = false := by rfl) (hco : [ea, eb].all (constantsAlone 8) = false := by rfl) :
    RefS X sc d (.Assign [.Tuple [.Name v1.name n1, .Name v2.name n2] kk tp] (.Tuple [ea, eb] vk vp) pos) (sSet2 v2.slot v1.slot (fun σ => match f σ with | some (.tup [a, b]) => some (.tup [b, a]) | _ => none)) := by
  intro A env P₀ g σ s μ val r rm S L hf Q E k
  obtain ⟨b, a, q, ub, ua, rfl⟩ := sSet2_some hf
  have q : f σ = some (.tup [a, b]) := by
    split at q
    · rename_i x y q'; cases q; exact q'
    · cases q
  have hw : swappedStores [.Tuple [.Name v1.name n1, .Name v2.name n2] kk tp] (.Tuple [ea, eb] vk vp) env = pure (some [v1.name, v2.name]) := by
    unfold swappedStores
    have hl1 : ((Expr.Name v1.name n1).pos.line) = n1.line := rfl
    have hll : n2.line = n1.line := beq_iff_eq.mp hl
    have hn : ([v1.name, v2.name].eraseDups.length != [v1.name, v2.name].length) = false := by
      have hb : (v2.name == v1.name) = false := beq_eq_false_iff_ne.mpr (Ne.symm hne)
      simp [List.eraseDups_cons, hb]
    simp only [List.length_cons, List.length_nil, Env.blockKind_fun S.kind, List.head?_cons, Option.map_some, Option.getD_some, List.filterMap_cons, List.filterMap_nil, S.loc v1 h1 c1, S.loc v2 h2 c2, hl1, hll, beq_self_eq_true, Bool.and_self, if_true, hfo, hco]
    have hn' : ([v1.name, v2.name].eraseDups.length != 0 + 1 + 1) = false := hn
    rw [if_neg (by decide)]
    split
    · rename_i z; exact Bool.noConfusion (hst.symm.trans z)
    rw [if_neg (fun z => by rw [hn'] at z; exact absurd z (by decide)), if_neg (by decide), if_neg (by decide)]
  rw [arm_exec_Assign]
  refine wpAny_bind (wpAny_standAt (wpAny_bind (wpAny_of_eq (a := false) rfl ?_)))
  rw [if_neg (by decide)]
  refine wpAny_bind (h A env P₀ g σ s μ val _ rm S L q _ _ fun w h' tk k' r => wpAny_bind (wpAny_of_eq hw ?_))
  simp only [R, RL] at r
  obtain ⟨ad, vs, n, rfl, pa, ga, ⟨wa, vs1, rfl, ra, wb, vs2, rfl, rb, rfl⟩⟩ := r
  show wpAny _ A (do rule "assign.swapped-stores"; let items ← unpackItems (.ref ad) 2 none; assignInOrder ([v1.name, v2.name].reverse.map fun n => bindName env n) items.reverse; pure Flow.next) _ E _
  refine wpAny_bind (wpAny_rule (wpAny_bind ?_))
  refine PyProof.Rows.unpackItems_tuple (s := { s with heap := h', toks := tk }) (items := #[wa, wb]) rm.handled ⟨_, ga, rfl, _, rfl⟩ fun h₁ he => ?_
  have k₁ : Kp h' h₁ := fun b o e => he b o (Nat.ne_of_lt (Heap.lt_size e)) e
  refine wpAny_bind ?_
  show wpAny _ A (assignInOrder [bindName env v2.name, bindName env v1.name] [wb, wa]) _ E _
  simp only [assignInOrder]
  refine wpAny_bind (wpAny_holding (wpAny_bindName ((L.keeps (k'.trans k₁)).storeFro (s := { s with heap := h₁, toks := tk }) S h2 s2 m2 (rb.keeps k₁) ub fun ha ta va La fa => ?_)))
  have mv : ∀ {t v}, R X (Pm P₀ μ) h₁ t v → R X (Pm P₀ μ) ha t v := fun r => R.mono (fun _ _ p _ => p) (fun b o p e => fa.kept b o p.2 e) _ r
  refine wpAny_bind (wpAny_holding (wpAny_bindName (La.storeFro (s := { s with heap := ha, toks := ta }) S h1 s1 m1 (mv (ra.keeps k₁)) ua fun hb tb vb Lb fb => ?_)))
  exact wpAny_pure (wpAny_pure (k _ hb tb ⟨rfl, μ, vb, Lb, (fa.before (k'.trans k₁)).trans fb⟩))
end
end Mine
end
noncomputable section
set_option Elab.async false
set_option linter.unusedVariables false
namespace Mine
open PySem PySem.W PySem.Calls PyProof.Rows
/-- all objects of a heap but some -/
noncomputable def allObjs (h : Heap) (bad : Nat → Bool) : List (Addr × Obj) := (List.range h.objs.size).filterMap fun b => if bad b then none else (h.get? b).map fun o => (b, o)
theorem mem_allObjs {h : Heap} {bad : Nat → Bool} {b : Addr} {o : Obj} : (b, o) ∈ allObjs h bad ↔ bad b = false ∧ h.get? b = some o := by
  unfold allObjs
  rw [List.mem_filterMap]
  constructor
  · rintro ⟨b', _, e⟩
    split at e
    · cases e
    · rename_i hb
      obtain ⟨o', ho, e⟩ := Option.map_eq_some_iff.mp e
      cases e
      exact ⟨by simpa using hb, ho⟩
  · rintro ⟨hb, ho⟩
    exact ⟨b, List.mem_range.mpr (Heap.lt_size ho), by simp [hb, ho]⟩
theorem putL_new {name : Str} {hsh : Int} {key v : Value} : ∀ {es : List DictEntry}, es.any (·.key.isStr name) = false → putL name hsh key v es = es ++ [⟨hsh, key, v⟩]
  | [], _ => rfl
  | e :: r, h => by
    simp only [List.any_cons, Bool.or_eq_false_iff] at h
    simp only [putL, h.1, Bool.false_eq_true, if_false, putL_new h.2, List.cons_append]
theorem Ents.snoc {P : Params} : ∀ {fs : List Str} {vs : List Value} {es : List DictEntry} {f : Str} {t : Tok} {v : Value}, Ents P fs vs es → fs[vs.length]? = some f → Ents P fs (vs ++ [v]) (es ++ [⟨PyData.keyHash P f, .str f t, v⟩])
  | [], vs, es, f, t, v, h, e => by simp at e
  | f₀ :: fs, [], es, f, t, v, h, e => by
    simp only [Ents] at h; subst h
    simp at e; subst e
    exact ⟨t, [], rfl, by cases fs <;> rfl⟩
  | f₀ :: fs, v₀ :: vs, es, f, t, v, h, e => by
    obtain ⟨t₀, es', rfl, h'⟩ := h
    exact ⟨t₀, _, rfl, Ents.snoc h' (by simpa using e)⟩
theorem Ents.length {P : Params} : ∀ {fs : List Str} {vs : List Value} {es : List DictEntry}, Ents P fs vs es → es.length = vs.length ∧ vs.length ≤ fs.length
  | fs, [], es, h => by cases fs <;> (simp only [Ents] at h; subst h; simp)
  | [], _ :: _, _, h => h.elim
  | f₀ :: fs, v₀ :: vs, es, h => by
    obtain ⟨t₀, es', rfl, h'⟩ := h
    have := Ents.length h'
    simp only [List.length_cons]; omega
section
variable {X : Cx} {sc : Sc} {d : Nat}
noncomputable def sSetA (i j : Nat) (f : List T → Option T) : List T → Option Res := fun σ => match f σ with
  | some .unb => none
  | some t => (match σ[i]? with
    | some (.inst l) => if l.length == j then some (.next (σ.set i (.inst (l ++ [t])))) else none
    | _ => none)
  | none => none
theorem sSetA_some {i j : Nat} {f : List T → Option T} {σ : List T} {r : Res} (e : sSetA i j f σ = some r) : ∃ t l, f σ = some t ∧ t ≠ .unb ∧ σ[i]? = some (.inst l) ∧ l.length = j ∧ r = .next (σ.set i (.inst (l ++ [t]))) := by
  unfold sSetA at e
  split at e
  · cases e
  · rename_i t hn q
    split at e
    · rename_i l q'
      split at e
      · rename_i z; cases e; exact ⟨t, l, q, hn, q', beq_iff_eq.mp z, rfl⟩
      · cases e
    · cases e
  · cases e
/-- self.f = e, a field that is not there yet -/
theorem sSetAttr {v : VarD} {np ap pos : Pos} {j : Nat} {fl : Str} {e : Expr} {f : List T → Option T} (c : ClsOk X) (hv : v ∈ sc.vars) (hm : v.mode = .self) (hself : ∀ d ∈ sc.vars, d.mode = .self → d = v) (hfl : X.flds[j]? = some fl) (hfew : X.flds.length ≤ 1000) (h : RefE X sc d e f)
    (hs : ∀ env, swapsWith e (some (.Attribute (.Name v.name np) fl ap)) pos.line env = pure false := by intro _; rfl) : RefS X sc d (.Assign [.Attribute (.Name v.name np) fl ap] e pos) (sSetA v.slot j f) := by
  intro A env P₀ g σ s μ val r rm S L hf Q E k
  obtain ⟨t, l, q, ht, q', hlj, rfl⟩ := sSetA_some hf
  refine plainObj_wpAny_Assign_Attribute (h A env P₀ g σ s μ val t rm S L q _ _ fun w h' tk k' rw_ => ?_) (hs env)
  have L' := L.keeps k'
  refine wpAny_Name (rVarLoad hv S (L.at_ k') (t := .inst l) (by unfold eVar; rw [q']) fun m => ?_) (S.nodbg v hv)
  rw [hm] at m
  obtain ⟨ts, a, dd, vs, es, n, e1, e2, pa, hdd, hne, ga, gd, ge, rl⟩ := m
  cases e1
  have ga : h'.get? a = some (instObj X.C dd) := ga
  have gd : h'.get? dd = some (dictOf es n) := gd
  rw [e2]
  have hvl : vs.length = j := by rw [rl.length, hlj]
  have hflm : fl ∈ X.flds := List.mem_of_getElem? hfl
  -- the field is not there yet
  have hnot : ∀ {fs : List Str} {vs : List Value} {es : List DictEntry}, Ents X.w.params fs vs es → fs.Nodup → fs[vs.length]? = some fl → getL fl es = some none ∧ es.any (·.key.isStr fl) = false := by
    intro fs vs es he nd ef
    have key : ∀ {fs : List Str} {vs : List Value} {es : List DictEntry}, Ents X.w.params fs vs es → Ents X.w.params (fs.take vs.length) vs es := by
      intro fs
      induction fs with
      | nil => intro vs es he; cases vs <;> simpa using he
      | cons f₀ fs ih =>
        intro vs es he
        cases vs with
        | nil => simp only [Ents] at he ⊢; exact he
        | cons v₀ vs =>
          obtain ⟨t₀, es', rfl, h'⟩ := he
          exact ⟨t₀, es', rfl, ih h'⟩
    have hni : fl ∉ fs.take vs.length := by
      intro hmem
      obtain ⟨i, hi⟩ := List.getElem?_of_mem hmem
      have hil : i < vs.length := by
        have := (List.getElem?_eq_some_iff.mp hi).1
        simp at this; omega
      have hi' : fs[i]? = some fl := by rw [List.getElem?_take_of_lt hil] at hi; exact hi
      have h1 := (List.getElem?_eq_some_iff.mp hi')
      have h2 := (List.getElem?_eq_some_iff.mp ef)
      obtain ⟨p1, e1⟩ := h1
      obtain ⟨p2, e2⟩ := h2
      exact List.pairwise_iff_getElem.mp nd i vs.length p1 p2 hil (e1.trans e2.symm)
    have := (key he).miss hni
    exact ⟨this.1, this.2.1⟩
  obtain ⟨g0, g1⟩ := hnot ge c.nodup (by rw [hvl]; exact hfl)
  obtain ⟨m, hns⟩ := L'.ns
  have hL0 : X.h₀.get? env.locals = none := by
    cases q : X.h₀.get? env.locals with
    | none => rfl
    | some o => exact absurd (Heap.lt_size q) (Nat.not_lt.mpr L.above)
  have hd0 : X.h₀.get? dd = none := L.base.fresh (L.fresh dd hdd)
  have F : Fr X.h₀ env.locals h' m := ⟨hns, L'.keep₀, L.above⟩
  let bad : Nat → Bool := fun b => b == dd || b == env.locals || (X.h₀.get? b).isSome
  have N : News X.h₀ env.locals h' ((dd, dictOf es n) :: allObjs h' bad) := by
    intro p hp
    rcases List.mem_cons.mp hp with rfl | hp
    · exact ⟨gd, hne.1, hd0⟩
    · obtain ⟨b, o⟩ := p
      obtain ⟨hb, ho⟩ := mem_allObjs.mp hp
      have hb : (b == dd || b == env.locals || (X.h₀.get? b).isSome) = false := hb
      simp only [Bool.or_eq_false_iff, beq_eq_false_iff_ne, Option.isSome_eq_false_iff, Option.isNone_iff_eq_none] at hb
      exact ⟨ho, hb.1.2, hb.2⟩
  have hput : (putL fl (PyData.keyHash X.w.params fl) (.str fl (tk + 1)) w es, putN fl es n) = (es ++ [⟨PyData.keyHash X.w.params fl, .str fl (tk + 1), w⟩], n + 1) := by
    rw [putL_new g1]; unfold putN; rw [if_neg (by rw [g1]; decide)]
  have hen := ge.length
  have hjl : j < X.flds.length := (List.getElem?_eq_some_iff.mp hfl).1
  refine set_dict (s := { s with heap := h', toks := tk }) (news := (dd, dictOf es n) :: allObjs h' bad) (news' := (dd, dictOf (es ++ [⟨PyData.keyHash X.w.params fl, .str fl (tk + 1), w⟩]) (n + 1)) :: allObjs h' bad) F X.kin N
    (⟨ga, rfl, rfl, gd⟩ : InstAt h' a (instObj X.C dd) X.C (some (dictOf es n))) rfl c.sa c.over ?_ c.dict (by rw [g0]; rfl) hput (.head fun p hp => ?_) (by simp only [List.length_append, List.length_singleton]; omega) fun h₂ F₂ N₂ => ?_
  · unfold takerIn; rw [c.noattr fl hflm]; rfl
  · obtain ⟨b, o⟩ := p
    obtain ⟨hb, _⟩ := mem_allObjs.mp hp
    have hb : (b == dd || b == env.locals || (X.h₀.get? b).isSome) = false := hb
    simp only [Bool.or_eq_false_iff, beq_eq_false_iff_ne] at hb
    exact hb.1.1
  · -- what is kept
    have hk : ∀ b o, b ≠ dd → b ≠ env.locals → h'.get? b = some o → h₂.get? b = some o := by
      intro b o hb hbL e
      cases q : X.h₀.get? b with
      | some o' =>
        have := L'.keep₀ b o' q
        rw [e] at this; cases this
        exact F₂.keep b o q
      | none =>
        have hm : (b, o) ∈ allObjs h' bad := mem_allObjs.mpr ⟨by simp [bad, hb, hbL, q], e⟩
        exact (N₂ _ (.tail _ hm)).1
    have gd₂ : h₂.get? dd = some (dictOf (es ++ [⟨PyData.keyHash X.w.params fl, .str fl (tk + 1), w⟩]) (n + 1)) := (N₂ _ (.head _)).1
    have hns₂ := F₂.ns
    have hL₂ : ∃ o, h₂.get? env.locals = some o := let ⟨o, _, _, e, _⟩ := hns₂; ⟨o, e⟩
    have out : ∀ b, b ∉ μ → b ≠ dd ∧ b ≠ env.locals := fun b hb => ⟨fun z => hb (z ▸ hdd), fun z => hb (z ▸ L.lin)⟩
    have hr : ∀ {t v}, R X (Pm P₀ μ) h' t v → R X (Pm P₀ μ) h₂ t v := fun r => R.mono (fun _ _ p _ => p) (fun b o p e => hk b o (out b p.2).1 (out b p.2).2 e) _ r
    have hrl : ∀ {t v}, RL X (Pm P₀ μ) h' t v → RL X (Pm P₀ μ) h₂ t v := fun r => RL.mono (fun _ _ p _ => p) (fun b o p e => hk b o (out b p.2).1 (out b p.2).2 e) _ r
    have kept : ∀ b o, b ∉ μ → h'.get? b = some o → h₂.get? b = some o := fun b o hb e => hk b o (out b hb).1 (out b hb).2 e
    have cellk : ∀ {cc ov}, h'.IsCell cc ov → h₂.IsCell cc ov := by
      rintro cc ov ⟨o, e, dt⟩
      refine ⟨o, hk cc o (fun z => ?_) (fun z => ?_) e, dt⟩
      · rw [z, gd] at e; cases e; cases dt
      · obtain ⟨o', es', k', e', d'⟩ := L'.get_locals
        rw [z, e'] at e; cases e; rw [d'] at dt; cases dt
    have hask : ∀ {d' : VarD} {v'}, Has env h' d' v' → Has env h₂ d' v' := by
      intro d' v' hh
      unfold Has at hh ⊢
      cases hc' : d'.cell with
      | true => rw [hc'] at hh; obtain ⟨cc, e, i⟩ := hh; exact ⟨cc, e, cellk i⟩
      | false =>
        rw [hc'] at hh
        obtain ⟨m', n', e⟩ := hh
        refine ⟨m, hns₂, ?_⟩
        obtain ⟨o1, es1, k1, g1, dd1, _, f1⟩ := hns
        obtain ⟨o2, es2, k2, g2, dd2, _, f2⟩ := n'
        rw [g1] at g2; cases g2; rw [dd1] at dd2; cases dd2
        rw [← f1, f2]; exact e
    have hlt : v.slot < σ.length := (List.getElem?_eq_some_iff.mp q').1
    have L₂ : Rel X sc env P₀ g (σ.set v.slot (.inst (l ++ [t]))) h₂ μ val := by
      refine ⟨L.base, L.above, fun b o e => kept b o (fun z => by have := L.fresh b z; rw [this] at e; cases e) (L'.keep b o e), L.fresh, fun b e => L'.free b ?_, fun b hb => ?_, L.mine, L.lin, ⟨m, hns₂⟩, fun d' hd' hc' => ?_, fun d' hd' t' qq nn => ?_, fun d1 h1 d2 h2 m1 m2 hne' t1 t2 q1 n1 q2 n2 => ?_⟩
      · cases q : h'.get? b with
        | none => rfl
        | some o =>
          by_cases z : b = dd
          · rw [z, gd₂] at e; cases e
          · by_cases z' : b = env.locals
            · obtain ⟨o', e'⟩ := hL₂; rw [z', e'] at e; cases e
            · rw [hk b o z z' q] at e; cases e
      · obtain ⟨o, e⟩ := L'.live b hb
        by_cases z : b = dd
        · exact ⟨_, z ▸ gd₂⟩
        · by_cases z' : b = env.locals
          · obtain ⟨o', e'⟩ := hL₂; exact ⟨o', z' ▸ e'⟩
          · exact ⟨o, hk b o z z' e⟩
      · obtain ⟨cc, ov, e, i, r⟩ := L'.cells d' hd' hc'
        exact ⟨cc, ov, e, cellk i, r⟩
      · by_cases z : d'.slot = v.slot
        · have := S.slots d' hd' v hv z
          subst this
          rw [List.getElem?_set_self hlt] at qq
          cases qq
          obtain ⟨u, _⟩ := L'.var d' hd' _ q' (by intro z; cases z)
          refine ⟨hask u, ?_⟩
          rw [hm]
          exact ⟨l ++ [t], a, dd, vs ++ [w], _, n + 1, rfl, e2, pa, hdd, hne, kept a _ pa.2 ga, gd₂, ge.snoc (by rw [hvl]; exact hfl), hrl (rl.append (.one rw_))⟩
        · rw [List.getElem?_set_ne (Ne.symm z)] at qq
          obtain ⟨u, ww⟩ := L'.var d' hd' t' qq nn
          refine ⟨hask u, ?_⟩
          cases hmd : d'.mode with
          | fro => rw [hmd] at ww; exact hr ww
          | own =>
            rw [hmd] at ww
            obtain ⟨ts, b, vs', k', e1, e2', e3, e4, e5⟩ := ww
            refine ⟨ts, b, vs', k', e1, e2', e3, hk b _ (fun zz => ?_) (fun zz => ?_) e4, hrl e5⟩
            · rw [zz, gd] at e4
              have h3 : (dictOf es n).data = (lstObj vs' k').data := congrArg Obj.data (Option.some.inj e4)
              cases h3
            · obtain ⟨o', es', k'', e', d''⟩ := L'.get_locals
              rw [zz, e'] at e4
              have h3 : o'.data = (lstObj vs' k').data := congrArg Obj.data (Option.some.inj e4)
              rw [d''] at h3; cases h3
          | self => exact absurd (by rw [hself d' hd' hmd]) z
      · have conv : ∀ d ∈ sc.vars, ∀ t0, (σ.set v.slot (.inst (l ++ [t])))[d.slot]? = some t0 → t0 ≠ .unb → ∃ t', σ[d.slot]? = some t' ∧ t' ≠ .unb := by
          intro d hd t0 q nn
          by_cases z : d.slot = v.slot
          · exact ⟨_, z ▸ q', by intro z; cases z⟩
          · rw [List.getElem?_set_ne (Ne.symm z)] at q; exact ⟨t0, q, nn⟩
        obtain ⟨a1, b1, c1⟩ := conv d1 h1 t1 q1 n1
        obtain ⟨a2, b2, c2⟩ := conv d2 h2 t2 q2 n2
        exact L.apart d1 h1 d2 h2 m1 m2 hne' a1 a2 b1 c1 b2 c2
    exact k _ h₂ _ ⟨rfl, μ, val, L₂, Fm.before k' ⟨kept, fun _ h => h, fun _ h => .inl h⟩⟩
/-- an attribute of the class that is a text -/
theorem rClsStr {x attr : Str} {np pos : Pos} {tok : Tok} {l : List Nat} {s₀ : Str} (hx : x ∈ sc.globs) (e : nsIn X.K mainGlobals x = some (some (.ref X.C))) (hr : readsIn X.K X.C (.type "type") = true) (hf : findCls X.K (.ref X.C) (.type "type") attr = some (.val (.str s₀ tok))) (hl : s₀.cps.toList = l) :
    RefE X sc d (.Attribute (.Name x np) attr pos) (eK (.str l)) := by
  intro A env P₀ g σ s μ val t r S L hq Q E k
  cases hq
  refine Attribute_name (gName_K S L.keep₀ hx e ?_)
  refine cls_value (X.kin.keeps L.keep₀) hr hf rfl (k _ s.heap _ (Kp.refl _) ?_)
  simp only [R]
  exact ⟨tok, by rw [← hl]⟩
/-- sep.join(list) -/
theorem rJoin {o a : Expr} {apos pos : Pos} {fo fa : List T → Option T} (ho : RefE X sc d o fo) (ha : RefW X sc d a fa) (hbase : ∀ env, attributeBase o "join" env (eval o env) = eval o env := by intro _; rfl)
    (hline : (apos.endLine == pos.line) = true := by rfl) (htr : ∀ env, backTo pos (starEach [a] env) = [(false, eval a env)] := by intro _; rfl) : RefE X sc d (.Call (.Attribute o "join" apos) [a] [] pos) (e2 joinT fo fa) := by
  intro A env P₀ g σ s μ val t r S L hf Q E k
  obtain ⟨x, y, q1, q2, q3⟩ := e2_some hf
  refine wpAny_Call_method_lateS (hbase env) (by rw [htr]; rfl) hline ?_
  refine ho A env P₀ g σ s μ val x r S L q1 _ _ fun u h' tk k' ru => ?_
  unfold joinT at q3
  split at q3
  · rename_i sep l
    split at q3
    · rename_i rr q
      split at q3
      · rename_i z
        cases q3
        simp only [R] at ru
        obtain ⟨tok, rfl⟩ := ru
        rw [htr]
        refine SB.join ?_
        refine ha A env P₀ g σ _ μ val _ r S (L.at_ k') q2 _ _ fun v h₂ tk₂ k₂ rv => ?_
        simp only [RW] at rv
        obtain ⟨ad, vs, n, rfl, hl, hvs⟩ := rv
        obtain ⟨ps, e1, e2⟩ := strsOf_are q hvs
        refine ⟨ad, ps, rfl, ⟨_, hl, rfl, _, by rw [e1]; rfl⟩, _, e2, ?_, fun t' tk' => ?_⟩
        · unfold JoinOk Builtin.Str.tooLong
          rw [List.foldl_toArray, joinN_fold]
          have : ¬ (0 + joinN sep rr > sizeLine) := by have := lim_le; omega
          rw [decide_eq_false this]; rfl
        · unfold Txt.join
          rw [StrLaws.glued_eq_join, str_join_eq]
          exact k _ h₂ _ (k'.trans k₂) (R.of_str _ _)
      · cases q3
    · cases q3
  · cases q3
end
end Mine
end
noncomputable section
set_option Elab.async false
set_option linter.unusedVariables false
namespace Mine
open PySem PySem.W PySem.Calls PyProof.Rows
/-- sc is the view that a def's own block has of its names; its parameters are pn, at the first places -/
structure FnSc (sc : Sc) (scope : Scope) (pn : List Str) : Prop where
  kind : scope.kind = .function
  co : scope.isCoroutine = false
  gen : scope.isGenerator = false
  st : ∀ d ∈ sc.vars, d.st = true
  loc : ∀ d ∈ sc.vars, d.cell = false → scope.names.lookup d.name = some .local
  cel : ∀ d ∈ sc.vars, d.cell = true → scope.names.lookup d.name = some .cell
  cnd : ((cellsFrom 0 scope.names []).map (·.1)).Nodup
  pnd : pn.Nodup
  pkind : ∀ p ∈ pn, scope.names.lookup p = some .local ∨ scope.names.lookup p = some .cell
  pslot : ∀ d ∈ sc.vars, ∀ (h : d.slot < pn.length), pn[d.slot] = d.name
  nodbg : ∀ d ∈ sc.vars, (d.name == ("__debug__" : Str)) = false
  names : ∀ d ∈ sc.vars, ∀ d' ∈ sc.vars, d.name = d'.name → d = d'
  slots : ∀ d ∈ sc.vars, ∀ d' ∈ sc.vars, d.slot = d'.slot → d = d'
  globs : ∀ x ∈ sc.globs, scope.names.lookup x = some .globalImplicit ∧ (x == ("__debug__" : Str)) = false ∧ x ≠ "__name__"
theorem bindL_out {K : Str → Option NameKind} {n : Str} : ∀ (b : List (Str × Value)) (m : Str → Option Value), n ∉ b.map (·.1) → bindL K b m n = m n
  | [], m, _ => rfl
  | (x, v) :: r, m, h => by
    simp only [bindL]
    rw [bindL_out r _ fun z => h (.tail _ z)]
    split
    · have : n ≠ x := fun z => h (z ▸ .head _)
      simp [this]
    · rfl
theorem bindC_out {K : Str → Option NameKind} {n : Str} : ∀ (b : List (Str × Value)) (m : Str → Option Value), n ∉ b.map (·.1) → bindC K b m n = m n
  | [], m, _ => rfl
  | (x, v) :: r, m, h => by
    simp only [bindC]
    rw [bindC_out r _ fun z => h (.tail _ z)]
    split
    · rfl
    · have : n ≠ x := fun z => h (z ▸ .head _)
      simp [this]
theorem bindL_in {K : Str → Option NameKind} {n : Str} {v : Value} : ∀ (b : List (Str × Value)) (m : Str → Option Value), (b.map (·.1)).Nodup → (n, v) ∈ b → K n = some .local → bindL K b m n = some v
  | (x, w) :: r, m, nd, h, hk => by
    simp only [List.map_cons, List.nodup_cons] at nd
    simp only [bindL]
    rcases List.mem_cons.mp h with z | z
    · cases z
      rw [bindL_out r _ nd.1, if_pos hk]; simp
    · exact bindL_in r _ nd.2 z hk
theorem bindC_in {K : Str → Option NameKind} {n : Str} {v : Value} : ∀ (b : List (Str × Value)) (m : Str → Option Value), (b.map (·.1)).Nodup → (n, v) ∈ b → K n ≠ some .local → bindC K b m n = some v
  | (x, w) :: r, m, nd, h, hk => by
    simp only [List.map_cons, List.nodup_cons] at nd
    simp only [bindC]
    rcases List.mem_cons.mp h with z | z
    · cases z
      rw [bindC_out r _ nd.1, if_neg hk]; simp
    · exact bindC_in r _ nd.2 z hk
noncomputable def unbs : Nat → List T
  | 0 => []
  | n + 1 => .unb :: unbs n
theorem unbs_get : ∀ (n i : Nat) (t : T), (unbs n)[i]? = some t → t = .unb
  | 0, i, t, e => by simp [unbs] at e
  | n + 1, 0, t, e => by simp [unbs] at e; exact e.symm
  | n + 1, i + 1, t, e => unbs_get n i t (by simpa [unbs] using e)
section
variable {X : Cx} {sc : Sc} {d : Nat}
theorem Room.deeper {A : Around} {env : Env} (r : Room A (d + 1)) : Room (A.deeper env) d :=
  ⟨r.handled, by have := r.depth; show A.depth + 1 + 4 * d ≤ _; omega, by have := r.units; show A.units + 3 + 20 * d + 200 < _; omega⟩
/-- a def is entered -/
theorem fn_enter {A : Around} {f : Addr} {name qual : Str} {params : Arguments} {body : List Stmt} {scope : Scope} {dV kV doc pm cdv ct oc : Value} {an od : Option Addr} {osl : Array (Option Value)} {pn : List Str} {fb : List T → Option Res} {N : Nat}
    (ho : X.K.lookup f = some ⟨oc, od, .func (fnOf name qual params body scope dV kV doc pm an cdv ct), osl⟩) (hcd : codeIn X.K cdv qual = true) (F : FnSc sc scope pn) (hb : RefSs X sc d body fb) {s : Shared} {g : Heap} {P : Addr → Prop} {ts : List T} {vs : List Value} {μ₀ : List Addr} {r : Res}
    (rm : Room A (d + 1)) (k0 : Kp X.h₀ g) (hsz : X.h₀.objs.size ≤ s.heap.objs.size) (kg : Kp g s.heap) (hp : ∀ b, s.heap.get? b = none → P b) (hμ₀ : ∀ b ∈ μ₀, g.get? b = none ∧ P b ∧ ∃ o, s.heap.get? b = some o) (hlv : vs.length = pn.length) (hlt : ts.length = pn.length)
    (hbind : BindsTo s (fnOf name qual params body scope dV kV doc pm an cdv ct) ⟨vs, []⟩ (pn.zip vs))
    (hmod : ∀ dv ∈ sc.vars, ∀ t v, ts[dv.slot]? = some t → vs[dv.slot]? = some v → t ≠ .unb → ∀ (L : Addr) (μ' : List Addr) (h₁ : Heap), Kp s.heap h₁ → (∀ b ∈ μ₀, b ∈ μ') → (∀ b ∈ μ', b ∈ μ₀ ∨ s.heap.get? b = none) → L = s.heap.objs.size → Mod X (Pm P μ') L h₁ μ' dv.mode t v)
    (hown : ∀ dv ∈ sc.vars, dv.mode = .own → pn.length ≤ dv.slot)
    (hf : fb (ts ++ unbs N) = some r) {RR : Result → Shared → Prop}
    (fin : ∀ (env : Env) (fl : Flow) (h' : Heap) (tk : Nat), env.locals = s.heap.objs.size → (match r with
      | .next σ' => fl = Flow.next ∧ ∃ μ' val', Rel X sc env P g σ' h' μ' val'
      | .brk σ' => False
      | .ret t => ∃ v, fl = Flow.ret v ∧ R X P h' t v ∧ Kp g h') → RR (.ok (.ret (match fl with | .ret v => v | _ => .none))) { s with heap := h', toks := tk })
    (hnb : ∀ σ', r ≠ .brk σ') : codeAny (model X.prog X.w) A (.call (.ref f) ⟨vs, []⟩) RR s := by
  have k0s := k0.trans kg
  refine codeAny_call_function (fd := fnOf name qual params body scope dV kV doc pm an cdv ct) (body := body) (by have := rm.depth; omega) (k0s _ _ (X.kin _ _ ho)) rfl F.co F.gen rfl (codeRec_of (X.kin.keeps k0s) hcd) (hbind _ _ _ _ ?_)
  have cellMem : ∀ (n : Nat) (x : Str), scope.names.lookup x = some .cell → ((cellsFrom n scope.names []).lookup x).isSome = true := fun n x hx => cellsFrom_some _ _ _ (.inl hx)
  refine wpAny_newFunctionEnv_cells F.kind (fun x hx => ?_) fun env he s' x => ?_
  · have hx1 : x.1 ∈ pn := (List.of_mem_zip (show (x.1, x.2) ∈ pn.zip vs from hx)).1
    rcases F.pkind x.1 hx1 with z | z
    · exact .inl z
    · exact .inr ⟨z, cellMem _ _ z⟩
  subst he
  obtain ⟨h₁, tk, rfl, hk₁⟩ := x.done
  have hk₁ : Kp s.heap h₁ := hk₁
  refine ⟨X.nolim.keeps (k0s.trans hk₁), codeAny_func ?_⟩
  -- the frame's environment
  generalize henv : newEnv scope s.heap.objs.size mainGlobals (cellsFrom (s.heap.objs.size + 1) scope.names []) (qual ++ ".<locals>.") (some f) cdv none builtinsNs = env at x
  have hsc : env.scope = scope := by rw [← henv]; rfl
  have hL : env.locals = s.heap.objs.size := by rw [← henv]; rfl
  have hcs : env.cells = cellsFrom (s.heap.objs.size + 1) scope.names [] := by rw [← henv]; rfl
  have kOf : ∀ y, env.kindOf y = scope.names.lookup y := fun y => by unfold Env.kindOf; rw [hsc]
  have S : Scoped sc env := ⟨by rw [hsc]; exact F.kind, fun d' h c => (kOf _).trans (F.loc d' h c), fun d' h c => (kOf _).trans (F.cel d' h c), F.nodbg, F.names, F.slots,
    fun n n' c e e' => name_of_addr x.apart (mem_of_lookup e) (mem_of_lookup e'), by rw [← henv]; rfl, by rw [← henv]; rfl, fun y hy => let ⟨a, b, c⟩ := F.globs y hy; ⟨(kOf y).trans a, b, c⟩⟩
  have cnd : (env.cells.map (·.1)).Nodup := by rw [hcs, cellsFrom_names scope.names (s.heap.objs.size + 1) 0 [] [] rfl]; exact F.cnd
  have fL : s.heap.get? env.locals = none := by rw [hL]; exact fresh_size _
  have fC : ∀ n c, (n, c) ∈ env.cells → s.heap.get? c = none ∧ ∃ ov, h₁.IsCell c ov := fun n c hm => by
    have hlt : env.locals < c := x.above n c hm
    refine ⟨?_, _, x.cell n c (lookup_of_mem_nodup cnd hm)⟩
    cases q : s.heap.get? c with
    | none => rfl
    | some o => exact absurd (Heap.lt_size q) (Nat.not_lt.mpr (by rw [hL] at hlt; exact Nat.le_of_lt hlt))
  have ns := x.toInCall.ns
  have lgL : ∃ o, h₁.get? env.locals = some o := let ⟨o, _, _, e, _⟩ := ns; ⟨o, e⟩
  have μnew : ∀ b ∈ μ₀ ++ env.locals :: env.cells.map (·.2), b ∈ μ₀ ∨ s.heap.get? b = none := fun b hb => by
    rcases List.mem_append.mp hb with z | z
    · exact .inl z
    · rcases List.mem_cons.mp z with z | z
      · exact .inr (z ▸ fL)
      · obtain ⟨⟨n, c⟩, hm, rfl⟩ := List.mem_map.mp z
        exact .inr (fC n c hm).1
  have pbnd : ((pn.zip vs).map (·.1)).Nodup := by rw [List.map_fst_zip (by omega)]; exact F.pnd
  have rel : Rel X sc env P g (ts ++ unbs N) h₁ (μ₀ ++ env.locals :: env.cells.map (·.2)) (fun i => vs.getD i .none) := by
    refine ⟨k0, ?_, kg.trans hk₁, fun b hb => ?_, fun b e => hp b (hk₁.fresh e), fun b hb => ?_, fun b hb => ?_, List.mem_append_right _ (.head _), ⟨_, ns⟩, fun d' hd' hc' => ?_, fun d' hd' t' q nub => ?_, fun d1 h1 d2 h2 m1 _ _ t1 _ q1 n1 => ?_⟩
    · rw [hL]
      exact hsz
    · rcases μnew b hb with z | z
      · exact (hμ₀ b z).1
      · exact kg.fresh z
    · rcases List.mem_append.mp hb with z | z
      · obtain ⟨_, _, o, e⟩ := hμ₀ b z; exact ⟨o, hk₁ b o e⟩
      · rcases List.mem_cons.mp z with z | z
        · rw [z]; exact lgL
        · obtain ⟨⟨n, c⟩, hm, rfl⟩ := List.mem_map.mp z
          obtain ⟨_, ov, o, e, _⟩ := fC n c hm
          exact ⟨o, e⟩
    · rcases μnew b hb with z | z
      · exact (hμ₀ b z).2.1
      · exact hp b z
    · have hs := cellMem (s.heap.objs.size + 1) d'.name (F.cel d' hd' hc')
      rw [← hcs] at hs
      obtain ⟨c, hc⟩ := Option.isSome_iff_exists.mp hs
      exact ⟨c, _, hc, x.cell _ _ hc, fun _ => List.mem_append_right _ (.tail _ (List.mem_map.mpr ⟨_, mem_of_lookup hc, rfl⟩))⟩
    · by_cases hsl : d'.slot < ts.length
      · rw [List.getElem?_append_left hsl] at q
        have hsv : d'.slot < vs.length := by omega
        have hsp : d'.slot < pn.length := by omega
        have hv : vs[d'.slot]? = some vs[d'.slot] := List.getElem?_eq_getElem hsv
        have hval : vs.getD d'.slot .none = vs[d'.slot] := by rw [List.getD_eq_getElem?_getD, hv]; rfl
        have hz : (d'.name, vs[d'.slot]) ∈ pn.zip vs := by
          rw [List.mem_iff_getElem]
          refine ⟨d'.slot, by rw [List.length_zip]; omega, ?_⟩
          rw [List.getElem_zip, F.pslot d' hd' hsp]
        refine ⟨?_, ?_⟩
        · show Has env h₁ d' (vs.getD d'.slot .none)
          rw [hval]
          unfold Has
          cases hc' : d'.cell with
          | false => exact ⟨_, ns, bindL_in _ _ pbnd hz ((kOf _).trans (F.loc d' hd' hc'))⟩
          | true =>
            have hs := cellMem (s.heap.objs.size + 1) d'.name (F.cel d' hd' hc')
            rw [← hcs] at hs
            obtain ⟨c, hc⟩ := Option.isSome_iff_exists.mp hs
            refine ⟨c, hc, ?_⟩
            have := x.cell _ _ hc
            rw [bindC_in _ _ pbnd hz (by rw [kOf, F.cel d' hd' hc']; intro z; cases z)] at this
            exact this
        · show Mod X _ _ _ _ _ _ (vs.getD d'.slot .none)
          rw [hval]
          exact hmod d' hd' t' _ q hv nub _ _ _ hk₁ (fun b hb => List.mem_append_left _ hb) μnew hL
      · rw [List.getElem?_append_right (Nat.le_of_not_lt hsl)] at q
        exact absurd (unbs_get _ _ _ q) nub
    · have := hown d1 h1 m1
      rw [List.getElem?_append_right (by omega)] at q1
      exact absurd (unbs_get _ _ _ q1) n1
  refine hb _ env P g _ { s with heap := h₁, toks := tk } _ _ r rm.deeper S rel hf _ _ fun fl h' tk' p => ?_
  refine fin env fl h' tk' hL ?_
  cases r with
  | next σ' => obtain ⟨e, μ', val', L', _⟩ := p; exact ⟨e, μ', val', L'⟩
  | brk σ' => exact absurd rfl (hnb σ')
  | ret t => exact p
/-- what a def of the text computes -/
noncomputable def fnR (n N : Nat) (fb : List T → Option Res) : List T → Option T := fun ts =>
  if ts.length = n then (match fb (ts ++ unbs N) with
    | some (.ret t) => some t
    | some (.next _) => some .none
    | _ => none) else none
noncomputable def inst0 : List T → Option T
  | .inst l :: _ => some (.inst l)
  | _ => none
/-- what making an instance computes -/
noncomputable def clsR (n N : Nat) (fb : List T → Option Res) : List T → Option T := fun ts =>
  if ts.length = n then (match fb ((.inst [] :: ts) ++ unbs N) with
    | some (.next σ) => inst0 σ
    | _ => none) else none
theorem mod_fro {P : Addr → Prop} {h h₁ : Heap} {t : T} {v : Value} (r : R X P h t v) {μ₀ μ' : List Addr} (hk : Kp h h₁) (hP : ∀ b ∈ μ₀, ¬ (P b ∧ ∃ o, h.get? b = some o) ∨ h.get? b = none) (hμ : ∀ b ∈ μ', b ∈ μ₀ ∨ h.get? b = none) : R X (Pm P μ') h₁ t v :=
  R.mono (fun b o p e => ⟨p, fun m => by
    rcases hμ b m with z | z
    · rcases hP b z with y | y
      · exact y ⟨p, o, e⟩
      · rw [y] at e; cases e
    · rw [z] at e; cases e⟩) (fun b o _ e => hk b o e) _ r
theorem fn_ok {f : Addr} {name qual : Str} {params : Arguments} {body : List Stmt} {scope : Scope} {dV kV doc pm cdv ct oc : Value} {an od : Option Addr} {osl : Array (Option Value)} {pn : List Str} {fb : List T → Option Res} {n N : Nat}
    (ho : X.K.lookup f = some ⟨oc, od, .func (fnOf name qual params body scope dV kV doc pm an cdv ct), osl⟩) (hcd : codeIn X.K cdv qual = true) (F : FnSc sc scope pn) (hfro : ∀ dv ∈ sc.vars, dv.slot < pn.length → dv.mode = .fro) (hn : pn.length = n) (hb : RefSs X sc d body fb)
    (hbind : ∀ (s : Shared) (vs : List Value), vs.length = n → BindsTo s (fnOf name qual params body scope dV kV doc pm an cdv ct) ⟨vs, []⟩ (pn.zip vs)) : FnOk X (d + 1) f (fnR n N fb) := by
  intro A P ts t vs s rm k0 hsz hp rl hF Q E k
  subst hn
  have hF' : ts.length = pn.length ∧ ∃ r, fb (ts ++ unbs N) = some r ∧ ((∃ t', r = .ret t' ∧ t = t') ∨ (∃ σ', r = .next σ' ∧ t = .none)) := by
    unfold fnR at hF
    split at hF
    · rename_i hl
      refine ⟨hl, ?_⟩
      split at hF
      · rename_i t' q; cases hF; exact ⟨_, q, .inl ⟨_, rfl, rfl⟩⟩
      · rename_i σ' q; cases hF; exact ⟨_, q, .inr ⟨σ', rfl, rfl⟩⟩
      · cases hF
    · cases hF
  obtain ⟨hl, r, q, hr⟩ := hF'
  refine wpAny_call ?_
  refine fn_enter (g := s.heap) (μ₀ := []) (P := P) ho hcd F hb rm k0 hsz (Kp.refl _) hp (fun _ h => (nomatch h)) (by rw [rl.length, hl]) hl (hbind s vs (by rw [rl.length, hl])) ?_ ?_ q ?_ ?_
  · intro dv hdv t' v' e1 e2 nub L μ' h₁ hk _ hμ _
    rw [hfro dv hdv (by have := (List.getElem?_eq_some_iff.mp e1).1; omega)]
    obtain ⟨v'', e3, r'⟩ := rl.get e1
    rw [e2] at e3; cases e3
    exact mod_fro (μ₀ := []) r' hk (fun _ h => (nomatch h)) hμ
  · intro dv hdv hm
    refine Nat.le_of_not_lt fun h => ?_
    rw [hfro dv hdv h] at hm; cases hm
  · intro env fl h' tk _ p
    rcases hr with ⟨t', rfl, rfl⟩ | ⟨σ', rfl, rfl⟩
    · obtain ⟨v, rfl, rv, kv⟩ := p
      exact k v h' tk kv rv
    · obtain ⟨rfl, μ', val', L'⟩ := p
      exact k .none h' tk L'.keep (by simp [R])
  · intro σ' z
    rcases hr with ⟨_, h, _⟩ | ⟨_, h, _⟩ <;> (rw [z] at h; cases h)
/-- an instance is made: the class's __init__ is the def f -/
theorem cls_ok {f : Addr} {name qual : Str} {params : Arguments} {body : List Stmt} {scope : Scope} {dV kV doc pm cdv ct oc : Value} {an od : Option Addr} {osl : Array (Option Value)} {pn : List Str} {fb : List T → Option Res} {n N : Nat}
    (hmk : makesIn X.K X.C = true) (hin : findIn X.K (.ref X.C) "__init__" = some (some (.ref f))) (hfn : typeIn X.K (.ref f) = some (.type "function"))
    (ho : X.K.lookup f = some ⟨oc, od, .func (fnOf name qual params body scope dV kV doc pm an cdv ct), osl⟩) (hcd : codeIn X.K cdv qual = true) (F : FnSc sc scope pn) (self : VarD) (hself : self ∈ sc.vars) (hs0 : self.slot = 0) (hsm : self.mode = .self)
    (hfro : ∀ dv ∈ sc.vars, dv.slot < pn.length → dv.slot ≠ 0 → dv.mode = .fro) (hn : pn.length = n + 1) (hb : RefSs X sc d body fb)
    (hbind : ∀ (s : Shared) (vs : List Value), vs.length = n + 1 → BindsTo s (fnOf name qual params body scope dV kV doc pm an cdv ct) ⟨vs, []⟩ (pn.zip vs)) : FnOk X (d + 2) X.C (clsR n N fb) := by
  intro A P ts t vs s rm k0 hsz hp rl hF Q E k
  have hF' : ts.length = n ∧ ∃ σ' l, fb ((.inst [] :: ts) ++ unbs N) = some (.next σ') ∧ σ'[0]? = some (.inst l) ∧ t = .inst l := by
    unfold clsR at hF
    split at hF
    · rename_i hl
      refine ⟨hl, ?_⟩
      split at hF
      · rename_i σ' q
        unfold inst0 at hF
        split at hF
        · rename_i l r; cases hF; exact ⟨_, l, q, rfl, rfl⟩
        · cases hF
      · cases hF
    · cases hF
  obtain ⟨hl, σ', l, q, q', rfl⟩ := hF'
  obtain ⟨hh, gg, dd, tt, oo⟩ := s
  have hh' : hh = hh := rfl
  have rl : RL X P hh ts vs := rl
  have k0 : Kp X.h₀ hh := k0
  have hp : ∀ b, hh.get? b = none → P b := hp
  have fr : ∀ b : Nat, hh.objs.size ≤ b → hh.get? b = none := fun b hb => by
    cases q : hh.get? b with
    | none => rfl
    | some ob => exact absurd (Heap.lt_size q) (Nat.not_lt.mpr hb)
  have kA : Kp hh ((hh.push emptyDict).push (instObj X.C hh.objs.size)) := (Kp.push _ _).trans (Kp.push _ _)
  have gD : ((hh.push emptyDict).push (instObj X.C hh.objs.size)).get? hh.objs.size = some emptyDict := Heap.get?_push_of_some _ (Heap.get?_push_size _ rfl)
  have gI : ((hh.push emptyDict).push (instObj X.C hh.objs.size)).get? (hh.objs.size + 1) = some (instObj X.C hh.objs.size) := by
    have := Heap.get?_push_size (hh.push emptyDict) (o := instObj X.C hh.objs.size) rfl
    rwa [Heap.size_push] at this
  refine wpAny_call ?_
  refine make_core (makes_of (X.kin.keeps k0) hmk) (looks_findIn (X.kin.keeps k0) hin) (fun self => bind_fn (X.kin.keeps k0) self hfn) (.inl rfl) ?_
  have rmU : Room (A.under (.builtin "type.__call__" ⟨.ref X.C :: vs, []⟩)) (d + 1) := by
    refine ⟨rm.handled, ?_, ?_⟩
    · have hw : (Code.builtin "type.__call__" ⟨.ref X.C :: vs, []⟩).weight ≤ 4 := by
        show (Code.builtin "type.__call__" ⟨.ref X.C :: vs, []⟩).frames + (if (Code.builtin "type.__call__" ⟨.ref X.C :: vs, []⟩).isCreation then 1 else 0) + (if (Code.builtin "type.__call__" ⟨.ref X.C :: vs, []⟩).isGuard then 1 else 0) + (if (Code.builtin "type.__call__" ⟨.ref X.C :: vs, []⟩).isCaller then claimMargin else 0) ≤ 4
        have h1 : (Code.builtin "type.__call__" ⟨.ref X.C :: vs, []⟩).frames = 0 := rfl
        have h2 : (Code.builtin "type.__call__" ⟨.ref X.C :: vs, []⟩).isCaller = false := rfl
        rw [h1, h2]
        split <;> split <;> simp
      have := rm.depth
      show A.depth + (Code.builtin "type.__call__" ⟨.ref X.C :: vs, []⟩).weight + 4 * (d + 1) ≤ _
      omega
    · have hw : (Code.builtin "type.__call__" ⟨.ref X.C :: vs, []⟩).cUnits = 1 := rfl
      have := rm.units
      show A.units + (Code.builtin "type.__call__" ⟨.ref X.C :: vs, []⟩).cUnits + 20 * (d + 1) + 200 < _
      omega
  have hsz' : X.h₀.objs.size ≤ ((hh.push emptyDict).push (instObj X.C hh.objs.size)).objs.size := by
    rw [Heap.size_push, Heap.size_push]
    exact Nat.le_trans hsz (Nat.le_trans (Nat.le_succ _) (Nat.le_succ _))
  have hne : hh.objs.size + 1 ≠ hh.objs.size := Nat.succ_ne_self _
  refine fn_enter (s := ⟨(hh.push emptyDict).push (instObj X.C hh.objs.size), gg, dd, tt, oo⟩) (g := hh) (μ₀ := [hh.objs.size]) (P := P) (ts := .inst [] :: ts) (vs := .ref (hh.objs.size + 1) :: vs) ho hcd F hb rmU k0 hsz' kA (fun b e => hp b (kA.fresh e)) ?_ (by simp only [List.length_cons]; rw [rl.length, hl, hn]) (by simp only [List.length_cons]; rw [hl, hn]) (hbind _ _ (by simp only [List.length_cons]; rw [rl.length, hl])) ?_ ?_ q ?_ (fun σ' z => by cases z)
  · intro b hb
    rw [List.mem_singleton.mp hb]
    exact ⟨fr _ (Nat.le_refl _), hp _ (fr _ (Nat.le_refl _)), _, gD⟩
  · intro dv hdv t' v' e1 e2 nub L μ' h₁ hk hμ₀ hμ hL
    by_cases h0 : dv.slot = 0
    · have := F.slots dv hdv self hself (h0.trans hs0.symm)
      subst this
      rw [h0] at e1 e2
      simp at e1 e2
      subst e1; subst e2
      rw [hsm]
      refine ⟨[], hh.objs.size + 1, hh.objs.size, [], [], 0, rfl, rfl, ⟨hp _ (fr _ (Nat.le_succ _)), fun m => ?_⟩, hμ₀ _ (.head _), ⟨fun z => ?_, ?_⟩, hk _ _ gI, hk _ _ gD, by cases X.flds <;> rfl, .nil⟩
      · rcases hμ _ m with z | z
        · exact hne (List.mem_singleton.mp z)
        · rw [gI] at z; cases z
      · have : hh.objs.size = ((hh.push emptyDict).push (instObj X.C hh.objs.size)).objs.size := z.trans hL
        rw [Heap.size_push, Heap.size_push] at this
        exact absurd this (Nat.ne_of_lt (Nat.lt_succ_of_lt (Nat.lt_succ_self _)))
      · rw [hL]; show _ = ((hh.push emptyDict).push (instObj X.C hh.objs.size)).objs.size; rw [Heap.size_push, Heap.size_push]
    · rw [hfro dv hdv (by have := (List.getElem?_eq_some_iff.mp e1).1; simp only [List.length_cons] at this; omega) h0]
      obtain ⟨i, hi⟩ : ∃ i, dv.slot = i + 1 := ⟨dv.slot - 1, by omega⟩
      rw [hi] at e1 e2
      simp only [List.getElem?_cons_succ] at e1 e2
      obtain ⟨v'', e3, r'⟩ := rl.get e1
      rw [e2] at e3; cases e3
      refine R.mono (fun b o p e => ⟨p, fun m => ?_⟩) (fun b o _ e => hk b o (kA b o e)) _ r'
      rcases hμ b m with z | z
      · rw [List.mem_singleton.mp z, fr _ (Nat.le_refl _)] at e; cases e
      · rw [kA b o e] at z; cases z
  · intro dv hdv hm
    refine Nat.le_of_not_lt fun h => ?_
    by_cases h0 : dv.slot = 0
    · have := F.slots dv hdv self hself (h0.trans hs0.symm)
      subst this
      rw [hsm] at hm; cases hm
    · rw [hfro dv hdv h h0] at hm; cases hm
  · intro env fl h' tk hLe p
    obtain ⟨rfl, μ', val', L'⟩ := p
    refine ⟨rfl, ?_⟩
    obtain ⟨_, m⟩ := L'.var self hself _ (hs0 ▸ q') (by intro z; cases z)
    rw [hsm] at m
    obtain ⟨ts', a', d', vs', es', n', e1, e2, pa, hd', ⟨_, hal⟩, ga, gd, ge, rl'⟩ := m
    cases e1
    have hs2 : env.locals = hh.objs.size + 2 := by rw [hLe]; show ((hh.push emptyDict).push (instObj X.C hh.objs.size)).objs.size = _; rw [Heap.size_push, Heap.size_push]
    have ha : a' = hh.objs.size + 1 := by
      have h1 : a' + 1 = hh.objs.size + 2 := hal.trans hs2
      exact Nat.succ.inj h1
    refine k _ h' tk L'.keep ?_
    simp only [R]
    exact ⟨a', d', vs', es', n', by rw [ha], pa.1, L'.mine d' hd', ga, gd, ge, RL.mono (fun _ _ p _ => p.1) (fun _ _ _ e => e) _ rl'⟩
end
end Mine
end
noncomputable section
set_option Elab.async false
set_option linter.unusedVariables false
namespace Mine
open PySem PySem.W PySem.Calls PyProof.Rows
noncomputable def instT : T → Option T
  | .inst l => some (.inst l)
  | _ => none
theorem instT_is {t t' : T} (h : instT t = some t') : t' = t ∧ ∃ l, t' = .inst l := by
  cases t <;> simp only [instT] at h <;> cases h
  exact ⟨rfl, _, rfl⟩
section
variable {X : Cx} {sc : Sc} {d : Nat}
theorem rInst {e : Expr} {f : List T → Option T} (h : RefE X sc d e f) : RefE X sc d e (e1 instT f) := by
  intro A env P₀ g σ s μ val t rm S L hf
  obtain ⟨x, q1, q2⟩ := e1_some hf
  obtain ⟨rfl, _⟩ := instT_is q2
  exact h A env P₀ g σ s μ val _ rm S L q1
theorem inst_is {f : List T → Option T} : ∀ σ t, e1 instT f σ = some t → ∃ l, t = .inst l := fun σ t h => by
  obtain ⟨x, q1, q2⟩ := e1_some h
  exact (instT_is q2).2
theorem hat_int {i : Int} : ∀ P P' (h h' : Heap) σ t v, eK (.int i) σ = some t → R X P h t v → R X P' h' t v := by
  intro P P' h h' σ t v e r
  simp only [eK] at e; cases e
  simpa only [R] using r
/-- some names are forgotten -/
noncomputable def kill (l : List Nat) (f : List T → Option Res) : List T → Option Res := fun σ => f (clr l σ)
theorem clr_some : ∀ (l : List Nat) (σ : List T) (i : Nat) (t : T), (clr l σ)[i]? = some t → t ≠ .unb → σ[i]? = some t := by
  intro l σ i t e n
  by_cases h : i ∈ l
  · rcases clr_in l σ i (.inl h) with z | z
    · rw [z] at e; cases e; exact absurd rfl n
    · rw [z] at e; cases e
  · rwa [clr_out l σ i h] at e
theorem Rel.clr {env : Env} {P₀ : Addr → Prop} {g h : Heap} {σ : List T} {μ : List Addr} {val : Nat → Value} (x : Rel X sc env P₀ g σ h μ val) (l : List Nat) : Rel X sc env P₀ g (clr l σ) h μ val where
  base := x.base
  above := x.above
  keep := x.keep
  fresh := x.fresh
  free := x.free
  live := x.live
  mine := x.mine
  lin := x.lin
  ns := x.ns
  cells := x.cells
  var := fun d hd t e n => x.var d hd t (clr_some l σ _ t e n) n
  apart := fun d hd d' hd' m m' ns t t' e n e' n' => x.apart d hd d' hd' m m' ns t t' (clr_some l σ _ t e n) n (clr_some l σ _ t' e' n') n'
theorem sKill (l : List Nat) {b : List Stmt} {f : List T → Option Res} (h : RefSs X sc d b f) : RefSs X sc d b (kill l f) :=
  fun A env P₀ g σ s μ val r rm S L hf => h A env P₀ g _ s μ val r rm S (L.clr l) hf
end
theorem inj_map {α β : Type} {f : α → β} : ∀ {l : List α}, (l.map f).Nodup → ∀ a ∈ l, ∀ b ∈ l, f a = f b → a = b
  | [], _, _, h, _, _, _ => (nomatch h)
  | x :: r, nd, a, ha, b, hb, e => by
    simp only [List.map_cons, List.nodup_cons] at nd
    rcases List.mem_cons.mp ha with rfl | ha
    · rcases List.mem_cons.mp hb with rfl | hb
      · rfl
      · exact absurd (List.mem_map.mpr ⟨b, hb, e.symm⟩) nd.1
    · rcases List.mem_cons.mp hb with rfl | hb
      · exact absurd (List.mem_map.mpr ⟨a, by assumption, e⟩) nd.1
      · exact inj_map nd.2 a ha b hb e
noncomputable def fnB (sc : Sc) (scope : Scope) (pn : List Str) : Bool :=
  decide (scope.kind = .function) && !scope.isCoroutine && !scope.isGenerator
  && sc.vars.all (fun d => d.st && !(d.name == ("__debug__" : Str)) && decide (scope.names.lookup d.name = some (if d.cell then NameKind.cell else NameKind.local)) && (decide (pn.length ≤ d.slot) || decide (pn[d.slot]? = some d.name)))
  && decide (((cellsFrom 0 scope.names []).map (·.1)).Nodup) && decide pn.Nodup
  && pn.all (fun p => decide (scope.names.lookup p = some .local) || decide (scope.names.lookup p = some .cell))
  && decide ((sc.vars.map (·.name)).Nodup) && decide ((sc.vars.map (·.slot)).Nodup)
  && sc.globs.all (fun x => decide (scope.names.lookup x = some .globalImplicit) && !(x == ("__debug__" : Str)) && decide (x ≠ "__name__"))
theorem fnSc_of {sc : Sc} {scope : Scope} {pn : List Str} (h : fnB sc scope pn = true) : FnSc sc scope pn := by
  simp only [fnB, Bool.and_eq_true, decide_eq_true_eq, List.all_eq_true, Bool.not_eq_true', Bool.or_eq_true] at h
  obtain ⟨⟨⟨⟨⟨⟨⟨⟨⟨a, b⟩, c⟩, v⟩, e⟩, f⟩, p⟩, n⟩, s⟩, g⟩ := h
  exact ⟨a, b, c, fun d hd => (v d hd).1.1.1, fun d hd hc => by have := (v d hd).1.2; rw [hc] at this; simpa using this, fun d hd hc => by have := (v d hd).1.2; rw [hc] at this; simpa using this, e, f, p,
    fun d hd hl => by
      rcases (v d hd).2 with z | z
      · exact absurd hl (Nat.not_lt.mpr z)
      · rw [List.getElem?_eq_getElem hl] at z; exact Option.some.inj z,
    fun d hd => (v d hd).1.1.2, inj_map n, inj_map s, fun x hx => ⟨(g x hx).1.1, (g x hx).1.2, (g x hx).2⟩⟩
noncomputable def compB (sc sc' : Sc) (cl : List Nat) (scope : Scope) : Bool :=
  decide (scope.kind = .function) && scope.names.all (fun y => decide (y.2 ≠ .cell) && (decide (y.2 ≠ .local) || decide (scope.names.lookup y.1 = some .local)) && (decide (y.2 ≠ .free) || sc.vars.any (fun d => d.cell && decide (d.name = y.1))))
  && sc'.vars.all (fun d' => decide (d'.mode = .fro) && !(d'.name == ("__debug__" : Str)) && (match d'.cell with
      | false => d'.st && decide (d'.slot ∈ cl) && decide (scope.names.lookup d'.name = some .local)
      | true => !d'.st && decide (d'.slot ∉ cl) && decide (scope.names.lookup d'.name = some .free) && decide ((d'.name, NameKind.free) ∈ scope.names) && sc.vars.any (fun d => d.cell && decide (d.name = d'.name) && decide (d.slot = d'.slot) && decide (d.mode = .fro))))
  && decide ((sc'.vars.map (·.name)).Nodup) && decide ((sc'.vars.map (·.slot)).Nodup)
  && sc'.globs.all (fun x => decide (scope.names.lookup x = some .globalImplicit) && !(x == ("__debug__" : Str)) && decide (x ≠ "__name__"))
theorem compSc_of {sc sc' : Sc} {cl : List Nat} {scope : Scope} (h : compB sc sc' cl scope = true) : CompSc sc sc' cl scope := by
  simp only [compB, Bool.and_eq_true, decide_eq_true_eq, List.all_eq_true, Bool.not_eq_true', Bool.or_eq_true, List.any_eq_true] at h
  obtain ⟨⟨⟨⟨⟨a, y⟩, v⟩, n⟩, s⟩, g⟩ := h
  refine ⟨a, fun z hz => (y z hz).1.1, fun z hz e => ?_, fun z hz e => ?_, fun d hd => ⟨(v d hd).1.1, ?_⟩, fun d hd => (v d hd).1.2, inj_map n, inj_map s, fun x hx => ⟨(g x hx).1.1, (g x hx).1.2, (g x hx).2⟩⟩
  · rcases (y z hz).1.2 with q | q
    · exact absurd e q
    · exact q
  · rcases (y z hz).2 with q | ⟨d, h1, h2, h3⟩
    · exact absurd e q
    · exact ⟨d, h1, h2, h3⟩
  · have := (v d hd).2
    cases hc : d.cell with
    | false =>
      rw [hc] at this
      simp only [Bool.and_eq_true, decide_eq_true_eq] at this
      exact .inl ⟨rfl, this.1.1, this.1.2, this.2⟩
    | true =>
      rw [hc] at this
      simp only [Bool.and_eq_true, decide_eq_true_eq, Bool.not_eq_true', List.any_eq_true] at this
      obtain ⟨⟨⟨⟨h1, h2⟩, h3⟩, h4⟩, d₀, h5, ⟨⟨h6, h7⟩, h8⟩, h9⟩ := this
      exact .inr ⟨rfl, h1, h2, h3, h4, d₀, h5, h6, h7, h8, h9⟩
noncomputable def stB (sc : Sc) : Bool := sc.vars.all (·.st)
theorem st_of {sc : Sc} (h : stB sc = true) : ∀ d ∈ sc.vars, d.st = true := by
  simpa only [stB, List.all_eq_true] using h
noncomputable def froB (sc : Sc) (n : Nat) : Bool := sc.vars.all (fun d => decide (n ≤ d.slot) || decide (d.mode = .fro))
theorem fro_of {sc : Sc} {n : Nat} (h : froB sc n = true) : ∀ dv ∈ sc.vars, dv.slot < n → dv.mode = .fro := by
  simp only [froB, List.all_eq_true, Bool.or_eq_true, decide_eq_true_eq] at h
  intro dv hd hl
  rcases h dv hd with z | z
  · exact absurd hl (Nat.not_lt.mpr z)
  · exact z
/-- a law: its def answers true for the script -/
theorem law_top {X : Cx} {c : ClaimW} {cl : Str → Option Addr} {mean : ExcName → Option Value} {args : List WData} {s₁ : Shared} {fa a : Addr} {vs : List Value} {xs : List Int} {F : List T → Option T} {d : Nat}
    (h0 : X.h₀ = s₁.heap) (hg : AllBare s₁.gens) (hF : FnOk X d fa F) (hd : d ≤ 100) (ht : F [.lst (xs.map .int)] = some (.bool true))
    (hl : s₁.heap.get? a = some { cls := .type "list", data := .seq vs.toArray }) (hI : IntsAre vs xs)
    (hn : ∀ cls, c.raises args cls = false) (hp : c.post args (.bool true) args = true) :
    wpAny (model X.prog X.w) callerA (call (.ref fa) [.ref a]) (fun v s' => GoodWG c cl mean args s₁ (.ok (.ret v)) s') (fun e s' => GoodWG c cl mean args s₁ (.error e) s') s₁ := by
  refine hF callerA (fun _ => True) [.lst (xs.map .int)] _ [.ref a] s₁ ⟨rfl, ?_, ?_⟩ (h0 ▸ Kp.refl _) (h0 ▸ Nat.le_refl _) (fun _ _ => trivial) ?_ ht _ _ fun z h' tk hk r => ?_
  · show (1 + claimMargin : Nat) + 4 * d ≤ _
    have : recursionLimit = 1000 := rfl
    have : claimMargin = 300 := rfl
    omega
  · show (4 : Nat) + 20 * d + 200 < _
    have : cLine = 9900 := rfl
    omega
  · simp only [RL, R]
    refine ⟨.ref a, [], rfl, ⟨a, vs, 0, rfl, trivial, hl, ?_⟩, rfl⟩
    clear hl ht
    induction xs generalizing vs with
    | nil => cases hI; simp [RL]
    | cons x r ih =>
      cases hI with
      | cons n t h1 => simp only [List.map_cons, RL, R]; exact ⟨_, _, rfl, ⟨_, rfl⟩, ih h1⟩
  · simp only [R] at r
    subst r
    exact ⟨.inl ⟨_, _, _, rfl, hn, .bool true, hp, fun _ => ⟨.nil, fun _ h => (nomatch h)⟩⟩, .of_keep hk, rfl, hg⟩
end Mine
end
noncomputable section
set_option Elab.async false
set_option linter.unusedVariables false
namespace Mine
open PySem PySem.W PySem.Calls PyProof.Rows
theorem mem {α : Type} {l : List α} {i : Nat} {a : α} (h : l[i]? = some a) : a ∈ l := List.mem_of_getElem? h
noncomputable def swp (f : List T → Option T) : List T → Option T := fun σ => match f σ with | some (.tup [a, b]) => some (.tup [b, a]) | _ => none
theorem bind1 {fd : FuncData} {p : Str} (h : ∀ v, bindArgs fd ⟨[v], []⟩ = pure [(p, v)]) : ∀ (s : Shared) (vs : List Value), vs.length = 1 → BindsTo s fd ⟨vs, []⟩ ([p].zip vs)
  | s, [v], _ => .of_eq (h v)
theorem bind2 {fd : FuncData} {p q : Str} (h : ∀ v u, bindArgs fd ⟨[v, u], []⟩ = pure [(p, v), (q, u)]) : ∀ (s : Shared) (vs : List Value), vs.length = 2 → BindsTo s fd ⟨vs, []⟩ ([p, q].zip vs)
  | s, [v, u], _ => .of_eq (h v u)
noncomputable def selfB (sc : Sc) (v : VarD) : Bool := sc.vars.all (fun d => decide (d.mode ≠ .self) || decide (d.slot = v.slot ∧ d.name = v.name ∧ d.cell = v.cell ∧ d.st = v.st ∧ d.mode = v.mode))
theorem self_of {sc : Sc} {v : VarD} (h : selfB sc v = true) (h' : v.mode = .self) : ∀ d ∈ sc.vars, d.mode = .self → d = v := by
  simp only [selfB, List.all_eq_true, Bool.or_eq_true, decide_eq_true_eq] at h
  intro d hd hm
  rcases h d hd with z | ⟨a, b, c, e, f⟩
  · exact absurd hm z
  · cases d; cases v; simp only at a b c e f; subst a b c e f; rfl
noncomputable def fro0B (sc : Sc) : Bool := sc.vars.all (fun d => decide (d.slot = 0) || decide (d.mode = .fro) || decide (2 ≤ d.slot))
theorem fro0_of {sc : Sc} (h : fro0B sc = true) : ∀ dv ∈ sc.vars, dv.slot < 2 → dv.slot ≠ 0 → dv.mode = .fro := by
  simp only [fro0B, List.all_eq_true, Bool.or_eq_true, decide_eq_true_eq] at h
  intro dv hd hl hn
  rcases h dv hd with (z | z) | z
  · exact absurd z hn
  · exact z
  · exact absurd hl (Nat.not_lt.mpr z)
end Mine
end
noncomputable section
set_option Elab.async false
set_option linter.unusedVariables false
namespace Mine
open PySem PySem.W PySem.Calls PyProof.Rows
section
variable {σ σ' : List T} {a b : List T → Option Res} {f fi g : List T → Option T} {c : List T → Option Bool} {t x y : T} {i : Nat} {r : Option T} {rb : Option Bool}
theorem sSeq_n (h : a σ = some (.next σ')) : sSeq a b σ = b σ' := by unfold sSeq; rw [h]
theorem sSeq_s {q : Option Res} (h : a σ = some (.next σ')) (h' : b σ' = q) : sSeq a b σ = q := (sSeq_n h).trans h'
theorem sSeq_1 {q : Option Res} (h : a σ = q) : sSeq a sNil σ = q := by
  unfold sSeq; rw [h]
  cases q with
  | none => rfl
  | some q => cases q <;> rfl
theorem sIf_t {q : Option Res} (h : c σ = some true) (h' : a σ = q) : sIf c a b σ = q := by unfold sIf; rw [h]; exact h'
theorem sIf_f {q : Option Res} (h : c σ = some false) (h' : b σ = q) : sIf c a b σ = q := by unfold sIf; rw [h]; exact h'
theorem sSet_n (h : f σ = some t) (n : t ≠ .unb := by intro z; cases z) : sSet i f σ = some (.next (σ.set i t)) := by
  unfold sSet; rw [h]; cases t <;> first | rfl | exact absurd rfl n
theorem sRet_n (h : f σ = some t) : sRet f σ = some (.ret t) := by unfold sRet; rw [h]
theorem e1_n {o : T → Option T} (h : f σ = some x) (h' : o x = r) : e1 o f σ = r := by unfold e1; rw [h]; exact h'
theorem e2_n {o : T → T → Option T} (h : f σ = some x) (h1 : g σ = some y) (h' : o x y = r) : e2 o f g σ = r := by unfold e2; rw [h, h1]; exact h'
theorem t2_n {o : T → T → Option Bool} (h : f σ = some x) (h1 : g σ = some y) (h' : o x y = rb) : t2 o f g σ = rb := by unfold t2; rw [h, h1]; exact h'
theorem eLc_n {fl : List T → Option (List T)} {l : List T} (h : f σ = some x) (h' : fl σ = some l) : eLc f fl σ = some (x :: l) := by unfold eLc; rw [h, h']
theorem eCall_n {F : List T → Option T} {fl : List T → Option (List T)} {l : List T} (h : fl σ = some l) (h' : F l = r) : eCall F fl σ = r := by unfold eCall; rw [h]; exact h'
theorem sFor_n {l : List T} {q : Option Res} (h : fi σ = some t) (h2 : iterT t = some l) (h3 : forR i a l σ = q) : sFor i fi a σ = q := by unfold sFor; rw [h]; dsimp only; rw [h2]; exact h3
theorem forR_n {ts : List T} {q : Option Res} (n : t ≠ .unb) (h : a (σ.set i t) = some (.next σ')) (h' : forR i a ts σ' = q) : forR i a (t :: ts) σ = q := by
  cases t <;> first | exact absurd rfl n | (simp only [forR, h]; exact h')
theorem forR_b {ts : List T} (n : t ≠ .unb) (h : a (σ.set i t) = some (.brk σ')) : forR i a (t :: ts) σ = some (.next σ') := by
  cases t <;> first | exact absurd rfl n | simp only [forR, h]
theorem atoms_n {l : List T} (h : f σ = some (.lst l)) (h' : datL l 0 = true) : atoms f σ = some (.lst l) := by unfold atoms; rw [h]; simp [h']
end
noncomputable def nI (n : Nat) : T := .int (n : Int)
theorem lenT_l {l : List T} (h : l.length ≤ lim) : lenT (.lst l) = some (nI l.length) := by simp [lenT, h, nI]
theorem lenT_t {l : List T} (h : l.length ≤ lim) : lenT (.tup l) = some (nI l.length) := by simp [lenT, h, nI]
theorem idx_nat (n i : Nat) : idx n (i : Int) = i := by unfold idx; split <;> omega
theorem itemT_l {l : List T} {i : Nat} {t : T} (h : i ≤ lim) (e : l[i]? = some t) (n : t ≠ .unb := by intro z; cases z) : itemT (.lst l) (nI i) = some t := by
  have h' : -(lim : Int) ≤ (i : Int) ∧ (i : Int) ≤ (lim : Int) ∧ -(l.length : Int) ≤ (i : Int) := by omega
  simp only [itemT, nI, h', if_true, idx_nat, e]
  cases t <;> first | exact absurd rfl n | simp
theorem itemT_t {l : List T} {i : Nat} {t : T} (h : i ≤ lim) (e : l[i]? = some t) (n : t ≠ .unb := by intro z; cases z) : itemT (.tup l) (nI i) = some t := by
  have h' : -(lim : Int) ≤ (i : Int) ∧ (i : Int) ≤ (lim : Int) ∧ -(l.length : Int) ≤ (i : Int) := by omega
  simp only [itemT, nI, h', if_true, idx_nat, e]
  cases t <;> first | exact absurd rfl n | simp
theorem addT_l {l m : List T} (h : l.length + m.length ≤ lim) : addT (.lst l) (.lst m) = some (.lst (l ++ m)) := by simp [addT, h]
theorem mulT_l {l : List T} {n : Nat} (h : l.length * n ≤ lim) (h' : n ≤ lim) : mulT (.lst l) (nI n) = some (.lst (repL l n)) := by
  have h2 : (n : Int) ≤ (lim : Int) ∧ l.length * (n : Int).toNat ≤ lim ∧ -(lim : Int) ≤ (n : Int) := ⟨by omega, by simpa using h, by omega⟩
  simp only [mulT, nI, h2, if_true]; simp
theorem sSetI_n {σ : List T} {i : Nat} {fi f : List T → Option T} {t : T} {l : List T} {j : Nat} (h : f σ = some t) (hl : σ[i]? = some (.lst l)) (hj : fi σ = some (nI j)) (hb : j < l.length) (hm : l.length ≤ lim) (n : t ≠ .unb := by intro z; cases z) :
    sSetI i fi f σ = some (.next (σ.set i (.lst (l.set j t)))) := by
  have h2 : (0 : Int) ≤ (j : Int) ∧ (j : Int) < (l.length : Int) ∧ l.length ≤ lim := by omega
  unfold sSetI
  rw [h]
  cases t <;> first | exact absurd rfl n | (simp only [hl, hj, nI, h2, and_self, if_true]; simp)
theorem sApp_n {σ : List T} {i : Nat} {f : List T → Option T} {t : T} {l : List T} (h : f σ = some t) (hl : σ[i]? = some (.lst l)) (hm : l.length ≤ lim) (n : t ≠ .unb := by intro z; cases z) :
    sApp i f σ = some (.next (σ.set i (.lst (l ++ [t])))) := by
  unfold sApp
  rw [h]
  cases t <;> first | exact absurd rfl n | simp [hl, hm]
theorem rngL_cons (a n : Nat) : rngL (a : Int) (n + 1) = nI a :: rngL ((a + 1 : Nat) : Int) n := rfl
theorem iterT_rng {a b : Nat} (ha : a ≤ lim) (hb : b ≤ lim) : iterT (.rng (a : Int) (b : Int)) = some (rngL (a : Int) (b - a)) := by
  have h : -(lim : Int) ≤ (a : Int) ∧ (a : Int) ≤ (lim : Int) ∧ -(lim : Int) ≤ (b : Int) ∧ (b : Int) ≤ (lim : Int) := by omega
  simp only [iterT, h, and_self, if_true]
  congr 2; omega
theorem geT_n {a b : Nat} : geT (nI a) (nI b) = some (decide (b ≤ a)) := by simp [geT, nI]
theorem neT_n {a b : Nat} : neT (nI a) (nI b) = some (!decide (a = b)) := by
  simp only [neT, nI, bne, Option.some.injEq]
  congr 1
  by_cases h : a = b
  · simp [h]
  · have : ¬ ((a : Int) = (b : Int)) := by omega
    simp [h, this]
end Mine
end
noncomputable section
set_option Elab.async false
set_option linter.unusedVariables false
set_option maxRecDepth 100000
set_option maxHeartbeats 4000000
namespace Mine
open PySem PySem.W PySem.Calls PyProof.Rows
noncomputable def v_W_init_self : VarD := ⟨"self", 0, false, true, .self⟩
noncomputable def v_W_init_ws : VarD := ⟨"ws", 1, false, true, .fro⟩
noncomputable def v_W_init_S : VarD := ⟨"S", 2, false, true, .fro⟩
noncomputable def v_W_init_T : VarD := ⟨"T", 3, false, true, .fro⟩
noncomputable def v_W_init_count : VarD := ⟨"count", 4, false, true, .own⟩
noncomputable def v_W_init_b : VarD := ⟨"b", 5, false, true, .fro⟩
noncomputable def v_W_init_n : VarD := ⟨"n", 6, false, true, .fro⟩
noncomputable def v_W_init_nt : VarD := ⟨"nt", 7, false, true, .fro⟩
noncomputable def v_W_init_ch : VarD := ⟨"ch", 8, false, true, .fro⟩
noncomputable def sc_W_init : Sc := ⟨[v_W_init_self, v_W_init_ws, v_W_init_S, v_W_init_T, v_W_init_count, v_W_init_b, v_W_init_n, v_W_init_nt, v_W_init_ch], ["Whitespace", "len", "tuple"]⟩
noncomputable def b_W_init_1 : List T → Option Res := (sSeq (sIf (t2 eqT (eVar 8) (eVar 2)) (sSeq (sSet 6 (e2 addT (eVar 6) (eK (.int (1))))) (sSeq (sSet 5 (e2 addT (eVar 5) (eK (.int (1))))) sNil)) (sSeq (sIf (t2 eqT (eVar 8) (eVar 3)) (sSeq (sSet 6 (e2 addT (eVar 6) (eK (.int (1))))) (sSeq (sSet 7 (e2 addT (eVar 7) (eK (.int (1))))) (sSeq (sIf (t2 geT (eVar 5) (e1 lenT (eVar 4))) (sSeq (sSet 4 (atoms (e2 addT (eVar 4) (e2 mulT (mkL (eLc (eK (.int (0))) eL0)) (e2 addT (e2 subT (eVar 5) (e1 lenT (eVar 4))) (eK (.int (1)))))))) sNil) sNil) (sSeq (sSetI 4 (eVar 5) (e2 addT (e2 itemT (eVar 4) (eVar 5)) (eK (.int (1))))) (sSeq (sSet 5 (eK (.int (0)))) sNil))))) (sSeq sBrk sNil)) sNil)) sNil)
noncomputable def s_W_init_8 : List T → Option Res := (sSetA 0 4 (bT (t2 leT (e1 lenT (eVar 4)) (eK (.int (1))))))
noncomputable def r_W_init_8 : List T → Option Res := sSeq s_W_init_8 sNil
noncomputable def s_W_init_7 : List T → Option Res := (sSetA 0 3 (mkT (eLc (e1 tupOf (eVar 4)) (eLc (eVar 5) eL0))))
noncomputable def r_W_init_7 : List T → Option Res := sSeq s_W_init_7 r_W_init_8
noncomputable def s_W_init_6 : List T → Option Res := (sSetA 0 2 (eVar 7))
noncomputable def r_W_init_6 : List T → Option Res := sSeq s_W_init_6 r_W_init_7
noncomputable def s_W_init_5 : List T → Option Res := (sSetA 0 1 (eVar 6))
noncomputable def r_W_init_5 : List T → Option Res := sSeq s_W_init_5 r_W_init_6
noncomputable def s_W_init_4 : List T → Option Res := (sFor 8 (e1 (attrT 0) (eVar 0)) b_W_init_1)
noncomputable def r_W_init_4 : List T → Option Res := sSeq s_W_init_4 r_W_init_5
noncomputable def s_W_init_3 : List T → Option Res := (sSet3 5 6 7 (eK (.int (0))))
noncomputable def r_W_init_3 : List T → Option Res := sSeq s_W_init_3 r_W_init_4
noncomputable def s_W_init_2 : List T → Option Res := (sSet 4 (atoms (mkL eL0)))
noncomputable def r_W_init_2 : List T → Option Res := sSeq s_W_init_2 r_W_init_3
noncomputable def s_W_init_1 : List T → Option Res := (sSet2 3 2 (swp (mkT (eLc (eK (.str [32])) (eLc (eK (.str [9])) eL0)))))
noncomputable def r_W_init_1 : List T → Option Res := sSeq s_W_init_1 r_W_init_2
noncomputable def s_W_init_0 : List T → Option Res := (sSetA 0 0 (eVar 1))
noncomputable def r_W_init_0 : List T → Option Res := sSeq s_W_init_0 r_W_init_1
noncomputable def F_W_init : List T → Option T := clsR 1 7 r_W_init_0
theorem self_W_init : ∀ d ∈ sc_W_init.vars, d.mode = .self → d = v_W_init_self := self_of rfl rfl
noncomputable def v_W_longest_run_of_spaces_self : VarD := ⟨"self", 0, false, true, .fro⟩
noncomputable def v_W_longest_run_of_spaces_count : VarD := ⟨"count", 1, false, true, .fro⟩
noncomputable def v_W_longest_run_of_spaces_trailing : VarD := ⟨"trailing", 2, false, true, .fro⟩
noncomputable def sc_W_longest_run_of_spaces : Sc := ⟨[v_W_longest_run_of_spaces_self, v_W_longest_run_of_spaces_count, v_W_longest_run_of_spaces_trailing], ["len", "max"]⟩
noncomputable def s_W_longest_run_of_spaces_1 : List T → Option Res := (sRet (e2 max2 (e2 subT (e1 lenT (eVar 1)) (eK (.int (1)))) (eVar 2)))
noncomputable def r_W_longest_run_of_spaces_1 : List T → Option Res := sSeq s_W_longest_run_of_spaces_1 sNil
noncomputable def s_W_longest_run_of_spaces_0 : List T → Option Res := (sSet2 1 2 (e1 (attrT 3) (eVar 0)))
noncomputable def r_W_longest_run_of_spaces_0 : List T → Option Res := sSeq s_W_longest_run_of_spaces_0 r_W_longest_run_of_spaces_1
noncomputable def F_W_longest_run_of_spaces : List T → Option T := fnR 1 2 r_W_longest_run_of_spaces_0
noncomputable def v_W_indent_level_self : VarD := ⟨"self", 0, false, true, .fro⟩
noncomputable def v_W_indent_level_tabsize : VarD := ⟨"tabsize", 1, false, true, .fro⟩
noncomputable def v_W_indent_level_count : VarD := ⟨"count", 2, false, true, .fro⟩
noncomputable def v_W_indent_level_trailing : VarD := ⟨"trailing", 3, false, true, .fro⟩
noncomputable def v_W_indent_level_il : VarD := ⟨"il", 4, false, true, .fro⟩
noncomputable def v_W_indent_level_i : VarD := ⟨"i", 5, false, true, .fro⟩
noncomputable def sc_W_indent_level : Sc := ⟨[v_W_indent_level_self, v_W_indent_level_tabsize, v_W_indent_level_count, v_W_indent_level_trailing, v_W_indent_level_il, v_W_indent_level_i], ["len", "range"]⟩
noncomputable def b_W_indent_level_1 : List T → Option Res := (sSeq (sSet 4 (e2 addT (eVar 4) (e2 mulT (e2 divT (eVar 5) (eVar 1)) (e2 itemT (eVar 2) (eVar 5))))) sNil)
noncomputable def s_W_indent_level_3 : List T → Option Res := (sRet (e2 addT (eVar 3) (e2 mulT (eVar 1) (e2 addT (eVar 4) (e1 (attrT 2) (eVar 0))))))
noncomputable def r_W_indent_level_3 : List T → Option Res := sSeq s_W_indent_level_3 sNil
noncomputable def s_W_indent_level_2 : List T → Option Res := (sFor 5 (e2 rng2 (eVar 1) (e1 lenT (eVar 2))) b_W_indent_level_1)
noncomputable def r_W_indent_level_2 : List T → Option Res := sSeq s_W_indent_level_2 r_W_indent_level_3
noncomputable def s_W_indent_level_1 : List T → Option Res := (sSet 4 (eK (.int (0))))
noncomputable def r_W_indent_level_1 : List T → Option Res := sSeq s_W_indent_level_1 r_W_indent_level_2
noncomputable def s_W_indent_level_0 : List T → Option Res := (sSet2 2 3 (e1 (attrT 3) (eVar 0)))
noncomputable def r_W_indent_level_0 : List T → Option Res := sSeq s_W_indent_level_0 r_W_indent_level_1
noncomputable def F_W_indent_level : List T → Option T := fnR 2 4 r_W_indent_level_0
noncomputable def v_W_not_equal_witness_self : VarD := ⟨"self", 0, false, true, .fro⟩
noncomputable def v_W_not_equal_witness_other : VarD := ⟨"other", 1, false, true, .fro⟩
noncomputable def v_W_not_equal_witness_n : VarD := ⟨"n", 2, false, true, .fro⟩
noncomputable def v_W_not_equal_witness_a : VarD := ⟨"a", 3, false, true, .own⟩
noncomputable def v_W_not_equal_witness_ts : VarD := ⟨"ts", 4, false, true, .fro⟩
noncomputable def sc_W_not_equal_witness : Sc := ⟨[v_W_not_equal_witness_self, v_W_not_equal_witness_other, v_W_not_equal_witness_n, v_W_not_equal_witness_a, v_W_not_equal_witness_ts], ["max", "range"]⟩
noncomputable def b_W_not_equal_witness_1 : List T → Option Res := (sSeq (sIf (t2 neT (eCall F_W_indent_level (eLc (e1 instT (eVar 0)) (eLc (eVar 4) eL0))) (eCall F_W_indent_level (eLc (e1 instT (eVar 1)) (eLc (eVar 4) eL0)))) (sSeq (sApp 3 (mkT (eLc (eVar 4) (eLc (eCall F_W_indent_level (eLc (e1 instT (eVar 0)) (eLc (eVar 4) eL0))) (eLc (eCall F_W_indent_level (eLc (e1 instT (eVar 1)) (eLc (eVar 4) eL0))) eL0))))) sNil) sNil) sNil)
noncomputable def s_W_not_equal_witness_3 : List T → Option Res := (sRet (eVar 3))
noncomputable def r_W_not_equal_witness_3 : List T → Option Res := sSeq s_W_not_equal_witness_3 sNil
noncomputable def s_W_not_equal_witness_2 : List T → Option Res := (sFor 4 (e2 rng2 (eK (.int (1))) (e2 addT (eVar 2) (eK (.int (1))))) b_W_not_equal_witness_1)
noncomputable def r_W_not_equal_witness_2 : List T → Option Res := sSeq s_W_not_equal_witness_2 r_W_not_equal_witness_3
noncomputable def s_W_not_equal_witness_1 : List T → Option Res := (sSet 3 (atoms (mkL eL0)))
noncomputable def r_W_not_equal_witness_1 : List T → Option Res := sSeq s_W_not_equal_witness_1 r_W_not_equal_witness_2
noncomputable def s_W_not_equal_witness_0 : List T → Option Res := (sSet 2 (e2 addT (e2 max2 (eCall F_W_longest_run_of_spaces (eLc (e1 instT (eVar 0)) eL0)) (eCall F_W_longest_run_of_spaces (eLc (e1 instT (eVar 1)) eL0))) (eK (.int (1)))))
noncomputable def r_W_not_equal_witness_0 : List T → Option Res := sSeq s_W_not_equal_witness_0 r_W_not_equal_witness_1
noncomputable def F_W_not_equal_witness : List T → Option T := fnR 2 3 r_W_not_equal_witness_0
noncomputable def v_generate_overlap_table_prefix : VarD := ⟨"prefix", 0, false, true, .fro⟩
noncomputable def v_generate_overlap_table_table : VarD := ⟨"table", 1, false, true, .own⟩
noncomputable def v_generate_overlap_table_i : VarD := ⟨"i", 2, false, true, .fro⟩
noncomputable def v_generate_overlap_table_idx : VarD := ⟨"idx", 3, false, true, .fro⟩
noncomputable def sc_generate_overlap_table : Sc := ⟨[v_generate_overlap_table_prefix, v_generate_overlap_table_table, v_generate_overlap_table_i, v_generate_overlap_table_idx], ["len", "range"]⟩
noncomputable def b_generate_overlap_table_1 : List T → Option Res := (sSeq (sIf (t2 eqT (eVar 3) (eK (.int (0)))) (sSeq (sSetI 1 (eVar 2) (eK (.int (0)))) (sSeq sBrk sNil)) sNil) (sSeq (sSet 3 (e2 itemT (eVar 1) (e2 subT (eVar 3) (eK (.int (1)))))) sNil))
noncomputable def b_generate_overlap_table_2 : List T → Option Res := (sSeq (sSet 3 (e2 itemT (eVar 1) (e2 subT (eVar 2) (eK (.int (1)))))) (sSeq (sWhile 40 (t2 neT (e2 itemT (eVar 0) (eVar 2)) (e2 itemT (eVar 0) (eVar 3))) b_generate_overlap_table_1 (sSeq (sSetI 1 (eVar 2) (e2 addT (eVar 3) (eK (.int (1))))) sNil)) sNil))
noncomputable def s_generate_overlap_table_2 : List T → Option Res := (sRet (eVar 1))
noncomputable def r_generate_overlap_table_2 : List T → Option Res := sSeq s_generate_overlap_table_2 sNil
noncomputable def s_generate_overlap_table_1 : List T → Option Res := (sFor 2 (e2 rng2 (eK (.int (1))) (e1 lenT (eVar 0))) b_generate_overlap_table_2)
noncomputable def r_generate_overlap_table_1 : List T → Option Res := sSeq s_generate_overlap_table_1 r_generate_overlap_table_2
noncomputable def s_generate_overlap_table_0 : List T → Option Res := (sSet 1 (atoms (e2 mulT (mkL (eLc (eK (.int (0))) eL0)) (e1 lenT (eVar 0)))))
noncomputable def r_generate_overlap_table_0 : List T → Option Res := sSeq s_generate_overlap_table_0 r_generate_overlap_table_1
noncomputable def F_generate_overlap_table : List T → Option T := fnR 1 3 r_generate_overlap_table_0
end Mine
end
noncomputable section
set_option Elab.async false
set_option linter.unusedVariables false
set_option maxRecDepth 100000
namespace Mine
open PySem PySem.W PySem.Calls PyProof.Rows
noncomputable def bump : List Nat → Nat → List Nat
  | [], 0 => [1]
  | [], b + 1 => 0 :: bump [] b
  | x :: r, 0 => (x + 1) :: r
  | x :: r, b + 1 => x :: bump r b
noncomputable def ini : List Nat → Nat → Nat → Nat → List Nat → Nat × Nat × Nat × List Nat
  | [], n, nt, b, c => (n, nt, b, c)
  | x :: r, n, nt, b, c => match Nat.beq x 32 with
    | true => ini r (n + 1) nt (b + 1) c
    | false => (match Nat.beq x 9 with
      | true => ini r (n + 1) (nt + 1) 0 (bump c b)
      | false => (n, nt, b, c))
theorem repL_one (n : Nat) : repL [T.int 0] n = List.replicate n (T.int 0) := by
  induction n with
  | zero => rfl
  | succ n ih => simp [repL, ih, List.replicate_succ]
theorem datL_nI (l : List Nat) (k : Nat) : datL (l.map nI) k = true := by
  induction l with
  | nil => simp [datL]
  | cons x r ih => simp [datL, dat, nI, ih]
theorem datL_append (l m : List T) (k : Nat) : datL (l ++ m) k = (datL l k && datL m k) := by
  induction l with
  | nil => simp [datL]
  | cons x r ih => simp [datL, ih, Bool.and_assoc]
theorem datL_zero (n k : Nat) : datL (List.replicate n (T.int 0)) k = true := by
  induction n with
  | zero => simp [datL]
  | succ n ih => simp [datL, dat, List.replicate_succ, ih]
theorem bump_len (c : List Nat) : ∀ b, (bump c b).length = max c.length (b + 1) := by
  induction c with
  | nil => intro b; induction b with
    | zero => rfl
    | succ b ih => simp [bump, ih]
  | cons x r ih => intro b; cases b with
    | zero => simp [bump]
    | succ b => simp [bump, ih]
theorem bump_lt (c : List Nat) : ∀ b, (h : b < c.length) → (c.map nI).set b (T.int ((c[b] : Int) + 1)) = (bump c b).map nI := by
  induction c with
  | nil => intro b h; simp at h
  | cons x r ih => intro b h; cases b with
    | zero => simp [bump, nI]
    | succ b => simp at h; simp [bump, ih b h]
theorem bump_ge (c : List Nat) : ∀ b, c.length ≤ b → ((c.map nI) ++ List.replicate (b - c.length + 1) (T.int 0)).set b (T.int 1) = (bump c b).map nI := by
  induction c with
  | nil => intro b h; induction b with
    | zero => simp [bump, nI]
    | succ b ih => simp [bump, List.replicate_succ, nI] at ih ⊢; simpa [List.replicate_succ] using ih
  | cons x r ih => intro b h; cases b with
    | zero => simp at h
    | succ b => simp at h; simpa [bump] using ih b h
theorem tupOf_l {l : List T} (h : l.length ≤ lim) : tupOf (.lst l) = some (.tup l) := by simp [tupOf, h]
theorem mkT_n {σ : List T} {f : List T → Option (List T)} {l : List T} (h : f σ = some l) (h' : l.length ≤ lim) : mkT f σ = some (.tup l) := by unfold mkT; rw [h]; simp [h']
theorem mkL_n {σ : List T} {f : List T → Option (List T)} {l : List T} (h : f σ = some l) (h' : l.length ≤ lim) : mkL f σ = some (.lst l) := by unfold mkL; rw [h]; simp [h']
theorem bT_n {σ : List T} {f : List T → Option Bool} {b : Bool} (h : f σ = some b) : bT f σ = some (.bool b) := by unfold bT; rw [h]
theorem sSetA_n {σ : List T} {i j : Nat} {f : List T → Option T} {t : T} {l : List T} (h : f σ = some t) (hl : σ[i]? = some (.inst l)) (hj : l.length = j) (n : t ≠ .unb := by intro z; cases z) : sSetA i j f σ = some (.next (σ.set i (.inst (l ++ [t])))) := by
  unfold sSetA
  rw [h]
  cases t <;> first | exact absurd rfl n | simp [hl, hj]
theorem leT_1 (n : Nat) : leT (nI n) (.int 1) = some (Nat.ble n 1) := by
  simp only [leT, nI, Option.some.injEq]
  by_cases h : n ≤ 1
  · rw [Nat.ble_eq_true_of_le h]; simp; omega
  · have h1 : Nat.ble n 1 = false := by
      cases q : Nat.ble n 1 with
      | false => rfl
      | true => exact absurd (Nat.le_of_ble_eq_true q) h
    rw [h1]; simp; omega
/-- the state of __init__'s loop -/
noncomputable def iniS (I W x : T) (c : List Nat) (b n nt : Nat) : List T := [I, W, .str [32], .str [9], .lst (c.map nI), nI b, nI n, nI nt, x]
theorem ini_sp {I W : T} {c : List Nat} {b n nt : Nat} : b_W_init_1 (iniS I W (.str [32]) c b n nt) = some (.next (iniS I W (.str [32]) c (b + 1) (n + 1) nt)) := rfl
theorem str1_ne {x y : Nat} (h : x ≠ y) : eqT (.str [x]) (.str [y]) = some false := by simp [eqT, h]
theorem ini_no {I W : T} {c : List Nat} {b n nt x : Nat} (h : x ≠ 32) (h' : x ≠ 9) : b_W_init_1 (iniS I W (.str [x]) c b n nt) = some (.brk (iniS I W (.str [x]) c b n nt)) :=
  sSeq_1 (sIf_f (t2_n rfl rfl (str1_ne h)) (sSeq_1 (sIf_f (t2_n rfl rfl (str1_ne h')) rfl)))
theorem ini_tab {I W : T} {c : List Nat} {b n nt : Nat} (hb : b ≤ 1000) (hc : c.length ≤ 2000) : b_W_init_1 (iniS I W (.str [9]) c b n nt) = some (.next (iniS I W (.str [9]) (bump c b) 0 (n + 1) (nt + 1))) := by
  have hl : lim = 100000 := rfl
  have hlm : (c.map nI).length = c.length := List.length_map ..
  refine sSeq_1 (sIf_f rfl (sSeq_1 (sIf_t rfl ((sSeq_n rfl).trans ((sSeq_n rfl).trans ?_)))))
  by_cases h : b < c.length
  · refine (sSeq_n (sIf_f (t2_n (x := nI b) (y := nI c.length) rfl (e1_n rfl ((lenT_l (by omega)).trans (by rw [hlm]))) (geT_n.trans (by simp; omega))) rfl)).trans ?_
    refine (sSeq_n (sSetI_n (l := c.map nI) (j := b) (t := .int ((c[b] : Int) + 1)) (e2_n (x := nI c[b]) (e2_n (x := .lst (c.map nI)) (y := nI b) rfl rfl (itemT_l (by omega) (by simp [h]) (by intro z; cases z))) rfl rfl) rfl rfl (by omega) (by omega))).trans ?_
    refine (sSeq_n rfl).trans ?_
    rw [bump_lt c b h]
    rfl
  · have h0 : c.length ≤ b := by omega
    have hr : (List.replicate (b - c.length + 1) (T.int 0)).length = b - c.length + 1 := List.length_replicate ..
    refine (sSeq_n (σ' := iniS I W (.str [9]) c b (n + 1) (nt + 1) |>.set 4 (.lst (c.map nI ++ List.replicate (b - c.length + 1) (T.int 0)))) (sIf_t (t2_n (x := nI b) (y := nI c.length) rfl (e1_n rfl ((lenT_l (by omega)).trans (by rw [hlm]))) (geT_n.trans (by simp; omega))) (sSeq_1 (sSet_n (atoms_n (e2_n (x := .lst (c.map nI)) (y := .lst (List.replicate (b - c.length + 1) (T.int 0))) rfl (e2_n (x := .lst [.int 0]) (y := nI (b - c.length + 1)) rfl (e2_n (x := nI (b - c.length)) (y := nI 1) (e2_n (x := nI b) (y := nI c.length) rfl (e1_n rfl ((lenT_l (by omega)).trans (by rw [hlm]))) ?_) rfl rfl) ((mulT_l (by simp; omega) (by omega)).trans (by rw [repL_one]))) (addT_l (by omega))) (by rw [datL_append, datL_nI, datL_zero]; rfl)))))).trans ?_
    · simp only [subT, nI]; congr 2; omega
    · have hlen : (c.map nI ++ List.replicate (b - c.length + 1) (T.int 0)).length = b + 1 := by rw [List.length_append, hlm, hr]; omega
      refine (sSeq_n (sSetI_n (l := c.map nI ++ List.replicate (b - c.length + 1) (T.int 0)) (j := b) (t := .int 1) (e2_n (x := .int 0) (e2_n (x := .lst (c.map nI ++ List.replicate (b - c.length + 1) (T.int 0))) (y := nI b) rfl rfl (itemT_l (by omega) ?_ (by intro z; cases z))) rfl rfl) rfl rfl (by omega) (by omega))).trans ?_
      · rw [List.getElem?_append_right (by omega), hlm, List.getElem?_replicate]
        simp
      · refine (sSeq_n rfl).trans ?_
        rw [bump_ge c b h0]
        rfl
theorem ini_loop {I W : T} : ∀ (cs : List Nat) (x : T) (c : List Nat) (b n nt : Nat), b + cs.length ≤ 1000 → c.length ≤ 1001 → ∃ x', forR 8 b_W_init_1 (chars cs) (iniS I W x c b n nt) =
    some (.next (iniS I W x' (ini cs n nt b c).2.2.2 (ini cs n nt b c).2.2.1 (ini cs n nt b c).1 (ini cs n nt b c).2.1))
  | [], x, c, b, n, nt, _, _ => ⟨x, rfl⟩
  | ch :: cs, x, c, b, n, nt, h1, h2 => by
    simp only [List.length_cons] at h1
    by_cases h : ch = 32
    · subst h
      obtain ⟨x', ih⟩ := ini_loop cs (.str [32]) c (b + 1) (n + 1) nt (by omega) h2
      exact ⟨x', forR_n (by intro z; cases z) ini_sp ih⟩
    · have hb : Nat.beq ch 32 = false := by
        cases q : Nat.beq ch 32 with
        | false => rfl
        | true => exact absurd (Nat.eq_of_beq_eq_true q) h
      by_cases h' : ch = 9
      · subst h'
        have hlen := bump_len c b
        obtain ⟨x', ih⟩ := ini_loop cs (.str [9]) (bump c b) 0 (n + 1) (nt + 1) (by omega) (by omega)
        exact ⟨x', forR_n (by intro z; cases z) (ini_tab (by omega) (by omega)) ih⟩
      · have hb' : Nat.beq ch 9 = false := by
          cases q : Nat.beq ch 9 with
          | false => rfl
          | true => exact absurd (Nat.eq_of_beq_eq_true q) h'
        refine ⟨.str [ch], ?_⟩
        simp only [ini, hb, hb']
        exact forR_b (by intro z; cases z) (ini_no h h')
/-- an instance of the class, as its signs tell -/
noncomputable def mkW (cs : List Nat) : T :=
  match ini cs 0 0 0 [] with
  | (n, nt, b, c) => .inst [.str cs, nI n, nI nt, .tup [.tup (c.map nI), nI b], .bool (Nat.ble c.length 1)]
noncomputable def N_W_init : List T → Option T
  | [.str cs] => (match Nat.ble cs.length 1000 with
    | true => some (mkW cs)
    | false => F_W_init [.str cs])
  | ts => F_W_init ts
theorem ini_len : ∀ (cs : List Nat) (n nt b : Nat) (c : List Nat), b + cs.length ≤ 1000 → c.length ≤ 1001 → (ini cs n nt b c).2.2.2.length ≤ 1001
  | [], n, nt, b, c, _, h => h
  | ch :: cs, n, nt, b, c, h1, h2 => by
    simp only [List.length_cons] at h1
    have hlen := bump_len c b
    unfold ini
    split
    · exact ini_len cs _ _ _ _ (by omega) h2
    · split
      · exact ini_len cs _ _ _ _ (by omega) (by omega)
      · exact h2
theorem N_W_init_eq : F_W_init = N_W_init := by
  funext ts
  unfold N_W_init
  split
  · rename_i cs
    split
    · rename_i hle
      have hle : cs.length ≤ 1000 := Nat.le_of_ble_eq_true hle
      obtain ⟨x', hlo⟩ := ini_loop (I := .inst [.str cs]) (W := .str cs) cs .unb [] 0 0 0 (by omega) (by simp)
      have hcl := ini_len cs 0 0 0 [] (by omega) (by simp)
      unfold mkW
      generalize ini cs 0 0 0 [] = q at hlo hcl ⊢
      obtain ⟨n, nt, b, c⟩ := q
      have hl : lim = 100000 := rfl
      have hcl : c.length ≤ 1001 := hcl
      dsimp only at hlo
      have hlm : (c.map nI).length = c.length := List.length_map ..
      have key : r_W_init_0 ((.inst [] :: [.str cs]) ++ unbs 7) = some (.next [.inst [.str cs, nI n, nI nt, .tup [.tup (c.map nI), nI b], .bool (Nat.ble c.length 1)], .str cs, .str [32], .str [9], .lst (c.map nI), nI b, nI n, nI nt, x']) := by
        refine (sSeq_n (σ' := [.inst [.str cs], .str cs, .unb, .unb, .unb, .unb, .unb, .unb, .unb]) rfl).trans ?_
        refine (sSeq_n (σ' := [.inst [.str cs], .str cs, .str [32], .str [9], .unb, .unb, .unb, .unb, .unb]) rfl).trans ?_
        refine (sSeq_n (σ' := [.inst [.str cs], .str cs, .str [32], .str [9], .lst [], .unb, .unb, .unb, .unb]) rfl).trans ?_
        refine (sSeq_n (σ' := iniS (.inst [.str cs]) (.str cs) .unb [] 0 0 0) rfl).trans ?_
        refine (sSeq_n (sFor_n rfl rfl hlo)).trans ?_
        refine (sSeq_n rfl).trans ((sSeq_n rfl).trans ?_)
        refine sSeq_s (sSetA_n (t := .tup [.tup (c.map nI), nI b]) (l := [.str cs, nI n, nI nt]) (mkT_n (eLc_n (e1_n (x := .lst (c.map nI)) rfl (tupOf_l (by omega))) rfl) (by simp [lim])) rfl rfl) ?_
        refine sSeq_s (sSetA_n (t := .bool (Nat.ble c.length 1)) (l := [.str cs, nI n, nI nt, .tup [.tup (c.map nI), nI b]]) (bT_n (t2_n (e1_n (x := .lst (c.map nI)) rfl (lenT_l (by omega))) rfl (by rw [hlm]; exact leT_1 _))) rfl rfl) ?_
        rfl
      unfold F_W_init clsR
      simp only [List.length_cons, List.length_nil, Nat.zero_add, if_true, key]
      rfl
    · rfl
  · rfl
end Mine
end
noncomputable section
set_option Elab.async false
set_option linter.unusedVariables false
set_option maxRecDepth 100000
namespace Mine
open PySem PySem.W PySem.Calls PyProof.Rows
theorem small_nat {n : Nat} (h : n < 1073741824) : small (n : Int) = true := by simp [small, h]
theorem addT_n {a b : Nat} : addT (nI a) (nI b) = some (nI (a + b)) := rfl
theorem mulT_n {a b : Nat} (h : b < 1073741824) : mulT (nI a) (nI b) = some (nI (a * b)) := by
  simp only [mulT, nI, small_nat h, if_true]; rfl
theorem divT_n {a b : Nat} (h : b < 1073741824) (h' : b ≠ 0) : divT (nI a) (nI b) = some (nI (a / b)) := by
  have h2 : ((b : Int) != 0) = true := by simp; omega
  simp only [divT, nI, small_nat h, h2, Bool.and_self, if_true]
  rw [Int.fdiv_eq_ediv_of_nonneg _ (by omega)]
  rfl
theorem max2_n {a b : Nat} : max2 (nI a) (nI b) = some (nI (max a b)) := by
  simp only [max2, nI]
  congr 2
  split <;> omega
/-- an instance, typed -/
noncomputable def tW (r : T) (n nt : Nat) (c : List Nat) (b : Nat) (s : Bool) : T := .inst [r, nI n, nI nt, .tup [.tup (c.map nI), nI b], .bool s]
structure OkC (c : List Nat) (nt : Nat) : Prop where
  len : c.length ≤ 1001
  all : ∀ x ∈ c, x ≤ 1000
  nt : nt ≤ 1000
noncomputable def levA (ts : Nat) : Nat → Nat → List Nat → Nat
  | i, il, [] => il
  | i, il, x :: r => levA ts (i + 1) (il + i / ts * x) r
noncomputable def lev (c : List Nat) (nt b ts : Nat) : Nat := b + ts * (levA ts ts 0 (c.drop ts) + nt)
theorem levA_le (ts : Nat) : ∀ (l : List Nat) (i il : Nat), (∀ x ∈ l, x ≤ 1000) → i + l.length ≤ 1001 ∨ l = [] → levA ts i il l ≤ il + l.length * 1001000
  | [], i, il, _, _ => by simp [levA]
  | x :: r, i, il, h, hi => by
    have hi : i + (r.length + 1) ≤ 1001 := by
      rcases hi with h | h
      · simpa using h
      · cases h
    have hx := h x (.head _)
    have ih := levA_le ts r (i + 1) (il + i / ts * x) (fun y hy => h y (.tail _ hy)) (.inl (by omega))
    have h1 : i / ts ≤ i := Nat.div_le_self ..
    have h2 : i / ts * x ≤ 1001 * 1000 := Nat.mul_le_mul (by omega) hx
    simp only [levA, List.length_cons]
    omega
theorem indent_loop {W S B : T} {c : List Nat} {ts : Nat} (h0 : ts ≠ 0) (h1 : ts ≤ 2000) (hc : ∀ x ∈ c, x ≤ 1000) (hl : c.length ≤ 1001) : ∀ (k i il : Nat) (x : T), i + k = c.length →
    ∃ x', forR 5 b_W_indent_level_1 (rngL (i : Int) k) [W, nI ts, .tup (c.map nI), B, nI il, x] = some (.next [W, nI ts, .tup (c.map nI), B, nI (levA ts i il (c.drop i)), x'])
  | 0, i, il, x, e => ⟨x, by rw [List.drop_eq_nil_of_le (by omega)]; rfl⟩
  | k + 1, i, il, x, e => by
    have hi : i < c.length := by omega
    obtain ⟨x', ih⟩ := indent_loop (W := W) (S := S) (B := B) h0 h1 hc hl k (i + 1) (il + i / ts * c[i]) (nI i) (by omega)
    refine ⟨x', ?_⟩
    rw [rngL_cons, List.drop_eq_getElem_cons hi]
    have hci := hc c[i] (List.getElem_mem hi)
    have : lim = 100000 := rfl
    refine forR_n (by intro z; cases z) ?_ ih
    exact sSeq_1 (sSet_n (e2_n (x := nI il) rfl (e2_n (x := nI (i / ts)) (y := nI c[i]) (e2_n (x := nI i) (y := nI ts) rfl rfl (divT_n (by omega) h0)) (e2_n (x := .tup (c.map nI)) (y := nI i) rfl rfl (itemT_t (by omega) (by simp [hi]) (by intro z; cases z))) (mulT_n (by omega))) addT_n) (by intro z; cases z))
theorem indent_eq {r : T} {n nt : Nat} {c : List Nat} {b : Nat} {s : Bool} {ts : Nat} (ok : OkC c nt) (h0 : ts ≠ 0) (h1 : ts ≤ 2000) : F_W_indent_level [tW r n nt c b s, nI ts] = some (nI (lev c nt b ts)) := by
  have hl := ok.len
  have hnt := ok.nt
  have hlim : lim = 100000 := rfl
  have hlm : (c.map nI).length = c.length := List.length_map ..
  have hloop : ∃ x', forR 5 b_W_indent_level_1 (rngL (ts : Int) (c.length - ts)) [tW r n nt c b s, nI ts, .tup (c.map nI), nI b, nI 0, .unb] = some (.next [tW r n nt c b s, nI ts, .tup (c.map nI), nI b, nI (levA ts ts 0 (c.drop ts)), x']) := by
    by_cases h : ts ≤ c.length
    · exact indent_loop (S := .none) h0 h1 ok.all hl (c.length - ts) ts 0 .unb (by omega)
    · refine ⟨.unb, ?_⟩
      rw [show c.length - ts = 0 by omega, List.drop_eq_nil_of_le (by omega)]
      rfl
  obtain ⟨x', hloop⟩ := hloop
  have hle : levA ts ts 0 (c.drop ts) ≤ 0 + (c.drop ts).length * 1001000 := by
    refine levA_le ts _ _ _ (fun x hx => ok.all x (List.mem_of_mem_drop hx)) ?_
    by_cases h : ts ≤ c.length
    · left; rw [List.length_drop]; omega
    · right; exact List.drop_eq_nil_of_le (by omega)
  have hle2 : (c.drop ts).length ≤ 1001 := by rw [List.length_drop]; omega
  have key : r_W_indent_level_0 ([tW r n nt c b s, nI ts] ++ unbs 4) = some (.ret (nI (lev c nt b ts))) := by
    refine sSeq_s (σ' := [tW r n nt c b s, nI ts, .tup (c.map nI), nI b, .unb, .unb]) rfl ?_
    refine sSeq_s (σ' := [tW r n nt c b s, nI ts, .tup (c.map nI), nI b, nI 0, .unb]) rfl ?_
    refine sSeq_s (sFor_n (t := .rng (ts : Int) (c.length : Int)) (e2_n (x := nI ts) (y := nI c.length) rfl (e1_n (x := .tup (c.map nI)) rfl ((lenT_t (by omega)).trans (by rw [hlm]))) rfl) (iterT_rng (by omega) (by omega)) hloop) ?_
    exact sSeq_1 (sRet_n (e2_n (x := nI b) rfl (e2_n (x := nI ts) rfl (e2_n (x := nI (levA ts ts 0 (c.drop ts))) (y := nI nt) rfl rfl addT_n) (mulT_n (by omega))) addT_n))
  unfold F_W_indent_level fnR
  simp only [List.length_cons, List.length_nil, Nat.zero_add, if_true, key]
theorem longest_eq {r : T} {n nt : Nat} {c : List Nat} {b : Nat} {s : Bool} (hl : c.length ≤ 1001) : F_W_longest_run_of_spaces [tW r n nt c b s] = some (nI (max (c.length - 1) b)) := by
  have hlim : lim = 100000 := rfl
  have hlm : (c.map nI).length = c.length := List.length_map ..
  have key : r_W_longest_run_of_spaces_0 ([tW r n nt c b s] ++ unbs 2) = some (.ret (nI (max (c.length - 1) b))) := by
    refine sSeq_s (σ' := [tW r n nt c b s, .tup (c.map nI), nI b]) rfl ?_
    refine sSeq_1 (sRet_n (e2_n (x := .int ((c.length : Int) - 1)) (y := nI b) (e2_n (x := nI c.length) (y := nI 1) (e1_n (x := .tup (c.map nI)) rfl ((lenT_t (by omega)).trans (by rw [hlm]))) rfl rfl) rfl ?_))
    simp only [max2, nI]; congr 2; split <;> omega
  unfold F_W_longest_run_of_spaces fnR
  simp only [List.length_cons, List.length_nil, Nat.zero_add, if_true, key]
end Mine
end
noncomputable section
set_option Elab.async false
set_option linter.unusedVariables false
set_option maxRecDepth 100000
namespace Mine
open PySem PySem.W PySem.Calls PyProof.Rows
noncomputable def witL (p : Nat → Nat → Bool) (f g : Nat → Nat) : Nat → Nat → List T
  | ts, 0 => []
  | ts, k + 1 => (match p (f ts) (g ts) with
    | true => .tup [nI ts, nI (f ts), nI (g ts)] :: witL p f g (ts + 1) k
    | false => witL p f g (ts + 1) k)
noncomputable def neB (a b : Nat) : Bool := !Nat.beq a b
theorem neT_b {a b : Nat} : neT (nI a) (nI b) = some (neB a b) := by
  rw [neT_n]
  congr 1
  unfold neB
  congr 1
  by_cases h : a = b
  · subst h; simp
  · have : Nat.beq a b = false := by
      cases q : Nat.beq a b with
      | false => rfl
      | true => exact absurd (Nat.eq_of_beq_eq_true q) h
    rw [this]; simp [h]
section
variable {r r' : T} {n nt n' nt' : Nat} {c c' : List Nat} {b b' : Nat} {s s' : Bool}
theorem neq_loop (ok : OkC c nt) (ok' : OkC c' nt') : ∀ (k ts : Nat) (acc : List T) (N x : T), ts ≠ 0 → ts + k ≤ 2000 → acc.length + k ≤ 5000 → ∃ x', forR 4 b_W_not_equal_witness_1 (rngL (ts : Int) k) [tW r n nt c b s, tW r' n' nt' c' b' s', N, .lst acc, x] =
    some (.next [tW r n nt c b s, tW r' n' nt' c' b' s', N, .lst (acc ++ witL neB (lev c nt b) (lev c' nt' b') ts k), x'])
  | 0, ts, acc, N, x, _, _, _ => ⟨x, by simp [rngL, forR, witL]⟩
  | k + 1, ts, acc, N, x, h0, h1, h2 => by
    have cA : ∀ L : T, eCall F_W_indent_level (eLc (e1 instT (eVar 0)) (eLc (eVar 4) eL0)) [tW r n nt c b s, tW r' n' nt' c' b' s', N, L, nI ts] = some (nI (lev c nt b ts)) := fun L => eCall_n (eLc_n (e1_n rfl rfl) (eLc_n rfl rfl)) (indent_eq ok h0 (by omega))
    have cB : ∀ L : T, eCall F_W_indent_level (eLc (e1 instT (eVar 1)) (eLc (eVar 4) eL0)) [tW r n nt c b s, tW r' n' nt' c' b' s', N, L, nI ts] = some (nI (lev c' nt' b' ts)) := fun L => eCall_n (eLc_n (e1_n rfl rfl) (eLc_n rfl rfl)) (indent_eq ok' h0 (by omega))
    have hl : lim = 100000 := rfl
    rw [rngL_cons]
    unfold witL
    cases q : neB (lev c nt b ts) (lev c' nt' b' ts) with
    | true =>
      obtain ⟨x', ih⟩ := neq_loop ok ok' k (ts + 1) (acc ++ [.tup [nI ts, nI (lev c nt b ts), nI (lev c' nt' b' ts)]]) N (nI ts) (by omega) (by omega) (by simp; omega)
      refine ⟨x', ?_⟩
      rw [List.append_assoc] at ih
      refine forR_n (by intro z; cases z) ?_ ih
      exact sSeq_1 (sIf_t (t2_n (cA _) (cB _) (neT_b.trans (by rw [q]))) (sSeq_1 (sApp_n (l := acc) (mkT_n (eLc_n rfl (eLc_n (cA _) (eLc_n (cB _) rfl))) (by simp [lim])) rfl (by omega))))
    | false =>
      obtain ⟨x', ih⟩ := neq_loop ok ok' k (ts + 1) acc N (nI ts) (by omega) (by omega) (by omega)
      refine ⟨x', ?_⟩
      refine forR_n (by intro z; cases z) ?_ ih
      exact sSeq_1 (sIf_f (t2_n (cA _) (cB _) (neT_b.trans (by rw [q]))) rfl)
/-- the greatest tab size that counts -/
noncomputable def topN (c c' : List Nat) (b b' : Nat) : Nat := max (max (c.length - 1) b) (max (c'.length - 1) b') + 1
theorem topN_le {c c' : List Nat} {b b' : Nat} (h : c.length ≤ 1001) (h' : c'.length ≤ 1001) (hb : b ≤ 1000) (hb' : b' ≤ 1000) : topN c c' b b' ≤ 1002 :=
  Nat.succ_le_succ (Nat.le_trans (Nat.max_le.mpr ⟨Nat.max_le.mpr ⟨Nat.sub_le_of_le_add h, hb⟩, Nat.max_le.mpr ⟨Nat.sub_le_of_le_add h', hb'⟩⟩) (by decide : 1000 ≤ 1001))
theorem top_eq (ok : OkC c nt) (ok' : OkC c' nt') {σ : List T} (h0 : σ[0]? = some (tW r n nt c b s)) (h1 : σ[1]? = some (tW r' n' nt' c' b' s')) :
    e2 addT (e2 max2 (eCall F_W_longest_run_of_spaces (eLc (e1 instT (eVar 0)) eL0)) (eCall F_W_longest_run_of_spaces (eLc (e1 instT (eVar 1)) eL0))) (eK (.int 1)) σ = some (nI (topN c c' b b')) := by
  have v0 : eVar 0 σ = some (tW r n nt c b s) := by unfold eVar; rw [h0]; rfl
  have v1 : eVar 1 σ = some (tW r' n' nt' c' b' s') := by unfold eVar; rw [h1]; rfl
  exact e2_n (e2_n (eCall_n (eLc_n (e1_n v0 rfl) rfl) (longest_eq ok.len)) (eCall_n (eLc_n (e1_n v1 rfl) rfl) (longest_eq ok'.len)) max2_n) rfl rfl
theorem neq_eq (ok : OkC c nt) (ok' : OkC c' nt') (hb : b ≤ 1000) (hb' : b' ≤ 1000) : F_W_not_equal_witness [tW r n nt c b s, tW r' n' nt' c' b' s'] = some (.lst (witL neB (lev c nt b) (lev c' nt' b') 1 (topN c c' b b'))) := by
  have hl : lim = 100000 := rfl
  have h1 := ok.len
  have h2 := ok'.len
  have ht : topN c c' b b' ≤ 1002 := topN_le h1 h2 hb hb'
  obtain ⟨x', hlo⟩ := neq_loop (r := r) (r' := r') (n := n) (n' := n') (b := b) (b' := b') (s := s) (s' := s') ok ok' (topN c c' b b') 1 [] (nI (topN c c' b b')) .unb (by omega) (by omega) (by simp; omega)
  have key : r_W_not_equal_witness_0 ([tW r n nt c b s, tW r' n' nt' c' b' s'] ++ unbs 3) = some (.ret (.lst (witL neB (lev c nt b) (lev c' nt' b') 1 (topN c c' b b')))) := by
    refine sSeq_s (sSet_n (top_eq ok ok' rfl rfl) (by intro z; cases z)) ?_
    refine sSeq_s (σ' := [tW r n nt c b s, tW r' n' nt' c' b' s', nI (topN c c' b b'), .lst [], .unb]) rfl ?_
    refine sSeq_s (sFor_n (t := .rng ((1 : Nat) : Int) ((topN c c' b b' + 1 : Nat) : Int)) rfl ((iterT_rng (by omega) (by omega)).trans (by rw [Nat.add_sub_cancel])) hlo) ?_
    rfl
  unfold F_W_not_equal_witness fnR
  simp only [List.length_cons, List.length_nil, Nat.zero_add, Nat.reduceAdd, if_true, key]
end
end Mine
end
noncomputable section
set_option Elab.async false
set_option linter.unusedVariables false
set_option maxRecDepth 100000
namespace Mine
open PySem PySem.W PySem.Calls PyProof.Rows
noncomputable def natsB : List T → Option (List Nat)
  | [] => some []
  | .int (.ofNat x) :: r => (match Nat.ble x 1000 with
    | true => (match natsB r with
      | some l => some (x :: l)
      | none => none)
    | false => none)
  | _ => none
theorem natsB_some : ∀ {l : List T} {c : List Nat}, natsB l = some c → l = c.map nI ∧ ∀ x ∈ c, x ≤ 1000
  | [], c, h => by simp only [natsB] at h; cases h; exact ⟨rfl, fun _ h => (nomatch h)⟩
  | t :: r, c, h => by
    unfold natsB at h
    split at h
    · rename_i q; cases q
    · rename_i x r' q
      cases q
      split at h
      · rename_i hx
        split at h
        · rename_i l e
          cases h
          obtain ⟨h1, h2⟩ := natsB_some e
          refine ⟨by rw [List.map_cons, ← h1]; rfl, fun y hy => ?_⟩
          rcases List.mem_cons.mp hy with rfl | hy
          · exact Nat.le_of_ble_eq_true hx
          · exact h2 y hy
        · cases h
      · cases h
    · cases h
noncomputable def unN : T → Option Nat
  | .int (.ofNat n) => some n
  | _ => none
theorem unN_some {t : T} {n : Nat} (h : unN t = some n) : t = nI n := by
  unfold unN at h
  split at h
  · cases h; rfl
  · cases h
noncomputable def unTu : T → Option (T × T)
  | .tup [a, b] => some (a, b)
  | _ => none
theorem unTu_some {t : T} {p : T × T} (h : unTu t = some p) : t = .tup [p.1, p.2] := by
  unfold unTu at h
  split at h
  · cases h; rfl
  · cases h
noncomputable def unTl : T → Option (List T)
  | .tup l => some l
  | _ => none
theorem unTl_some {t : T} {l : List T} (h : unTl t = some l) : t = .tup l := by
  unfold unTl at h
  split at h
  · cases h; rfl
  · cases h
noncomputable def unBo : T → Option Bool
  | .bool l => some l
  | _ => none
theorem unBo_some {t : T} {l : Bool} (h : unBo t = some l) : t = .bool l := by
  unfold unBo at h
  split at h
  · cases h; rfl
  · cases h
noncomputable def unIn : T → Option (List T)
  | .inst l => some l
  | _ => none
theorem unIn_some {t : T} {l : List T} (h : unIn t = some l) : t = .inst l := by
  unfold unIn at h
  split at h
  · cases h; rfl
  · cases h
noncomputable def unWc (r : T) (n nt b : Nat) (s : Bool) (c : List Nat) : Option (T × Nat × Nat × List Nat × Nat × Bool) := match Nat.ble c.length 1001 && (Nat.ble nt 1000 && Nat.ble b 1000) with
  | true => some (r, n, nt, c, b, s)
  | false => none
noncomputable def unW5 : List T → Option (T × Nat × Nat × List Nat × Nat × Bool)
  | [r, n, nt, p, s] => (unN n).bind fun n => (unN nt).bind fun nt => (unTu p).bind fun q => (unTl q.1).bind fun l => (unN q.2).bind fun b => (unBo s).bind fun s => (natsB l).bind fun c => unWc r n nt b s c
  | _ => none
noncomputable def unW (t : T) : Option (T × Nat × Nat × List Nat × Nat × Bool) := (unIn t).bind unW5
theorem unW_some {t r : T} {n nt b : Nat} {c : List Nat} {s : Bool} (h : unW t = some (r, n, nt, c, b, s)) : t = tW r n nt c b s ∧ OkC c nt ∧ b ≤ 1000 := by
  obtain ⟨l, q, h⟩ := Option.bind_eq_some_iff.mp h
  rw [unIn_some q]
  clear q
  match l, h with
  | [r', n', nt', p', s'], h =>
    obtain ⟨_, q1, h⟩ := Option.bind_eq_some_iff.mp h
    obtain ⟨_, q2, h⟩ := Option.bind_eq_some_iff.mp h
    obtain ⟨w, q3, h⟩ := Option.bind_eq_some_iff.mp h
    obtain ⟨l, q4, h⟩ := Option.bind_eq_some_iff.mp h
    obtain ⟨_, q5, h⟩ := Option.bind_eq_some_iff.mp h
    obtain ⟨_, q6, h⟩ := Option.bind_eq_some_iff.mp h
    obtain ⟨c', q7, h⟩ := Option.bind_eq_some_iff.mp h
    obtain ⟨h1, h2⟩ := natsB_some q7
    rw [unN_some q1, unN_some q2, unTu_some q3, unTl_some q4, unN_some q5, unBo_some q6, h1]
    clear q1 q2 q3 q4 q5 q6 q7 h1
    unfold unWc at h
    split at h
    · rename_i q8
      cases h
      simp only [Bool.and_eq_true] at q8
      exact ⟨rfl, ⟨Nat.le_of_ble_eq_true q8.1, h2, Nat.le_of_ble_eq_true q8.2.1⟩, Nat.le_of_ble_eq_true q8.2.2⟩
    · cases h
  | [], h => cases h
  | [_], h => cases h
  | [_, _], h => cases h
  | [_, _, _], h => cases h
  | [_, _, _, _], h => cases h
  | _ :: _ :: _ :: _ :: _ :: _ :: _, h => cases h
section
variable {r r' : T} {n nt n' nt' : Nat} {c c' : List Nat} {b b' : Nat} {s s' : Bool}
end
noncomputable def N_W_not_equal_witness : List T → Option T
  | [x, y] => (match unW x with
    | some (_, _, nt, c, b, _) => (match unW y with
      | some (_, _, nt', c', b', _) => some (.lst (witL neB (lev c nt b) (lev c' nt' b') 1 (topN c c' b b')))
      | none => F_W_not_equal_witness [x, y])
    | none => F_W_not_equal_witness [x, y])
  | ts => F_W_not_equal_witness ts
theorem N_W_not_equal_witness_eq : F_W_not_equal_witness = N_W_not_equal_witness := by
  funext ts
  unfold N_W_not_equal_witness
  split
  · split
    · rename_i e
      split
      · rename_i e'
        obtain ⟨rfl, o, h⟩ := unW_some e
        obtain ⟨rfl, o', h'⟩ := unW_some e'
        exact neq_eq o o' h h'
      · rfl
    · rfl
  · rfl
end Mine
end
noncomputable section
set_option Elab.async false
set_option linter.unusedVariables false
set_option maxRecDepth 100000
namespace Mine
open PySem PySem.W PySem.Calls PyProof.Rows
noncomputable def N_W_indent_level : List T → Option T
  | [x, .int (.ofNat ts)] => (match Nat.ble 1 ts && Nat.ble ts 2000 with
    | true => (match unW x with
      | some (_, _, nt, c, b, _) => some (nI (lev c nt b ts))
      | none => F_W_indent_level [x, .int (.ofNat ts)])
    | false => F_W_indent_level [x, .int (.ofNat ts)])
  | ts => F_W_indent_level ts
theorem N_W_indent_level_eq : F_W_indent_level = N_W_indent_level := by
  funext ts
  unfold N_W_indent_level
  split
  · split
    · rename_i q
      simp only [Bool.and_eq_true] at q
      have h1 := Nat.le_of_ble_eq_true q.1
      have h2 := Nat.le_of_ble_eq_true q.2
      split
      · rename_i e
        obtain ⟨rfl, o, h⟩ := unW_some e
        exact indent_eq o (by omega) h2
      · rfl
    · rfl
  · rfl
end Mine
end
noncomputable section
set_option Elab.async false
set_option linter.unusedVariables false
set_option maxRecDepth 100000
namespace Mine
open PySem PySem.W PySem.Calls PyProof.Rows
/-- the value that the while loop finds -/
noncomputable def wh (p t : List Nat) (x : Nat) : Nat → Nat → Nat
  | 0, _ => 0
  | f + 1, k => (match Nat.beq x (p.getD k 0) with
    | true => k + 1
    | false => (match k with
      | 0 => 0
      | j + 1 => wh p t x f (t.getD j 0)))
noncomputable def ovL (p : List Nat) : Nat → Nat → List Nat → List Nat
  | 0, _, t => t
  | n + 1, i, t => ovL p n (i + 1) (t.set i (wh p t (p.getD i 0) 40 (t.getD (i - 1) 0)))
noncomputable def ov (p : List Nat) : List Nat := ovL p (p.length - 1) 1 (List.replicate p.length 0)
theorem eVar_n {i : Nat} {σ : List T} {t : T} (h : σ[i]? = some t) (n : t ≠ .unb := by intro z; cases z) : eVar i σ = some t := by
  unfold eVar; rw [h]; cases t <;> first | exact absurd rfl n | rfl
section
variable {P : T} {el : Nat → T} {p : List Nat}
end
end Mine
end
noncomputable section
set_option Elab.async false
set_option linter.unusedVariables false
set_option maxRecDepth 100000
namespace Mine
open PySem PySem.W PySem.Calls PyProof.Rows
theorem g1_n {i : Nat} {t : T} {σ : List T} (n : t ≠ .unb) : g1 i t σ = some (σ.set i t) := by
  cases t <;> first | exact absurd rfl n | rfl
/-- the numbers from a on, n of them -/
theorem rngL_map (n : Nat) : ∀ a : Nat, rngL (a : Int) n = (List.range' a n).map nI := by
  induction n with
  | zero => intro a; rfl
  | succ n ih => intro a; rw [rngL_cons, ih (a + 1)]; rfl
theorem compR_nf {α : Type} {ι : α → T} {i : Nat} {ft : List T → Option Bool} {fe : List T → Option T} (p : α → Bool) (g : α → T) (σ : List T) (hι : ∀ a, ι a ≠ .unb) : ∀ (l : List α) (σ' : List T), (∀ t, σ'.set i t = σ.set i t) → (∀ k ∈ l, ft (σ.set i (ι k)) = some (p k) ∧ (p k = true → fe (σ.set i (ι k)) = some (g k))) →
    compR (g1 i) ft fe (l.map ι) σ' = some ((l.filter p).map g)
  | [], σ', _, _ => rfl
  | k :: r, σ', h, hl => by
    obtain ⟨h1, h2⟩ := hl k (.head _)
    have ih := compR_nf p g σ hι r (σ.set i (ι k)) (fun u => by rw [List.set_set]) fun u hu => hl u (.tail _ hu)
    rw [List.map_cons]
    unfold compR
    rw [g1_n (hι k), h (ι k)]
    dsimp only
    rw [h1]
    cases q : p k with
    | true => simp only [h2 q, ih, List.filter_cons, q, if_true, List.map_cons]
    | false => simp only [ih, List.filter_cons, q, Bool.false_eq_true, if_false]
theorem eComp_nf {α : Type} {ι : α → T} {i : Nat} {fi : List T → Option T} {ft : List T → Option Bool} {fe : List T → Option T} {σ : List T} {x : T} {l : List α} (p : α → Bool) (g : α → T) (hι : ∀ a, ι a ≠ .unb) (h : fi σ = some x) (hx : iterT x = some (l.map ι)) (hl : l.length ≤ lim)
    (hb : ∀ k ∈ l, ft (σ.set i (ι k)) = some (p k) ∧ (p k = true → fe (σ.set i (ι k)) = some (g k))) : eComp [i] fi (g1 i) ft fe σ = some (.lst ((l.filter p).map g)) := by
  unfold eComp
  rw [h]
  dsimp only
  rw [hx]
  simp only [List.length_map, hl, if_true]
  rw [compR_nf p g σ hι l (clr [i] σ) (fun t => by simp only [clr]; rw [List.set_set]) hb]
theorem eComp_nm {α : Type} {ι : α → T} {i : Nat} {fi : List T → Option T} {fe : List T → Option T} {σ : List T} {x : T} {l : List α} (g : α → T) (hι : ∀ a, ι a ≠ .unb) (h : fi σ = some x) (hx : iterT x = some (l.map ι)) (hl : l.length ≤ lim)
    (hb : ∀ k ∈ l, fe (σ.set i (ι k)) = some (g k)) : eComp [i] fi (g1 i) tT fe σ = some (.lst (l.map g)) := by
  have := eComp_nf (ft := tT) (fe := fe) (i := i) (σ := σ) (fun _ => true) g hι h hx hl fun t ht => ⟨rfl, fun _ => hb t ht⟩
  rwa [List.filter_eq_self.mpr (by simp)] at this
theorem nI_ne (n : Nat) : nI n ≠ .unb := by intro z; cases z
theorem iterT_rngm {a b : Nat} (ha : a ≤ lim) (hb : b ≤ lim) : iterT (.rng (a : Int) (b : Int)) = some ((List.range' a (b - a)).map nI) := by rw [iterT_rng ha hb, rngL_map]
end Mine
end
noncomputable section
set_option Elab.async false
set_option linter.unusedVariables false
set_option maxRecDepth 100000
namespace Mine
open PySem PySem.W PySem.Calls PyProof.Rows
theorem N_init_n {cs : List Nat} (h : cs.length ≤ 1000) : N_W_init [.str cs] = some (mkW cs) := by simp only [N_W_init, Nat.ble_eq_true_of_le h]
theorem subT_n {a b : Nat} (h : b ≤ a) : subT (nI a) (nI b) = some (nI (a - b)) := by simp only [subT, nI]; congr 2; omega
theorem mulT_s {l : List Nat} {n : Nat} (h : l.length * n ≤ 1000) (h' : n ≤ 1000) : mulT (.str l) (nI n) = some (.str (repL l n)) := by
  have hl : lim = 100000 := rfl
  have h2 : (n : Int) ≤ (lim : Int) ∧ l.length * (n : Int).toNat ≤ lim ∧ -(lim : Int) ≤ (n : Int) := ⟨by omega, by simp; omega, by omega⟩
  simp only [mulT, nI, h2]; simp
theorem addT_s {l m : List Nat} (h : l.length + m.length ≤ lim) : addT (.str l) (.str m) = some (.str (l ++ m)) := by simp [addT, h]
noncomputable def sumN : List Nat → Nat
  | [] => 0
  | a :: r => a + sumN r
theorem modT_int {a : Int} {b : Nat} (h : b ≠ 0) : modT (.int a) (nI b) = some (nI (a % b).toNat) := by
  have h2 : ((b : Int) != 0) = true := by simp; omega
  have h3 : 0 ≤ a % (b : Int) := Int.emod_nonneg _ (by omega)
  simp only [modT, nI, h2, if_true]
  rw [Int.fmod_eq_emod_of_nonneg _ (by omega)]
  congr 2; omega
theorem divT_int {a : Int} {b : Nat} (h : b < 1073741824) (h' : b ≠ 0) : divT (.int a) (nI b) = some (.int (a / b)) := by
  have h2 : ((b : Int) != 0) = true := by simp; omega
  simp only [divT, nI, small_nat h, h2, Bool.and_self, if_true]
  rw [Int.fdiv_eq_ediv_of_nonneg _ (by omega)]
theorem ltT_n {a b : Nat} : ltT (nI a) (nI b) = some (decide (a < b)) := by simp [ltT, nI]
theorem teqL_nl : ∀ (l m : List Nat), teqL (l.map nI) (m.map nI) = decide (l = m)
  | [], [] => by simp [teqL]
  | [], y :: m => by simp [teqL]
  | x :: l, [] => by simp [teqL]
  | x :: l, y :: m => by
    simp only [List.map_cons, teqL, teqL_nl l m, nI, teq]
    by_cases h : x = y
    · subst h; simp
    · have : ¬ ((x : Int) = (y : Int)) := by omega
      simp [h, this]
theorem neT_nl (l m : List Nat) : neT (.lst (l.map nI)) (.lst (m.map nI)) = some (!decide (l = m)) := by
  have h : dat (.lst (l.map nI)) 6 = true := by simp only [dat]; exact datL_nI _ _
  have h' : dat (.lst (m.map nI)) 6 = true := by simp only [dat]; exact datL_nI _ _
  simp only [neT, h, h', Bool.and_self, if_true, teq, teqL_nl]
/-- the text of runs of blanks, a tab behind each -/
noncomputable def leadS : List Nat → List Nat
  | [] => []
  | r :: rs => repL [32] r ++ 9 :: leadS rs
noncomputable def bumps : List Nat → List Nat → List Nat
  | c, [] => c
  | c, r :: rs => bumps (bump c r) rs
/-- a text that stops the count -/
noncomputable def stopB : List Nat → Bool
  | [] => true
  | x :: _ => !Nat.beq x 32 && !Nat.beq x 9
theorem ini_blanks (rest : List Nat) : ∀ (r n nt b : Nat) (c : List Nat), ini (repL [32] r ++ rest) n nt b c = ini rest (n + r) nt (b + r) c
  | 0, n, nt, b, c => rfl
  | r + 1, n, nt, b, c => by
    show ini (repL [32] r ++ rest) (n + 1) nt (b + 1) c = _
    rw [ini_blanks rest r]
    congr 1 <;> omega
theorem ini_lead (rest : List Nat) : ∀ (rs : List Nat) (n nt : Nat) (c : List Nat), ini (leadS rs ++ rest) n nt 0 c = ini rest (n + (sumN rs + rs.length)) (nt + rs.length) 0 (bumps c rs)
  | [], n, nt, c => rfl
  | r :: rs, n, nt, c => by
    simp only [leadS, List.append_assoc, List.cons_append]
    rw [ini_blanks]
    show ini (leadS rs ++ rest) (n + r + 1) (nt + 1) 0 (bump c (0 + r)) = _
    rw [ini_lead rest rs, Nat.zero_add]
    simp only [sumN, List.length_cons, bumps]
    congr 1 <;> omega
theorem ini_stop {st : List Nat} (h : stopB st = true) (n nt b : Nat) (c : List Nat) : ini st n nt b c = (n, nt, b, c) := by
  cases st with
  | nil => rfl
  | cons x r =>
    simp only [stopB, Bool.and_eq_true, Bool.not_eq_true'] at h
    simp only [ini, h.1, h.2]
/-- an instance, from its runs -/
theorem mkW_lead {cs : List Nat} {rs : List Nat} {b : Nat} {st : List Nat} (e : cs = leadS rs ++ (repL [32] b ++ st)) (h : stopB st = true) :
    mkW cs = tW (.str cs) (sumN rs + rs.length + b) rs.length (bumps [] rs) b (Nat.ble (bumps [] rs).length 1) := by
  have : ini cs 0 0 0 [] = (sumN rs + rs.length + b, rs.length, b, bumps [] rs) := by
    rw [e, ini_lead, ini_blanks, ini_stop h]
    simp
  unfold mkW tW
  rw [this]
noncomputable def mxS : Nat → List Nat → Nat
  | m, [] => m
  | m, r :: rs => mxS (max m (r + 1)) rs
theorem bumps_len : ∀ (rs c : List Nat), (bumps c rs).length = mxS c.length rs
  | [], c => rfl
  | r :: rs, c => by simp only [bumps, mxS]; rw [bumps_len rs, bump_len]
theorem mxS_le {k : Nat} : ∀ {rs : List Nat} {m : Nat}, m ≤ k → (∀ r ∈ rs, r + 1 ≤ k) → mxS m rs ≤ k
  | [], m, h, _ => h
  | r :: rs, m, h, h' => mxS_le (rs := rs) (by have := h' r (.head _); omega) fun x hx => h' x (.tail _ hx)
theorem bump_all {m : Nat} : ∀ {c : List Nat} {b : Nat}, (∀ x ∈ c, x ≤ m) → ∀ x ∈ bump c b, x ≤ m + 1
  | [], 0, _, x, hx => by simp [bump] at hx; omega
  | [], b + 1, h, x, hx => by
    rcases List.mem_cons.mp hx with rfl | hx
    · omega
    · exact bump_all (c := []) (b := b) h x hx
  | y :: c, 0, h, x, hx => by
    rcases List.mem_cons.mp hx with rfl | hx
    · have := h y (.head _); omega
    · have := h x (.tail _ hx); omega
  | y :: c, b + 1, h, x, hx => by
    rcases List.mem_cons.mp hx with rfl | hx
    · have := h x (.head _); omega
    · exact bump_all (fun z hz => h z (.tail _ hz)) x hx
theorem bumps_all : ∀ {rs c : List Nat} {m : Nat}, (∀ x ∈ c, x ≤ m) → ∀ x ∈ bumps c rs, x ≤ m + rs.length
  | [], c, m, h, x, hx => by have := h x hx; simp; omega
  | r :: rs, c, m, h, x, hx => by
    have := bumps_all (rs := rs) (bump_all (b := r) h) x hx
    simp only [List.length_cons]; omega
theorem okC_bumps {rs : List Nat} {k : Nat} (h : ∀ r ∈ rs, r ≤ k) (hk : k ≤ 1000) (hl : rs.length ≤ 1000) : OkC (bumps [] rs) rs.length where
  len := by rw [bumps_len]; exact mxS_le (by simp) fun r hr => by have := h r hr; omega
  all := fun x hx => by have := bumps_all (c := []) (m := 0) (fun y hy => by simp at hy) x hx; omega
  nt := hl
theorem levA_add (ts : Nat) : ∀ (l : List Nat) (i il k : Nat), levA ts i (il + k) l = levA ts i il l + k
  | [], i, il, k => rfl
  | x :: r, i, il, k => by
    simp only [levA]
    rw [show il + k + i / ts * x = il + i / ts * x + k by omega, levA_add ts r]
theorem levA_drop (ts : Nat) : ∀ (d : Nat) (c : List Nat) (i il : Nat), i + d = ts → levA ts i il c = levA ts ts il (c.drop d)
  | 0, c, i, il, h => by rw [Nat.add_zero] at h; rw [h]; rfl
  | d + 1, [], i, il, h => rfl
  | d + 1, x :: r, i, il, h => by
    have h0 : i / ts = 0 := Nat.div_eq_of_lt (by omega)
    simp only [levA, List.drop_succ_cons, h0, Nat.zero_mul, Nat.add_zero]
    exact levA_drop ts d r (i + 1) il (by omega)
theorem levA_bump (ts : Nat) : ∀ (c : List Nat) (b i il : Nat), levA ts i il (bump c b) = levA ts i il c + (i + b) / ts
  | [], 0, i, il => by simp [bump, levA]
  | [], b + 1, i, il => by
    simp only [bump, levA, Nat.mul_zero, Nat.add_zero]
    rw [levA_bump ts [] b (i + 1) il, show i + 1 + b = i + (b + 1) by omega]
    rfl
  | x :: r, 0, i, il => by
    simp only [bump, levA, Nat.add_zero, Nat.mul_add, Nat.mul_one]
    rw [← Nat.add_assoc, levA_add]
  | x :: r, b + 1, i, il => by
    simp only [bump, levA]
    rw [levA_bump ts r b (i + 1), show i + 1 + b = i + (b + 1) by omega]
noncomputable def divs (ts : Nat) : List Nat → Nat
  | [] => 0
  | r :: rs => r / ts + divs ts rs
theorem levA_bumps (ts : Nat) : ∀ (rs c : List Nat), levA ts 0 0 (bumps c rs) = levA ts 0 0 c + divs ts rs
  | [], c => rfl
  | r :: rs, c => by
    simp only [bumps, divs]
    rw [levA_bumps ts rs, levA_bump, Nat.zero_add, Nat.add_assoc]
theorem lev_bumps (rs : List Nat) (b ts : Nat) : lev (bumps [] rs) rs.length b ts = b + ts * (divs ts rs + rs.length) := by
  unfold lev
  rw [← levA_drop ts ts _ 0 0 (by omega), levA_bumps]
  show b + ts * (0 + divs ts rs + rs.length) = _
  rw [Nat.zero_add]
theorem natsB_map : ∀ {c : List Nat}, (∀ x ∈ c, x ≤ 1000) → natsB (c.map nI) = some c
  | [], _ => rfl
  | x :: r, h => by
    have h1 := Nat.ble_eq_true_of_le (h x (.head _))
    simp only [List.map_cons, nI, natsB]
    show (match Nat.ble x 1000 with | true => (match natsB (r.map nI) with | some l => some (x :: l) | none => none) | false => none) = _
    rw [h1, natsB_map fun y hy => h y (.tail _ hy)]
theorem unW_tW {r : T} {n nt b : Nat} {c : List Nat} {s : Bool} (ok : OkC c nt) (hb : b ≤ 1000) : unW (tW r n nt c b s) = some (r, n, nt, c, b, s) := by
  show (natsB (c.map nI)).bind (fun c => unWc r n nt b s c) = _
  rw [natsB_map ok.all]
  simp only [Option.bind_some, unWc, Nat.ble_eq_true_of_le ok.len, Nat.ble_eq_true_of_le ok.nt, Nat.ble_eq_true_of_le hb, Bool.and_self]
theorem N_lev {r : T} {n nt b : Nat} {c : List Nat} {s : Bool} {ts : Nat} (ok : OkC c nt) (hb : b ≤ 1000) (h0 : 1 ≤ ts) (h1 : ts ≤ 2000) : N_W_indent_level [tW r n nt c b s, nI ts] = some (nI (lev c nt b ts)) := by
  show (match Nat.ble 1 ts && Nat.ble ts 2000 with
    | true => (match unW (tW r n nt c b s) with
      | some (_, _, nt, c, b, _) => some (nI (lev c nt b ts))
      | none => F_W_indent_level [tW r n nt c b s, .int (.ofNat ts)])
    | false => F_W_indent_level [tW r n nt c b s, .int (.ofNat ts)]) = _
  rw [Nat.ble_eq_true_of_le h0, Nat.ble_eq_true_of_le h1, unW_tW ok hb]
  rfl
end Mine
end
noncomputable section
set_option Elab.async false
set_option linter.unusedVariables false
set_option maxRecDepth 100000
set_option maxHeartbeats 4000000
namespace Mine
open PySem PySem.W PySem.Calls PyProof.Rows
noncomputable def v_law_script : VarD := ⟨"script", 0, true, true, .fro⟩
noncomputable def v_law_drawn : VarD := ⟨"drawn", 1, false, true, .fro⟩
noncomputable def v_law_size : VarD := ⟨"size", 2, true, true, .fro⟩
noncomputable def v_law_step : VarD := ⟨"step", 3, true, true, .fro⟩
noncomputable def v_law_blanks : VarD := ⟨"blanks", 4, false, true, .fro⟩
noncomputable def v_law_behind : VarD := ⟨"behind", 5, false, true, .fro⟩
noncomputable def v_law_end : VarD := ⟨"end", 6, true, true, .fro⟩
noncomputable def v_law_columns : VarD := ⟨"columns", 7, true, true, .fro⟩
noncomputable def v_law_stops : VarD := ⟨"stops", 8, false, true, .fro⟩
noncomputable def v_law_walked : VarD := ⟨"walked", 9, false, true, .own⟩
noncomputable def v_law_rest : VarD := ⟨"rest", 10, false, true, .fro⟩
noncomputable def v_law_least : VarD := ⟨"least", 11, false, true, .fro⟩
noncomputable def v_law_period : VarD := ⟨"period", 12, false, true, .fro⟩
noncomputable def v_law_overlaps : VarD := ⟨"overlaps", 13, false, true, .own⟩
noncomputable def v_law_k : VarD := ⟨"k", 14, false, true, .fro⟩
noncomputable def v_law_moves : VarD := ⟨"moves", 15, false, true, .fro⟩
noncomputable def v_law_table : VarD := ⟨"table", 16, false, true, .fro⟩
noncomputable def v_law_small : VarD := ⟨"small", 17, false, true, .fro⟩
noncomputable def v_law_great : VarD := ⟨"great", 18, false, true, .fro⟩
noncomputable def v_law_parts : VarD := ⟨"parts", 19, true, true, .fro⟩
noncomputable def v_law_times : VarD := ⟨"times", 20, false, true, .fro⟩
noncomputable def v_law_whole : VarD := ⟨"whole", 21, true, true, .fro⟩
noncomputable def v_law_tabs : VarD := ⟨"tabs", 22, true, true, .fro⟩
noncomputable def v_law_root : VarD := ⟨"root", 23, false, true, .fro⟩
noncomputable def v_law_counts : VarD := ⟨"counts", 24, false, true, .own⟩
noncomputable def v_law_lead : VarD := ⟨"lead", 25, false, true, .fro⟩
noncomputable def v_law_ways : VarD := ⟨"ways", 26, false, true, .fro⟩
noncomputable def v_law_last : VarD := ⟨"last", 27, false, true, .fro⟩
noncomputable def sc_law : Sc := ⟨[v_law_script, v_law_drawn, v_law_size, v_law_step, v_law_blanks, v_law_behind, v_law_end, v_law_columns, v_law_stops, v_law_walked, v_law_rest, v_law_least, v_law_period, v_law_overlaps, v_law_k, v_law_moves, v_law_table, v_law_small, v_law_great, v_law_parts, v_law_times, v_law_whole, v_law_tabs, v_law_root, v_law_counts, v_law_lead, v_law_ways, v_law_last], ["Whitespace", "_generate_overlap_table", "_law_due", "_law_euclid", "_law_moved", "max", "range", "tuple"]⟩
noncomputable def v_law_c1_k : VarD := ⟨"k", 28, false, true, .fro⟩
noncomputable def v_law_c1_script : VarD := ⟨"script", 0, true, false, .fro⟩
noncomputable def sc_law_c1 : Sc := ⟨[v_law_c1_k, v_law_c1_script], ["len"]⟩
noncomputable def v_law_c2_k : VarD := ⟨"k", 29, false, true, .fro⟩
noncomputable def v_law_c2_step : VarD := ⟨"step", 3, true, false, .fro⟩
noncomputable def v_law_c2_end : VarD := ⟨"end", 6, true, false, .fro⟩
noncomputable def v_law_c2_size : VarD := ⟨"size", 2, true, false, .fro⟩
noncomputable def sc_law_c2 : Sc := ⟨[v_law_c2_k, v_law_c2_step, v_law_c2_end, v_law_c2_size], ["Whitespace"]⟩
noncomputable def b_law_1 : List T → Option Res := (sSeq (sSet 10 (e2 iaddT (eVar 10) (eVar 3))) (sSeq (sIf (t2 geT (eVar 10) (eVar 2)) (sSeq (sSet 10 (e2 subT (eVar 10) (eVar 2))) (sSeq (sSet 8 (e2 iaddT (eVar 8) (eK (.int (1))))) sNil)) sNil) (sSeq (sApp 9 (e2 addT (e2 mulT (eVar 2) (eVar 8)) (eVar 5))) (sSeq (sIf (t2 ltT (eVar 10) (eVar 11)) (sSeq (sSet 11 (eVar 10)) (sSeq (sSet 12 (eVar 14)) sNil)) sNil) (sSeq (sApp 13 (e2 subT (eVar 14) (eVar 12))) sNil)))))
noncomputable def v_law_c3_k : VarD := ⟨"k", 30, false, true, .fro⟩
noncomputable def v_law_c3_columns : VarD := ⟨"columns", 7, true, false, .fro⟩
noncomputable def sc_law_c3 : Sc := ⟨[v_law_c3_k, v_law_c3_columns], []⟩
noncomputable def v_law_c4_told : VarD := ⟨"told", 31, false, true, .fro⟩
noncomputable def sc_law_c4 : Sc := ⟨[v_law_c4_told], ["bool", "isinstance"]⟩
noncomputable def v_law_moved_run : VarD := ⟨"run", 0, false, true, .fro⟩
noncomputable def v_law_moved_before : VarD := ⟨"before", 1, false, true, .fro⟩
noncomputable def v_law_moved_after : VarD := ⟨"after", 2, false, true, .fro⟩
noncomputable def sc_law_moved : Sc := ⟨[v_law_moved_run, v_law_moved_before, v_law_moved_after], ["Whitespace"]⟩
noncomputable def s_law_moved_2 : List T → Option Res := (sRet (eCall N_W_not_equal_witness (eLc (e1 instT (eVar 1)) (eLc (eVar 2) eL0))))
noncomputable def r_law_moved_2 : List T → Option Res := sSeq s_law_moved_2 sNil
noncomputable def s_law_moved_1 : List T → Option Res := (sSet 2 (eCall N_W_init (eLc (e2 addT (e2 mulT (eK (.str [32])) (e2 subT (eVar 0) (eK (.int (1))))) (eK (.str [9, 32]))) eL0)))
noncomputable def r_law_moved_1 : List T → Option Res := sSeq s_law_moved_1 r_law_moved_2
noncomputable def s_law_moved_0 : List T → Option Res := (sSet 1 (eCall N_W_init (eLc (e2 addT (e2 mulT (eK (.str [32])) (eVar 0)) (eK (.str [9]))) eL0)))
noncomputable def r_law_moved_0 : List T → Option Res := sSeq s_law_moved_0 r_law_moved_1
noncomputable def F_law_moved : List T → Option T := fnR 1 2 r_law_moved_0
noncomputable def v_law_due_run : VarD := ⟨"run", 0, false, true, .fro⟩
noncomputable def v_law_due_due : VarD := ⟨"due", 1, false, true, .own⟩
noncomputable def v_law_due_width : VarD := ⟨"width", 2, false, true, .fro⟩
noncomputable def v_law_due_stop : VarD := ⟨"stop", 3, false, true, .fro⟩
noncomputable def sc_law_due : Sc := ⟨[v_law_due_run, v_law_due_due, v_law_due_width, v_law_due_stop], ["range"]⟩
noncomputable def b_law_due_1 : List T → Option Res := (sSeq (sSet 3 (e2 subT (e2 addT (eVar 0) (eVar 2)) (e2 modT (eVar 0) (eVar 2)))) (sSeq (sIf (t2 eqT (e2 modT (eVar 0) (eVar 2)) (eK (.int (0)))) (sSeq (sApp 1 (mkT (eLc (eVar 2) (eLc (eVar 3) (eLc (e2 addT (eVar 0) (eK (.int (1)))) eL0))))) sNil) (sSeq (sApp 1 (mkT (eLc (eVar 2) (eLc (eVar 3) (eLc (e2 addT (eVar 3) (eK (.int (1)))) eL0))))) sNil)) sNil))
noncomputable def s_law_due_2 : List T → Option Res := (sRet (eVar 1))
noncomputable def r_law_due_2 : List T → Option Res := sSeq s_law_due_2 sNil
noncomputable def s_law_due_1 : List T → Option Res := (sFor 2 (e2 rng2 (eK (.int (2))) (e2 addT (eVar 0) (eK (.int (2))))) b_law_due_1)
noncomputable def r_law_due_1 : List T → Option Res := sSeq s_law_due_1 r_law_due_2
noncomputable def s_law_due_0 : List T → Option Res := (sSet 1 (atoms (mkL eL0)))
noncomputable def r_law_due_0 : List T → Option Res := sSeq s_law_due_0 r_law_due_1
noncomputable def F_law_due : List T → Option T := fnR 1 3 r_law_due_0
noncomputable def v_law_c5_part : VarD := ⟨"part", 32, false, true, .fro⟩
noncomputable def v_law_c5_far : VarD := ⟨"far", 33, false, true, .fro⟩
noncomputable def v_law_c5_near : VarD := ⟨"near", 34, false, true, .fro⟩
noncomputable def sc_law_c5 : Sc := ⟨[v_law_c5_part, v_law_c5_far, v_law_c5_near], []⟩
noncomputable def v_law_c6_part : VarD := ⟨"part", 35, false, true, .fro⟩
noncomputable def v_law_c6_far : VarD := ⟨"far", 36, false, true, .fro⟩
noncomputable def v_law_c6_near : VarD := ⟨"near", 37, false, true, .fro⟩
noncomputable def v_law_c6_parts : VarD := ⟨"parts", 19, true, false, .fro⟩
noncomputable def sc_law_c6 : Sc := ⟨[v_law_c6_part, v_law_c6_far, v_law_c6_near, v_law_c6_parts], []⟩
noncomputable def v_law_c7_move : VarD := ⟨"move", 38, false, true, .fro⟩
noncomputable def sc_law_c7 : Sc := ⟨[v_law_c7_move], []⟩
noncomputable def b_law_2 : List T → Option Res := (sSeq (sSet 27 (eCall N_W_init (eLc (eSlice (eVar 23) (pSome (e2 subT (eVar 21) (eVar 14))) pNo) eL0))) (sSeq (sIf (tOr (t2 neT (e1 (attrT 2) (eVar 27)) (e2 addT (e1 (attrT 2) (eCall N_W_init (eLc (eSlice (eVar 23) pNo (pSome (eVar 14))) eL0))) (eK (.int (1))))) (t2 isnT (e1 (attrT 4) (eVar 27)) (bT (t2 ninT (eK (.str [32, 9])) (eSlice (eVar 23) (pSome (e2 subT (eVar 21) (eVar 14))) pNo))))) (sSeq (sRet (eK (.bool false))) sNil) sNil) sNil))
noncomputable def v_law_c8_k : VarD := ⟨"k", 39, false, true, .fro⟩
noncomputable def v_law_c8_tabs : VarD := ⟨"tabs", 22, true, false, .fro⟩
noncomputable def v_law_c8_whole : VarD := ⟨"whole", 21, true, false, .fro⟩
noncomputable def sc_law_c8 : Sc := ⟨[v_law_c8_k, v_law_c8_tabs, v_law_c8_whole], []⟩
noncomputable def v_law_euclid_one : VarD := ⟨"one", 0, false, true, .fro⟩
noncomputable def v_law_euclid_other : VarD := ⟨"other", 1, false, true, .fro⟩
noncomputable def v_law_euclid_numbers : VarD := ⟨"numbers", 2, false, true, .fro⟩
noncomputable def sc_law_euclid : Sc := ⟨[v_law_euclid_one, v_law_euclid_other, v_law_euclid_numbers], ["list", "max", "min", "range"]⟩
noncomputable def b_law_euclid_1 : List T → Option Res := (sSeq (sSet2 1 0 (swp (mkT (eLc (e2 min2 (eVar 0) (eVar 1)) (eLc (e2 max2 (eVar 0) (eVar 1)) eL0))))) (sSeq (sSet 2 (e2 addT (e1 lstOf (e2 rng2 (e2 subT (e2 subT (eVar 1) (eVar 0)) (eK (.int (1)))) (e2 subT (eVar 1) (eK (.int (1)))))) (eVar 2))) (sSeq (sSet 1 (e2 subT (eVar 1) (eVar 0))) sNil)))
noncomputable def s_law_euclid_2 : List T → Option Res := (sRet (eVar 2))
noncomputable def r_law_euclid_2 : List T → Option Res := sSeq s_law_euclid_2 sNil
noncomputable def s_law_euclid_1 : List T → Option Res := (sWhile 40 (t2 gtT (e2 addT (eVar 0) (eVar 1)) (eK (.int (2)))) b_law_euclid_1 sNil)
noncomputable def r_law_euclid_1 : List T → Option Res := sSeq s_law_euclid_1 r_law_euclid_2
noncomputable def s_law_euclid_0 : List T → Option Res := (sSet 2 (mkL eL0))
noncomputable def r_law_euclid_0 : List T → Option Res := sSeq s_law_euclid_0 r_law_euclid_1
noncomputable def F_law_euclid : List T → Option T := fnR 2 1 r_law_euclid_0
noncomputable def s_law_32 : List T → Option Res := (sRet (bT (t2 eqT (eCall F_generate_overlap_table (eLc (eSlice (eVar 23) (pSome (eK (.int (1)))) (pSome (e1 negT (eK (.int (1)))))) eL0)) (eCall F_law_euclid (eLc (e2 itemT (eVar 26) (eK (.int (0)))) (eLc (e2 subT (eVar 21) (e2 itemT (eVar 26) (eK (.int (0))))) eL0))))))
noncomputable def r_law_32 : List T → Option Res := sSeq s_law_32 sNil
noncomputable def s_law_31 : List T → Option Res := (sSet 26 (eComp [39] (e2 rng2 (eK (.int (1))) (eVar 21)) (g1 39) (t2 eqT (e2 modT (e2 mulT (eVar 39) (eVar 22)) (eVar 21)) (eK (.int (1)))) (eVar 39)))
noncomputable def r_law_31 : List T → Option Res := sSeq s_law_31 r_law_32
noncomputable def s_law_30 : List T → Option Res := (sIf (tOr (t2 neT (mkT (eLc (e1 (attrT 1) (eVar 25)) (eLc (e1 (attrT 2) (eVar 25)) (eLc (e1 (attrT 3) (eVar 25)) eL0)))) (mkT (eLc (eVar 21) (eLc (eVar 22) (eLc (mkT (eLc (e1 tupOf (eVar 24)) (eLc (eK (.int (0))) eL0))) eL0))))) (t2 isnT (e1 (attrT 4) (eVar 25)) (eK (.bool false)))) (sSeq (sRet (eK (.bool false))) sNil) sNil)
noncomputable def r_law_30 : List T → Option Res := sSeq s_law_30 r_law_31
noncomputable def s_law_29 : List T → Option Res := (sSet 25 (eCall N_W_init (eLc (e2 addT (eVar 23) (eK (.str [120, 32, 9]))) eL0)))
noncomputable def r_law_29 : List T → Option Res := sSeq s_law_29 r_law_30
noncomputable def s_law_28 : List T → Option Res := (sIf (t2 gtT (e2 modT (eVar 21) (eVar 22)) (eK (.int (0)))) (sSeq (sApp 24 (e2 modT (eVar 21) (eVar 22))) sNil) sNil)
noncomputable def r_law_28 : List T → Option Res := sSeq s_law_28 r_law_29
noncomputable def s_law_27 : List T → Option Res := (sSet 24 (atoms (e2 addT (e2 mulT (mkL (eLc (eK (.int (0))) eL0)) (e2 subT (e2 divT (eVar 21) (eVar 22)) (eK (.int (1))))) (mkL (eLc (e2 subT (eVar 22) (e2 modT (eVar 21) (eVar 22))) eL0)))))
noncomputable def r_law_27 : List T → Option Res := sSeq s_law_27 r_law_28
noncomputable def s_law_26 : List T → Option Res := (sFor 14 (e2 rng2 (eK (.int (1))) (eVar 21)) b_law_2)
noncomputable def r_law_26 : List T → Option Res := sSeq s_law_26 r_law_27
noncomputable def s_law_25 : List T → Option Res := (sSet 23 (e2 joinT (eK (.str [])) (eComp [38] (eSlice (eVar 15) pNo (pSome (eVar 21))) (g1 38) tT (eIf (t2 gtT (eVar 38) (eK (.int (0)))) (eK (.str [9])) (eK (.str [32]))))))
noncomputable def r_law_25 : List T → Option Res := sSeq s_law_25 r_law_26
noncomputable def s_law_24 : List T → Option Res := (sSet 22 (e2 divT (eVar 3) (eVar 20)))
noncomputable def r_law_24 : List T → Option Res := sSeq s_law_24 r_law_25
noncomputable def s_law_23 : List T → Option Res := (sSet 21 (e2 divT (eVar 2) (eVar 20)))
noncomputable def r_law_23 : List T → Option Res := sSeq s_law_23 r_law_24
noncomputable def s_law_22 : List T → Option Res := (sSet 20 (e1 maxT (e2 addT (mkL (eLc (eK (.int (1))) eL0)) (eComp [35, 36, 37] (eVar 18) (g3 35 36 37) (tAnd (t2 gtT (eVar 36) (eVar 37)) (t2 inT (eVar 35) (eVar 19))) (eVar 35)))))
noncomputable def r_law_22 : List T → Option Res := sSeq s_law_22 r_law_23
noncomputable def s_law_21 : List T → Option Res := (sSet 19 (eComp [32, 33, 34] (eVar 17) (g3 32 33 34) (t2 gtT (eVar 33) (eVar 34)) (eVar 32)))
noncomputable def r_law_21 : List T → Option Res := sSeq s_law_21 r_law_22
noncomputable def s_law_20 : List T → Option Res := (sIf (tOr (t2 neT (eVar 17) (eCall F_law_due (eLc (eVar 3) eL0))) (t2 neT (eVar 18) (eCall F_law_due (eLc (eVar 2) eL0)))) (sSeq (sRet (eK (.bool false))) sNil) sNil)
noncomputable def r_law_20 : List T → Option Res := sSeq s_law_20 r_law_21
noncomputable def s_law_19 : List T → Option Res := (sSet 18 (eCall F_law_moved (eLc (eVar 2) eL0)))
noncomputable def r_law_19 : List T → Option Res := sSeq s_law_19 r_law_20
noncomputable def s_law_18 : List T → Option Res := (sSet 17 (eCall F_law_moved (eLc (eVar 3) eL0)))
noncomputable def r_law_18 : List T → Option Res := sSeq s_law_18 r_law_19
noncomputable def s_law_17 : List T → Option Res := (sIf (tOr (t2 neT (eVar 16) (eVar 13)) (t2 neT (eComp [31] (eVar 16) (g1 31) (tVal (e1 isBool (eVar 31))) (eVar 31)) (mkL eL0))) (sSeq (sRet (eK (.bool false))) sNil) sNil)
noncomputable def r_law_17 : List T → Option Res := sSeq s_law_17 r_law_18
noncomputable def s_law_16 : List T → Option Res := (sSet 16 (eCall F_generate_overlap_table (eLc (eVar 15) eL0)))
noncomputable def r_law_16 : List T → Option Res := kill [0, 1, 4, 5, 6, 7, 8, 9, 10, 11, 12, 14] (sSeq s_law_16 r_law_17)
noncomputable def s_law_15 : List T → Option Res := (sSet 15 (eComp [30] (e1 rng1 (eVar 2)) (g1 30) tT (e2 subT (e2 itemT (eVar 7) (e2 addT (eVar 30) (eK (.int (1))))) (e2 itemT (eVar 7) (eVar 30)))))
noncomputable def r_law_15 : List T → Option Res := sSeq s_law_15 r_law_16
noncomputable def s_law_14 : List T → Option Res := (sIf (t2 neT (eVar 7) (eVar 9)) (sSeq (sRet (eK (.bool false))) sNil) sNil)
noncomputable def r_law_14 : List T → Option Res := sSeq s_law_14 r_law_15
noncomputable def s_law_13 : List T → Option Res := (sFor 14 (e2 rng2 (eK (.int (1))) (e2 addT (eVar 2) (eK (.int (1))))) b_law_1)
noncomputable def r_law_13 : List T → Option Res := sSeq s_law_13 r_law_14
noncomputable def s_law_12 : List T → Option Res := (sSet 13 (atoms (mkL eL0)))
noncomputable def r_law_12 : List T → Option Res := sSeq s_law_12 r_law_13
noncomputable def s_law_11 : List T → Option Res := (sSet 12 (eK (.int (0))))
noncomputable def r_law_11 : List T → Option Res := sSeq s_law_11 r_law_12
noncomputable def s_law_10 : List T → Option Res := (sSet 11 (eVar 2))
noncomputable def r_law_10 : List T → Option Res := sSeq s_law_10 r_law_11
noncomputable def s_law_9 : List T → Option Res := (sSet 10 (eK (.int (0))))
noncomputable def r_law_9 : List T → Option Res := sSeq s_law_9 r_law_10
noncomputable def s_law_8 : List T → Option Res := (sSet 9 (atoms (mkL (eLc (e2 addT (e2 mulT (eVar 2) (eVar 8)) (eVar 5)) eL0))))
noncomputable def r_law_8 : List T → Option Res := sSeq s_law_8 r_law_9
noncomputable def s_law_7 : List T → Option Res := (sSet 8 (e2 addT (eK (.int (2))) (e2 divT (eVar 4) (eVar 2))))
noncomputable def r_law_7 : List T → Option Res := sSeq s_law_7 r_law_8
noncomputable def s_law_6 : List T → Option Res := (sSet 7 (eComp [29] (e1 rng1 (e2 addT (eVar 2) (eK (.int (1))))) (g1 29) tT (eCall N_W_indent_level (eLc (e1 instT (eCall N_W_init (eLc (e2 addT (e2 mulT (eK (.str [32])) (e2 mulT (eVar 29) (eVar 3))) (eVar 6)) eL0))) (eLc (eVar 2) eL0)))))
noncomputable def r_law_6 : List T → Option Res := sSeq s_law_6 r_law_7
noncomputable def s_law_5 : List T → Option Res := (sSet 6 (e2 addT (e2 addT (e2 addT (e2 addT (eK (.str [9])) (e2 mulT (eK (.str [32])) (eVar 4))) (eK (.str [9]))) (e2 mulT (eK (.str [32])) (eVar 5))) (eK (.str [120, 32, 9]))))
noncomputable def r_law_5 : List T → Option Res := sSeq s_law_5 r_law_6
noncomputable def s_law_4 : List T → Option Res := (sSet 5 (e2 modT (e2 divT (e2 itemT (eVar 1) (eK (.int (2)))) (eK (.int (4)))) (eK (.int (3)))))
noncomputable def r_law_4 : List T → Option Res := sSeq s_law_4 r_law_5
noncomputable def s_law_3 : List T → Option Res := (sSet 4 (e2 modT (e2 itemT (eVar 1) (eK (.int (2)))) (eK (.int (4)))))
noncomputable def r_law_3 : List T → Option Res := sSeq s_law_3 r_law_4
noncomputable def s_law_2 : List T → Option Res := (sSet 3 (e2 addT (eK (.int (1))) (e2 modT (e2 itemT (eVar 1) (eK (.int (1)))) (e2 subT (eVar 2) (eK (.int (1)))))))
noncomputable def r_law_2 : List T → Option Res := sSeq s_law_2 r_law_3
noncomputable def s_law_1 : List T → Option Res := (sSet 2 (e2 addT (eK (.int (2))) (e2 modT (e2 itemT (eVar 1) (eK (.int (0)))) (eK (.int (11))))))
noncomputable def r_law_1 : List T → Option Res := sSeq s_law_1 r_law_2
noncomputable def s_law_0 : List T → Option Res := (sSet 1 (eComp [28] (e1 rng1 (eK (.int (3)))) (g1 28) tT (eIf (t2 ltT (eVar 28) (e1 lenT (eVar 0))) (e2 itemT (eVar 0) (eVar 28)) (e2 itemT (mkT (eLc (eK (.int (6))) (eLc (eK (.int (4))) (eLc (eK (.int (5))) eL0)))) (eVar 28)))))
noncomputable def r_law_0 : List T → Option Res := sSeq s_law_0 r_law_1
noncomputable def F_law : List T → Option T := fnR 1 39 r_law_0
end Mine
end
noncomputable section
set_option Elab.async false
set_option linter.unusedVariables false
set_option maxRecDepth 100000
namespace Mine
open PySem PySem.W PySem.Calls PyProof.Rows
noncomputable def ovs1 (size step : Nat) : Nat → Nat → Nat → Nat → List Nat
  | 0, _, _, _ => []
  | n + 1, k, least, period => (match Nat.ble ((k * step) % size + 1) least with
    | true => 0 :: ovs1 size step n (k + 1) ((k * step) % size) k
    | false => (k - period) :: ovs1 size step n (k + 1) least period)
noncomputable def mvs1 (size step : Nat) : List Nat := (List.range' 0 size).map fun k => size * ((k + 1) * step / size) - size * (k * step / size)
noncomputable def col1 (size step sb behind k : Nat) : Nat := size * (sb + k * step / size) + behind
noncomputable def sl1 (X D : T) (size step : Nat) (B : T) (behind : Nat) (E C : T) (stops : Nat) (W : List T) (rest least period : Nat) (O : List T) (k : T) : List T :=
  [X, D, nI size, nI step, B, nI behind, E, C, nI stops, .lst W, nI rest, nI least, nI period, .lst O, k] ++ unbs 25
theorem divmod_ge {m size step : Nat} (h : step < size) (q : size ≤ m % size + step) : (m + step) / size = m / size + 1 ∧ (m + step) % size = m % size + step - size := by
  have h0 : 0 < size := by omega
  have e : m + step = size * (m / size) + (m % size + step) := by have := Nat.div_add_mod m size; omega
  have hr := Nat.mod_lt m h0
  have e2 : (m % size + step) / size = 1 := Nat.div_eq_of_lt_le (by omega) (by omega)
  have e3 : (m % size + step) % size = m % size + step - size := by rw [Nat.mod_eq_sub_mod q, Nat.mod_eq_of_lt (by omega)]
  rw [e, Nat.mul_add_div h0, Nat.mul_add_mod, e2, e3]
  exact ⟨rfl, rfl⟩
theorem divmod_lt {m size step : Nat} (h : 0 < size) (q : m % size + step < size) : (m + step) / size = m / size ∧ (m + step) % size = m % size + step := by
  have e : m + step = size * (m / size) + (m % size + step) := by have := Nat.div_add_mod m size; omega
  rw [e, Nat.mul_add_div h, Nat.mul_add_mod, Nat.div_eq_of_lt q, Nat.mod_eq_of_lt q]
  exact ⟨rfl, rfl⟩
section
variable {X D B E C : T} {size step sb behind : Nat}
theorem body1 (h1 : 1 ≤ step) (h2 : step < size) (hs : size ≤ 12) (hb : behind ≤ 2) (hsb : sb ≤ 5) {j least period : Nat} {W O : List T} (hj : j ≤ 12) (hp : period ≤ j) (hW : W.length ≤ 100) (hO : O.length ≤ 100) :
    b_law_1 (sl1 X D size step B behind E C (sb + j * step / size) W (j * step % size) least period O (nI (j + 1))) =
      some (.next (match Nat.ble (((j + 1) * step) % size + 1) least with
        | true => sl1 X D size step B behind E C (sb + (j + 1) * step / size) (W ++ [nI (col1 size step sb behind (j + 1))]) ((j + 1) * step % size) ((j + 1) * step % size) (j + 1) (O ++ [nI 0]) (nI (j + 1))
        | false => sl1 X D size step B behind E C (sb + (j + 1) * step / size) (W ++ [nI (col1 size step sb behind (j + 1))]) ((j + 1) * step % size) least period (O ++ [nI (j + 1 - period)]) (nI (j + 1)))) := by
  have hl : lim = 100000 := rfl
  have e1 : (j + 1) * step = j * step + step := by rw [Nat.add_mul, Nat.one_mul]
  have hd : (j + 1) * step / size ≤ 200 := by
    have : (j + 1) * step ≤ 13 * 12 := Nat.mul_le_mul (by omega) (by omega)
    have := Nat.div_le_self ((j + 1) * step) size
    omega
  refine sSeq_s (σ' := sl1 X D size step B behind E C (sb + j * step / size) W (j * step % size + step) least period O (nI (j + 1))) rfl ?_
  refine sSeq_s (σ' := sl1 X D size step B behind E C (sb + (j + 1) * step / size) W ((j + 1) * step % size) least period O (nI (j + 1))) ?_ ?_
  · by_cases q : size ≤ j * step % size + step
    · obtain ⟨a, b⟩ := divmod_ge h2 q
      refine sIf_t (t2_n (x := nI (j * step % size + step)) (y := nI size) rfl rfl (geT_n.trans (by rw [decide_eq_true q]))) ?_
      refine sSeq_s (σ' := sl1 X D size step B behind E C (sb + j * step / size) W (j * step % size + step - size) least period O (nI (j + 1))) (sSet_n (e2_n (x := nI (j * step % size + step)) (y := nI size) rfl rfl (subT_n q)) (by intro z; cases z)) ?_
      rw [e1, a, b]
      rfl
    · obtain ⟨a, b⟩ := divmod_lt (m := j * step) (step := step) (size := size) (by omega) (by omega)
      refine sIf_f (t2_n (x := nI (j * step % size + step)) (y := nI size) rfl rfl (geT_n.trans (by rw [decide_eq_false q]))) ?_
      rw [e1, a, b]
      rfl
  refine sSeq_s (σ' := sl1 X D size step B behind E C (sb + (j + 1) * step / size) (W ++ [nI (col1 size step sb behind (j + 1))]) ((j + 1) * step % size) least period O (nI (j + 1))) (sApp_n (l := W) (t := nI (col1 size step sb behind (j + 1))) (e2_n (x := nI (size * (sb + (j + 1) * step / size))) (y := nI behind) (e2_n (x := nI size) (y := nI (sb + (j + 1) * step / size)) rfl rfl (mulT_n (by omega))) rfl addT_n) rfl (by omega) (by intro z; cases z)) ?_
  have ht : t2 ltT (eVar 10) (eVar 11) (sl1 X D size step B behind E C (sb + (j + 1) * step / size) (W ++ [nI (col1 size step sb behind (j + 1))]) ((j + 1) * step % size) least period O (nI (j + 1))) = some (Nat.ble (((j + 1) * step) % size + 1) least) := by
    refine t2_n (x := nI ((j + 1) * step % size)) (y := nI least) rfl rfl (ltT_n.trans ?_)
    congr 1
    by_cases q : (j + 1) * step % size < least
    · rw [decide_eq_true q, Nat.ble_eq_true_of_le q]
    · rw [decide_eq_false q]
      cases r : Nat.ble ((j + 1) * step % size + 1) least with
      | false => rfl
      | true => exact absurd (Nat.le_of_ble_eq_true r) q
  cases q : Nat.ble (((j + 1) * step) % size + 1) least with
  | true =>
    refine sSeq_s (σ' := sl1 X D size step B behind E C (sb + (j + 1) * step / size) (W ++ [nI (col1 size step sb behind (j + 1))]) ((j + 1) * step % size) ((j + 1) * step % size) (j + 1) O (nI (j + 1))) (sIf_t (ht.trans (by rw [q])) rfl) ?_
    exact sSeq_1 (sApp_n (l := O) (t := nI 0) (e2_n (x := nI (j + 1)) (y := nI (j + 1)) rfl rfl ((subT_n (Nat.le_refl _)).trans (by rw [Nat.sub_self]))) rfl (by omega) (by intro z; cases z))
  | false =>
    refine sSeq_s (sIf_f (ht.trans (by rw [q])) rfl) ?_
    exact sSeq_1 (sApp_n (l := O) (t := nI (j + 1 - period)) (e2_n (x := nI (j + 1)) (y := nI period) rfl rfl (subT_n (by omega))) rfl (by omega) (by intro z; cases z))
theorem loop1 (h1 : 1 ≤ step) (h2 : step < size) (hs : size ≤ 12) (hb : behind ≤ 2) (hsb : sb ≤ 5) : ∀ (n j least period : Nat) (W O : List T) (kk : T), j + n ≤ 12 → period ≤ j → W.length + n ≤ 100 → O.length + n ≤ 100 →
    ∃ stops rest least' period' kk', forR 14 b_law_1 (rngL ((j + 1 : Nat) : Int) n) (sl1 X D size step B behind E C (sb + j * step / size) W (j * step % size) least period O kk) =
      some (.next (sl1 X D size step B behind E C stops (W ++ (List.range' (j + 1) n).map fun k => nI (col1 size step sb behind k)) rest least' period' (O ++ (ovs1 size step n (j + 1) least period).map nI) kk'))
  | 0, j, least, period, W, O, kk, _, _, _, _ => ⟨sb + j * step / size, j * step % size, least, period, kk, by simp only [rngL, forR, List.range'_zero, List.map_nil, List.append_nil, ovs1]⟩
  | n + 1, j, least, period, W, O, kk, hj, hp, hW, hO => by
    have hb1 := body1 (X := X) (D := D) (B := B) (E := E) (C := C) (sb := sb) h1 h2 hs hb hsb (j := j) (least := least) (period := period) (W := W) (O := O) (by omega) hp (by omega) (by omega)
    rw [rngL_cons, List.range'_succ]
    unfold ovs1
    cases q : Nat.ble (((j + 1) * step) % size + 1) least with
    | true =>
      rw [q] at hb1
      obtain ⟨stops, rest, least', period', kk', ih⟩ := loop1 h1 h2 hs hb hsb n (j + 1) ((j + 1) * step % size) (j + 1) (W ++ [nI (col1 size step sb behind (j + 1))]) (O ++ [nI 0]) (nI (j + 1)) (by omega) (by omega) (by simp; omega) (by simp; omega)
      refine ⟨stops, rest, least', period', kk', ?_⟩
      rw [List.append_assoc, List.append_assoc] at ih
      exact forR_n (by intro z; cases z) hb1 ih
    | false =>
      rw [q] at hb1
      obtain ⟨stops, rest, least', period', kk', ih⟩ := loop1 h1 h2 hs hb hsb n (j + 1) least period (W ++ [nI (col1 size step sb behind (j + 1))]) (O ++ [nI (j + 1 - period)]) (nI (j + 1)) (by omega) (by omega) (by simp; omega) (by simp; omega)
      refine ⟨stops, rest, least', period', kk', ?_⟩
      rw [List.append_assoc, List.append_assoc] at ih
      exact forR_n (by intro z; cases z) hb1 ih
end
theorem eIf_t {σ : List T} {c : List T → Option Bool} {a b : List T → Option T} {q : Option T} (h : c σ = some true) (h' : a σ = q) : eIf c a b σ = q := by unfold eIf; rw [h]; exact h'
theorem eIf_f {σ : List T} {c : List T → Option Bool} {a b : List T → Option T} {q : Option T} (h : c σ = some false) (h' : b σ = q) : eIf c a b σ = q := by unfold eIf; rw [h]; exact h'
noncomputable def dr1 (xs : List Int) (k : Nat) : Int := xs.getD k (match k with | 0 => 6 | 1 => 4 | _ => 5)
noncomputable def sizeN (xs : List Int) : Nat := 2 + (dr1 xs 0 % 11).toNat
noncomputable def stepN (xs : List Int) : Nat := 1 + (dr1 xs 1 % ((sizeN xs - 1 : Nat) : Int)).toNat
noncomputable def stT1 (size step : Nat) : List T := [.unb, .unb, nI size, nI step, .unb, .unb, .unb, .unb, .unb, .unb, .unb, .unb, .unb, .lst ((ovs1 size step size 1 size 0).map nI), .unb, .lst ((mvs1 size step).map nI)] ++ unbs 24
theorem repL_len {α : Type} (l : List α) (n : Nat) : (repL l n).length = n * l.length := by
  induction n with
  | zero => simp [repL]
  | succ n ih => simp [repL, ih, Nat.add_mul]; omega
theorem head1 (xs : List Int) (hx : xs.length ≤ 63) : r_law_0 ([.lst (xs.map .int)] ++ unbs 39) = sSeq s_law_16 r_law_17 (stT1 (sizeN xs) (stepN xs)) := by
  have hl : lim = 100000 := rfl
  unfold stepN
  generalize hsz : sizeN xs = size
  have hsz' : 2 ≤ size ∧ size ≤ 12 := by unfold sizeN at hsz; omega
  generalize hst : 1 + (dr1 xs 1 % ((size - 1 : Nat) : Int)).toNat = step
  have hst' : 1 ≤ step ∧ step < size := by
    have := Int.emod_lt_of_pos (dr1 xs 1) (b := ((size - 1 : Nat) : Int)) (by omega)
    have := Int.emod_nonneg (dr1 xs 1) (b := ((size - 1 : Nat) : Int)) (by omega)
    omega
  generalize hX : T.lst (xs.map .int) = X
  generalize hD : T.lst [T.int (dr1 xs 0), T.int (dr1 xs 1), T.int (dr1 xs 2)] = D
  have i0 : itemT D (nI 0) = some (.int (dr1 xs 0)) := by rw [← hD]; rfl
  have i1 : itemT D (nI 1) = some (.int (dr1 xs 1)) := by rw [← hD]; rfl
  have i2 : itemT D (nI 2) = some (.int (dr1 xs 2)) := by rw [← hD]; rfl
  have nD : D ≠ .unb := by rw [← hD]; intro z; cases z
  have vD : ∀ σ : List T, σ[1]? = some D → eVar 1 σ = some D := fun σ h => eVar_n h nD
  -- drawn
  refine sSeq_s (σ' := X :: D :: unbs 38) (sSet_n (t := D) ?_ nD) ?_
  · rw [← hD, ← hX]
    refine eComp_nm (ι := nI) (x := .rng ((0 : Nat) : Int) ((3 : Nat) : Int)) (l := List.range' 0 3) (fun k => .int (dr1 xs k)) nI_ne rfl rfl (by simp [lim]) fun k hk => ?_
    obtain ⟨_, hk⟩ := List.mem_range'_1.mp hk
    have ht : t2 ltT (eVar 28) (e1 lenT (eVar 0)) ((.lst (xs.map .int) :: unbs 39).set 28 (nI k)) = some (decide (k < xs.length)) :=
      t2_n (x := nI k) (y := nI xs.length) rfl (e1_n (x := .lst (xs.map .int)) rfl ((lenT_l (by simp; omega)).trans (by rw [List.length_map]))) ltT_n
    by_cases q : k < xs.length
    · refine eIf_t (ht.trans (by rw [decide_eq_true q])) (e2_n (x := .lst (xs.map .int)) (y := nI k) rfl rfl (itemT_l (by omega) ?_ (by intro z; cases z)))
      rw [List.getElem?_map, List.getElem?_eq_getElem q]
      unfold dr1
      rw [List.getD_eq_getElem?_getD, List.getElem?_eq_getElem q]
      rfl
    · refine eIf_f (ht.trans (by rw [decide_eq_false q])) ?_
      unfold dr1
      rw [List.getD_eq_getElem?_getD, List.getElem?_eq_none (by omega)]
      have : k = 0 ∨ k = 1 ∨ k = 2 := by omega
      rcases this with rfl | rfl | rfl <;> rfl
  -- size, step, blanks, behind
  refine sSeq_s (σ' := X :: D :: nI size :: unbs 37) (sSet_n (t := nI size) (e2_n (x := nI 2) (y := nI (dr1 xs 0 % ((11 : Nat) : Int)).toNat) rfl (e2_n (x := .int (dr1 xs 0)) (y := nI 11) (e2_n (x := D) (y := nI 0) (vD _ rfl) rfl i0) rfl (modT_int (by omega))) (addT_n.trans (by rw [← hsz]; rfl))) (by intro z; cases z)) ?_
  refine sSeq_s (σ' := X :: D :: nI size :: nI step :: unbs 36) (sSet_n (t := nI step) (e2_n (x := nI 1) (y := nI (dr1 xs 1 % ((size - 1 : Nat) : Int)).toNat) rfl (e2_n (x := .int (dr1 xs 1)) (y := nI (size - 1)) (e2_n (x := D) (y := nI 1) (vD _ rfl) rfl i1) (e2_n (x := nI size) (y := nI 1) rfl rfl (subT_n (by omega))) (modT_int (by omega))) (addT_n.trans (by rw [← hst]))) (by intro z; cases z)) ?_
  generalize hbl : (dr1 xs 2 % ((4 : Nat) : Int)).toNat = blanks
  generalize hbe : (dr1 xs 2 / ((4 : Nat) : Int) % ((3 : Nat) : Int)).toNat = behind
  have hbl' : blanks ≤ 3 := by omega
  have hbe' : behind ≤ 2 := by omega
  refine sSeq_s (σ' := X :: D :: nI size :: nI step :: nI blanks :: unbs 35) (sSet_n (t := nI blanks) (e2_n (x := .int (dr1 xs 2)) (y := nI 4) (e2_n (x := D) (y := nI 2) (vD _ rfl) rfl i2) rfl ((modT_int (by omega)).trans (by rw [hbl]))) (by intro z; cases z)) ?_
  refine sSeq_s (σ' := X :: D :: nI size :: nI step :: nI blanks :: nI behind :: unbs 34) (sSet_n (t := nI behind) (e2_n (x := .int (dr1 xs 2 / ((4 : Nat) : Int))) (y := nI 3) (e2_n (x := .int (dr1 xs 2)) (y := nI 4) (e2_n (x := D) (y := nI 2) (vD _ rfl) rfl i2) rfl (divT_int (by omega) (by omega))) rfl ((modT_int (by omega)).trans (by rw [hbe]))) (by intro z; cases z)) ?_
  -- end
  generalize hE : ((([9] ++ repL [32] blanks) ++ [9]) ++ repL [32] behind) ++ [120, 32, 9] = E
  have hEl : E.length ≤ 12 := by rw [← hE]; simp [repL_len]; omega
  refine sSeq_s (σ' := X :: D :: nI size :: nI step :: nI blanks :: nI behind :: .str E :: unbs 33) (sSet_n (t := .str E) (e2_n (x := .str ((([9] ++ repL [32] blanks) ++ [9]) ++ repL [32] behind)) (y := .str [120, 32, 9]) (e2_n (x := .str (([9] ++ repL [32] blanks) ++ [9])) (y := .str (repL [32] behind)) (e2_n (x := .str ([9] ++ repL [32] blanks)) (y := .str [9]) (e2_n (x := .str [9]) (y := .str (repL [32] blanks)) rfl (e2_n (x := .str [32]) (y := nI blanks) rfl rfl (mulT_s (by simp; omega) (by omega))) (addT_s (by simp [repL_len]; omega))) rfl (addT_s (by simp [repL_len]; omega))) (e2_n (x := .str [32]) (y := nI behind) rfl rfl (mulT_s (by simp; omega) (by omega))) (addT_s (by simp [repL_len]; omega))) rfl ((addT_s (by simp [repL_len]; omega)).trans (by rw [hE]))) (by intro z; cases z)) ?_
  -- columns
  generalize hsb : 2 + blanks / size = sb
  have hsb' : sb ≤ 5 := by have := Nat.div_le_self blanks size; omega
  refine sSeq_s (σ' := X :: D :: nI size :: nI step :: nI blanks :: nI behind :: .str E :: .lst (((List.range' 0 (size + 1)).map (col1 size step sb behind)).map nI) :: unbs 32) (sSet_n (t := .lst (((List.range' 0 (size + 1)).map (col1 size step sb behind)).map nI)) ?_ (by intro z; cases z)) ?_
  · rw [List.map_map]
    refine eComp_nm (ι := nI) (x := .rng ((0 : Nat) : Int) ((size + 1 : Nat) : Int)) (l := List.range' 0 (size + 1)) _ nI_ne rfl ((iterT_rngm (by omega) (by omega)).trans (by rw [Nat.sub_zero])) (by simp; omega) fun k hk => ?_
    obtain ⟨_, hk⟩ := List.mem_range'_1.mp hk
    have hks : k * step ≤ 12 * 11 := Nat.mul_le_mul (by omega) (by omega)
    have hlen : (repL [32] (k * step) ++ E).length ≤ 1000 := by rw [List.length_append, repL_len]; simp; omega
    have hm := mkW_lead (cs := repL [32] (k * step) ++ E) (rs := [k * step, blanks]) (b := behind) (st := [120, 32, 9]) (by rw [← hE]; simp [leadS]) rfl
    have hok : OkC (bumps [] [k * step, blanks]) [k * step, blanks].length := okC_bumps (k := 200) (by simp; omega) (by omega) (by simp)
    refine eCall_n (eLc_n (x := mkW (repL [32] (k * step) ++ E)) (e1_n (x := mkW (repL [32] (k * step) ++ E)) (eCall_n (eLc_n (x := .str (repL [32] (k * step) ++ E)) (e2_n (x := .str (repL [32] (k * step))) (y := .str E) (e2_n (x := .str [32]) (y := nI (k * step)) rfl (e2_n (x := nI k) (y := nI step) rfl rfl (mulT_n (by omega))) (mulT_s (by simp; omega) (by omega))) rfl (addT_s (by rw [repL_len]; simp; omega))) rfl) (N_init_n hlen)) (by rw [hm]; rfl)) (eLc_n (x := nI size) rfl rfl)) ?_
    rw [hm, N_lev hok (by omega) (by omega) (by omega), lev_bumps]
    simp only [Function.comp, col1, divs, List.length_cons, List.length_nil, ← hsb]
    congr 2
    rw [Nat.add_comm behind]
    congr 2
    omega
  refine sSeq_s (σ' := X :: D :: nI size :: nI step :: nI blanks :: nI behind :: .str E :: .lst (((List.range' 0 (size + 1)).map (col1 size step sb behind)).map nI) :: nI sb :: unbs 31) (sSet_n (t := nI sb) (e2_n (x := nI 2) (y := nI (blanks / size)) rfl (e2_n (x := nI blanks) (y := nI size) rfl rfl (divT_n (by omega) (by omega))) (addT_n.trans (by rw [hsb]))) (by intro z; cases z)) ?_
  generalize hC : T.lst (((List.range' 0 (size + 1)).map (col1 size step sb behind)).map nI) = C
  refine sSeq_s (σ' := X :: D :: nI size :: nI step :: nI blanks :: nI behind :: .str E :: C :: nI sb :: .lst [nI (size * sb + behind)] :: unbs 30) (sSet_n (t := .lst [nI (size * sb + behind)]) (atoms_n (mkL_n (eLc_n (e2_n (x := nI (size * sb)) (y := nI behind) (e2_n (x := nI size) (y := nI sb) rfl rfl (mulT_n (by omega))) rfl addT_n) rfl) (by simp [lim])) rfl) (by intro z; cases z)) ?_
  refine sSeq_s (σ' := X :: D :: nI size :: nI step :: nI blanks :: nI behind :: .str E :: C :: nI sb :: .lst [nI (size * sb + behind)] :: nI 0 :: unbs 29) rfl ?_
  refine sSeq_s (σ' := X :: D :: nI size :: nI step :: nI blanks :: nI behind :: .str E :: C :: nI sb :: .lst [nI (size * sb + behind)] :: nI 0 :: nI size :: unbs 28) rfl ?_
  refine sSeq_s (σ' := X :: D :: nI size :: nI step :: nI blanks :: nI behind :: .str E :: C :: nI sb :: .lst [nI (size * sb + behind)] :: nI 0 :: nI size :: nI 0 :: unbs 27) rfl ?_
  refine sSeq_s (σ' := X :: D :: nI size :: nI step :: nI blanks :: nI behind :: .str E :: C :: nI sb :: .lst [nI (size * sb + behind)] :: nI 0 :: nI size :: nI 0 :: .lst [] :: unbs 26) rfl ?_
  -- the loop
  obtain ⟨stops, rest, least', period', kk', hloop⟩ := loop1 (X := X) (D := D) (B := nI blanks) (E := .str E) (C := C) (size := size) (step := step) (sb := sb) (behind := behind) hst'.1 hst'.2 hsz'.2 hbe' hsb' size 0 size 0 [nI (size * sb + behind)] [] .unb (by omega) (by omega) (by simp; omega) (by simp; omega)
  simp only [Nat.zero_mul, Nat.zero_div, Nat.zero_mod, Nat.add_zero, Nat.zero_add] at hloop
  refine sSeq_s (sFor_n (t := .rng ((1 : Nat) : Int) ((size + 1 : Nat) : Int)) rfl ((iterT_rng (by omega) (by omega)).trans (by rw [Nat.add_sub_cancel])) hloop) ?_
  have hW : T.lst ([nI (size * sb + behind)] ++ (List.range' 1 size).map fun k => nI (col1 size step sb behind k)) = C := by
    rw [← hC, List.range'_succ]
    simp only [List.map_cons, List.map_map, List.singleton_append, Nat.zero_add]
    congr 2
    simp [col1]
  unfold sl1
  rw [hW, List.nil_append]
  refine sSeq_s (sIf_f (t2_n (x := C) (y := C) (eVar_n rfl (by rw [← hC]; intro z; cases z)) (eVar_n rfl (by rw [← hC]; intro z; cases z)) (by rw [← hC, neT_nl]; simp)) rfl) ?_
  -- moves
  refine sSeq_s (σ' := [X, D, nI size, nI step, nI blanks, nI behind, .str E, C, nI stops, C, nI rest, nI least', nI period', .lst ((ovs1 size step size 1 size 0).map nI), kk', .lst ((mvs1 size step).map nI)] ++ unbs 24) (sSet_n (t := .lst ((mvs1 size step).map nI)) ?_ (by intro z; cases z)) rfl
  unfold mvs1
  rw [List.map_map]
  refine eComp_nm (ι := nI) (x := .rng ((0 : Nat) : Int) (size : Int)) (l := List.range' 0 size) _ nI_ne rfl ((iterT_rngm (by omega) (by omega)).trans (by rw [Nat.sub_zero])) (by simp; omega) fun k hk => ?_
  obtain ⟨_, hk⟩ := List.mem_range'_1.mp hk
  have hit : ∀ j, j ≤ size → itemT C (nI j) = some (nI (col1 size step sb behind j)) := fun j hj => by
    rw [← hC]
    refine itemT_l (by omega) ?_ (by intro z; cases z)
    rw [List.getElem?_map, List.getElem?_map, List.getElem?_range' (by omega)]
    simp
  have vC : ∀ σ : List T, σ[7]? = some C → eVar 7 σ = some C := fun σ h => eVar_n h (by rw [← hC]; intro z; cases z)
  have hmono : size * (k * step / size) ≤ size * ((k + 1) * step / size) := Nat.mul_le_mul_left _ (Nat.div_le_div_right (Nat.mul_le_mul_right _ (by omega)))
  refine e2_n (x := nI (col1 size step sb behind (k + 1))) (y := nI (col1 size step sb behind k)) (e2_n (x := C) (y := nI (k + 1)) (vC _ rfl) (e2_n (x := nI k) (y := nI 1) rfl rfl addT_n) (hit _ (by omega))) (e2_n (x := C) (y := nI k) (vC _ rfl) rfl (hit _ (by omega))) ((subT_n ?_).trans ?_)
  · simp only [col1, Nat.mul_add]; omega
  · simp only [col1, Nat.mul_add, Function.comp]; congr 2; omega
end Mine
end
noncomputable section
set_option Elab.async false
set_option linter.unusedVariables false
set_option maxRecDepth 100000
namespace Mine
open PySem PySem.W PySem.Calls PyProof.Rows
noncomputable def isTr : Option Res → Bool
  | some (.ret (.bool true)) => true
  | _ => false
theorem isTr_is {r : Option Res} (h : isTr r = true) : r = some (.ret (.bool true)) := by
  unfold isTr at h
  split at h
  · rfl
  · cases h
noncomputable def ok1 (size step : Nat) : Bool := isTr (sSeq s_law_16 r_law_17 (stT1 size step))
theorem lt_succ {P : Nat → Prop} {n : Nat} (h : ∀ k, k < n → P k) (hn : P n) (k : Nat) (hk : k < n + 1) : P k := by
  rcases Nat.lt_succ_iff_lt_or_eq.mp hk with h' | rfl
  · exact h k h'
  · exact hn
theorem lt_zero {P : Nat → Prop} (k : Nat) (hk : k < 0) : P k := absurd hk (Nat.not_lt_zero k)
theorem t1_2_1 : ok1 2 1 = true := by decide +kernel
theorem t1_3_1 : ok1 3 1 = true := by decide +kernel
theorem t1_3_2 : ok1 3 2 = true := by decide +kernel
theorem t1_4_1 : ok1 4 1 = true := by decide +kernel
theorem t1_4_2 : ok1 4 2 = true := by decide +kernel
theorem t1_4_3 : ok1 4 3 = true := by decide +kernel
theorem t1_5_1 : ok1 5 1 = true := by decide +kernel
theorem t1_5_2 : ok1 5 2 = true := by decide +kernel
theorem t1_5_3 : ok1 5 3 = true := by decide +kernel
theorem t1_5_4 : ok1 5 4 = true := by decide +kernel
theorem t1_6_1 : ok1 6 1 = true := by decide +kernel
theorem t1_6_2 : ok1 6 2 = true := by decide +kernel
theorem t1_6_3 : ok1 6 3 = true := by decide +kernel
theorem t1_6_4 : ok1 6 4 = true := by decide +kernel
theorem t1_6_5 : ok1 6 5 = true := by decide +kernel
theorem t1_7_1 : ok1 7 1 = true := by decide +kernel
theorem t1_7_2 : ok1 7 2 = true := by decide +kernel
theorem t1_7_3 : ok1 7 3 = true := by decide +kernel
theorem t1_7_4 : ok1 7 4 = true := by decide +kernel
theorem t1_7_5 : ok1 7 5 = true := by decide +kernel
theorem t1_7_6 : ok1 7 6 = true := by decide +kernel
theorem t1_8_1 : ok1 8 1 = true := by decide +kernel
theorem t1_8_2 : ok1 8 2 = true := by decide +kernel
theorem t1_8_3 : ok1 8 3 = true := by decide +kernel
theorem t1_8_4 : ok1 8 4 = true := by decide +kernel
theorem t1_8_5 : ok1 8 5 = true := by decide +kernel
theorem t1_8_6 : ok1 8 6 = true := by decide +kernel
theorem t1_8_7 : ok1 8 7 = true := by decide +kernel
theorem t1_9_1 : ok1 9 1 = true := by decide +kernel
theorem t1_9_2 : ok1 9 2 = true := by decide +kernel
theorem t1_9_3 : ok1 9 3 = true := by decide +kernel
theorem t1_9_4 : ok1 9 4 = true := by decide +kernel
theorem t1_9_5 : ok1 9 5 = true := by decide +kernel
theorem t1_9_6 : ok1 9 6 = true := by decide +kernel
theorem t1_9_7 : ok1 9 7 = true := by decide +kernel
theorem t1_9_8 : ok1 9 8 = true := by decide +kernel
theorem t1_10_1 : ok1 10 1 = true := by decide +kernel
theorem t1_10_2 : ok1 10 2 = true := by decide +kernel
theorem t1_10_3 : ok1 10 3 = true := by decide +kernel
theorem t1_10_4 : ok1 10 4 = true := by decide +kernel
theorem t1_10_5 : ok1 10 5 = true := by decide +kernel
theorem t1_10_6 : ok1 10 6 = true := by decide +kernel
theorem t1_10_7 : ok1 10 7 = true := by decide +kernel
theorem t1_10_8 : ok1 10 8 = true := by decide +kernel
theorem t1_10_9 : ok1 10 9 = true := by decide +kernel
theorem t1_11_1 : ok1 11 1 = true := by decide +kernel
theorem t1_11_2 : ok1 11 2 = true := by decide +kernel
theorem t1_11_3 : ok1 11 3 = true := by decide +kernel
theorem t1_11_4 : ok1 11 4 = true := by decide +kernel
theorem t1_11_5 : ok1 11 5 = true := by decide +kernel
theorem t1_11_6 : ok1 11 6 = true := by decide +kernel
theorem t1_11_7 : ok1 11 7 = true := by decide +kernel
theorem t1_11_8 : ok1 11 8 = true := by decide +kernel
theorem t1_11_9 : ok1 11 9 = true := by decide +kernel
theorem t1_11_10 : ok1 11 10 = true := by decide +kernel
theorem t1_12_1 : ok1 12 1 = true := by decide +kernel
theorem t1_12_2 : ok1 12 2 = true := by decide +kernel
theorem t1_12_3 : ok1 12 3 = true := by decide +kernel
theorem t1_12_4 : ok1 12 4 = true := by decide +kernel
theorem t1_12_5 : ok1 12 5 = true := by decide +kernel
theorem t1_12_6 : ok1 12 6 = true := by decide +kernel
theorem t1_12_7 : ok1 12 7 = true := by decide +kernel
theorem t1_12_8 : ok1 12 8 = true := by decide +kernel
theorem t1_12_9 : ok1 12 9 = true := by decide +kernel
theorem t1_12_10 : ok1 12 10 = true := by decide +kernel
theorem t1_12_11 : ok1 12 11 = true := by decide +kernel
theorem u1_2 : ∀ k, k < 1 → ok1 2 (k + 1) = true := (lt_succ lt_zero t1_2_1)
theorem u1_3 : ∀ k, k < 2 → ok1 3 (k + 1) = true := (lt_succ (lt_succ lt_zero t1_3_1) t1_3_2)
theorem u1_4 : ∀ k, k < 3 → ok1 4 (k + 1) = true := (lt_succ (lt_succ (lt_succ lt_zero t1_4_1) t1_4_2) t1_4_3)
theorem u1_5 : ∀ k, k < 4 → ok1 5 (k + 1) = true := (lt_succ (lt_succ (lt_succ (lt_succ lt_zero t1_5_1) t1_5_2) t1_5_3) t1_5_4)
theorem u1_6 : ∀ k, k < 5 → ok1 6 (k + 1) = true := (lt_succ (lt_succ (lt_succ (lt_succ (lt_succ lt_zero t1_6_1) t1_6_2) t1_6_3) t1_6_4) t1_6_5)
theorem u1_7 : ∀ k, k < 6 → ok1 7 (k + 1) = true := (lt_succ (lt_succ (lt_succ (lt_succ (lt_succ (lt_succ lt_zero t1_7_1) t1_7_2) t1_7_3) t1_7_4) t1_7_5) t1_7_6)
theorem u1_8 : ∀ k, k < 7 → ok1 8 (k + 1) = true := (lt_succ (lt_succ (lt_succ (lt_succ (lt_succ (lt_succ (lt_succ lt_zero t1_8_1) t1_8_2) t1_8_3) t1_8_4) t1_8_5) t1_8_6) t1_8_7)
theorem u1_9 : ∀ k, k < 8 → ok1 9 (k + 1) = true := (lt_succ (lt_succ (lt_succ (lt_succ (lt_succ (lt_succ (lt_succ (lt_succ lt_zero t1_9_1) t1_9_2) t1_9_3) t1_9_4) t1_9_5) t1_9_6) t1_9_7) t1_9_8)
theorem u1_10 : ∀ k, k < 9 → ok1 10 (k + 1) = true := (lt_succ (lt_succ (lt_succ (lt_succ (lt_succ (lt_succ (lt_succ (lt_succ (lt_succ lt_zero t1_10_1) t1_10_2) t1_10_3) t1_10_4) t1_10_5) t1_10_6) t1_10_7) t1_10_8) t1_10_9)
theorem u1_11 : ∀ k, k < 10 → ok1 11 (k + 1) = true := (lt_succ (lt_succ (lt_succ (lt_succ (lt_succ (lt_succ (lt_succ (lt_succ (lt_succ (lt_succ lt_zero t1_11_1) t1_11_2) t1_11_3) t1_11_4) t1_11_5) t1_11_6) t1_11_7) t1_11_8) t1_11_9) t1_11_10)
theorem u1_12 : ∀ k, k < 11 → ok1 12 (k + 1) = true := (lt_succ (lt_succ (lt_succ (lt_succ (lt_succ (lt_succ (lt_succ (lt_succ (lt_succ (lt_succ (lt_succ lt_zero t1_12_1) t1_12_2) t1_12_3) t1_12_4) t1_12_5) t1_12_6) t1_12_7) t1_12_8) t1_12_9) t1_12_10) t1_12_11)
theorem u1 : ∀ n, n < 11 → ∀ k, k < n + 1 → ok1 (n + 2) (k + 1) = true := (lt_succ (lt_succ (lt_succ (lt_succ (lt_succ (lt_succ (lt_succ (lt_succ (lt_succ (lt_succ (lt_succ lt_zero u1_2) u1_3) u1_4) u1_5) u1_6) u1_7) u1_8) u1_9) u1_10) u1_11) u1_12)
theorem plain1 (xs : List Int) (hx : xs.length ≤ 63) : F_law [.lst (xs.map .int)] = some (.bool true) := by
  have key : r_law_0 ([.lst (xs.map .int)] ++ unbs 39) = some (.ret (.bool true)) := by
    rw [head1 xs hx]
    refine isTr_is ?_
    have h1 := Int.emod_lt_of_pos (dr1 xs 0) (b := (11 : Int)) (by omega)
    have h3 := Int.emod_lt_of_pos (dr1 xs 1) (b := ((sizeN xs - 1 : Nat) : Int)) (by unfold sizeN; omega)
    have h4 : sizeN xs = (dr1 xs 0 % 11).toNat + 2 := Nat.add_comm ..
    have h5 : stepN xs = (dr1 xs 1 % ((sizeN xs - 1 : Nat) : Int)).toNat + 1 := Nat.add_comm ..
    have := u1 _ (show (dr1 xs 0 % 11).toNat < 11 by omega) _ (show (dr1 xs 1 % ((sizeN xs - 1 : Nat) : Int)).toNat < _ by omega)
    rw [← h4, ← h5] at this
    exact this
  unfold F_law fnR
  simp only [List.length_cons, List.length_nil, Nat.zero_add, if_true, key]
end Mine
end
section
open PySem PySem.W PyProof.Rows
set_option Elab.async false
namespace Mine
set_option maxRecDepth 100000 in
set_option maxHeartbeats 8000000 in
open_top hd for PySem.Challenge.rw_rs0102_01
end Mine
end
noncomputable section
set_option Elab.async false
set_option linter.unusedVariables false
set_option maxRecDepth 100000
set_option maxHeartbeats 4000000
namespace Mine
open PySem PySem.W PySem.Calls PyProof.Rows
/-- what a law's walk is given -/
structure Gd where
  prog : Program
  w : World
  p : Program
  loose : List Str
  mg : Str → Option Value
  mb : Str → Option Value
  h₀ : Heap
  kin : (hd.heap_39 w.params).In h₀
  top : TopRead p loose mg mb h₀
  nolim : h₀.NoLimit
noncomputable def flds : List Str := ["raw", "n", "nt", "norm", "is_simple"]
theorem few : flds.length ≤ 1000 := by decide
noncomputable def cx (z : Gd) : Cx := ⟨z.prog, z.w, hd.heap_39 z.w.params, 90, flds, z.p, z.loose, z.mg, z.mb, z.h₀, z.kin, z.top, z.nolim⟩
theorem ndup : flds.Nodup := by decide +kernel
theorem clsOk (z : Gd) : ClsOk (cx z) := ⟨rfl, rfl, rfl, rfl, rfl, ndup, fun f h => by
  have h : f ∈ (["raw", "n", "nt", "norm", "is_simple"] : List Str) := h
  simp only [List.mem_cons, List.not_mem_nil, or_false] at h
  rcases h with rfl | rfl | rfl | rfl | rfl <;> rfl⟩
theorem g_bool (z : Gd) : nsIn (cx z).K mainGlobals "bool" = some none := rfl
theorem bb_bool : bootBuiltins "bool" = some (.type "bool") := rfl
theorem g_isinstance (z : Gd) : nsIn (cx z).K mainGlobals "isinstance" = some none := rfl
theorem bb_isinstance : bootBuiltins "isinstance" = some (.builtin "isinstance") := rfl
theorem g_len (z : Gd) : nsIn (cx z).K mainGlobals "len" = some none := rfl
theorem bb_len : bootBuiltins "len" = some (.builtin "len") := rfl
theorem g_list (z : Gd) : nsIn (cx z).K mainGlobals "list" = some none := rfl
theorem bb_list : bootBuiltins "list" = some (.type "list") := rfl
theorem g_max (z : Gd) : nsIn (cx z).K mainGlobals "max" = some none := rfl
theorem bb_max : bootBuiltins "max" = some (.builtin "max") := rfl
theorem g_min (z : Gd) : nsIn (cx z).K mainGlobals "min" = some none := rfl
theorem bb_min : bootBuiltins "min" = some (.builtin "min") := rfl
theorem g_range (z : Gd) : nsIn (cx z).K mainGlobals "range" = some none := rfl
theorem bb_range : bootBuiltins "range" = some (.type "range") := rfl
theorem g_tuple (z : Gd) : nsIn (cx z).K mainGlobals "tuple" = some none := rfl
theorem bb_tuple : bootBuiltins "tuple" = some (.type "tuple") := rfl
theorem g_Whitespace (z : Gd) : nsIn (cx z).K mainGlobals "Whitespace" = some (some (.ref 90)) := rfl
theorem g__generate_overlap_table (z : Gd) : nsIn (cx z).K mainGlobals "_generate_overlap_table" = some (some (.ref 28)) := rfl
theorem g__law_due (z : Gd) : nsIn (cx z).K mainGlobals "_law_due" = some (some (.ref 108)) := rfl
theorem g__law_euclid (z : Gd) : nsIn (cx z).K mainGlobals "_law_euclid" = some (some (.ref 115)) := rfl
theorem g__law_moved (z : Gd) : nsIn (cx z).K mainGlobals "_law_moved" = some (some (.ref 101)) := rfl
theorem m_init (z : Gd) : findIn (cx z).K (.ref (cx z).C) "__init__" = some (some (.ref 45)) := rfl
theorem nf_indent_level : ("indent_level" : Str) ∉ flds := by decide +kernel
theorem m_indent_level (z : Gd) : findIn (cx z).K (.ref (cx z).C) "indent_level" = some (some (.ref 59)) := rfl
theorem nf_longest_run_of_spaces : ("longest_run_of_spaces" : Str) ∉ flds := by decide +kernel
theorem m_longest_run_of_spaces (z : Gd) : findIn (cx z).K (.ref (cx z).C) "longest_run_of_spaces" = some (some (.ref 52)) := rfl
theorem nf_not_equal_witness : ("not_equal_witness" : Str) ∉ flds := by decide +kernel
theorem m_not_equal_witness (z : Gd) : findIn (cx z).K (.ref (cx z).C) "not_equal_witness" = some (some (.ref 73)) := rfl
theorem ok_W_init (z : Gd) : FnOk (cx z) 2 90 F_W_init := by
  refine cls_ok (X := cx z) (sc := sc_W_init) (pn := ["self", "ws"]) (N := 7) (fb := r_W_init_0) rfl (m_init z) rfl rfl rfl (fnSc_of (by decide +kernel)) v_W_init_self (mem (i := 0) rfl) rfl rfl (fro0_of rfl) rfl ?_ (bind2 fun _ _ => rfl)
  refine sCons_ (fa := s_W_init_0) (fb := r_W_init_1) ?_ ?_
  · exact (sSetAttr (j := 0) (clsOk z) (v := v_W_init_self) (mem (i := 0) rfl) rfl self_W_init rfl few (rName (v := v_W_init_ws) (mem (i := 1) rfl) rfl))
  refine sCons_ (fa := s_W_init_1) (fb := r_W_init_2) ?_ ?_
  · exact (sSwap2 (v1 := v_W_init_S) (v2 := v_W_init_T) (mem (i := 2) rfl) (mem (i := 3) rfl) rfl rfl rfl rfl rfl rfl (by decide +kernel) (rTuple (rLc (rClsStr (mem (i := 0) rfl) (g_Whitespace z) rfl rfl (by rfl)) (rLc (rClsStr (mem (i := 0) rfl) (g_Whitespace z) rfl rfl (by rfl)) rL0))))
  refine sCons_ (fa := s_W_init_2) (fb := r_W_init_3) ?_ ?_
  · exact (sAssignOwn (v := v_W_init_count) (mem (i := 4) rfl) rfl rfl (fList rL0))
  refine sCons_ (fa := s_W_init_3) (fb := r_W_init_4) ?_ ?_
  · exact (sAssign3 (v1 := v_W_init_b) (v2 := v_W_init_n) (v3 := v_W_init_nt) (mem (i := 5) rfl) (mem (i := 6) rfl) (mem (i := 7) rfl) rfl rfl rfl rfl rfl rfl rInt hat_int)
  refine sCons_ (fa := s_W_init_4) (fb := r_W_init_5) ?_ ?_
  · exact (sFor_ (v := v_W_init_ch) (mem (i := 8) rfl) rfl rfl (st_of rfl) (rAttrSelf (i := 0) (clsOk z) (v := v_W_init_self) (mem (i := 0) rfl) rfl rfl) (sCons_ (sIf_ (tCmp cEq (RefE.w (rName (v := v_W_init_ch) (mem (i := 8) rfl) rfl)) (RefE.w (rName (v := v_W_init_S) (mem (i := 2) rfl) rfl)) rfl) (sCons_ (sAssign (v := v_W_init_n) (mem (i := 6) rfl) rfl rfl (rBin bAdd (RefE.w (rName (v := v_W_init_n) (mem (i := 6) rfl) rfl)) (RefE.w rInt))) (sCons_ (sAssign (v := v_W_init_b) (mem (i := 5) rfl) rfl rfl (rBin bAdd (RefE.w (rName (v := v_W_init_b) (mem (i := 5) rfl) rfl)) (RefE.w rInt))) sNil_)) (sCons_ (sIf_ (tCmp cEq (RefE.w (rName (v := v_W_init_ch) (mem (i := 8) rfl) rfl)) (RefE.w (rName (v := v_W_init_T) (mem (i := 3) rfl) rfl)) rfl) (sCons_ (sAssign (v := v_W_init_n) (mem (i := 6) rfl) rfl rfl (rBin bAdd (RefE.w (rName (v := v_W_init_n) (mem (i := 6) rfl) rfl)) (RefE.w rInt))) (sCons_ (sAssign (v := v_W_init_nt) (mem (i := 7) rfl) rfl rfl (rBin bAdd (RefE.w (rName (v := v_W_init_nt) (mem (i := 7) rfl) rfl)) (RefE.w rInt))) (sCons_ (sIf_ (tCmp cGe (RefE.w (rName (v := v_W_init_b) (mem (i := 5) rfl) rfl)) (RefE.w (rCall1 (mem (i := 1) rfl) (g_len z) bb_len rfl uLen (rNameW (v := v_W_init_count) (mem (i := 4) rfl) rfl))) rfl) (sCons_ (sAssignOwn (v := v_W_init_count) (mem (i := 4) rfl) rfl rfl (fAdd (rNameW (v := v_W_init_count) (mem (i := 4) rfl) rfl) (RefE.w (rBin bMul (RefE.w (rList (rLc rInt rL0))) (RefE.w (rBin bAdd (RefE.w (rBin bSub (RefE.w (rName (v := v_W_init_b) (mem (i := 5) rfl) rfl)) (RefE.w (rCall1 (mem (i := 1) rfl) (g_len z) bb_len rfl uLen (rNameW (v := v_W_init_count) (mem (i := 4) rfl) rfl))))) (RefE.w rInt))))))) sNil_) sNil_) (sCons_ (sSetItem (v := v_W_init_count) (mem (i := 4) rfl) rfl (rName (v := v_W_init_b) (mem (i := 5) rfl) rfl) (rBin bAdd (RefE.w (rItem (rNameW (v := v_W_init_count) (mem (i := 4) rfl) rfl) (rName (v := v_W_init_b) (mem (i := 5) rfl) rfl))) (RefE.w rInt))) (sCons_ (sAssign (v := v_W_init_b) (mem (i := 5) rfl) rfl rfl rInt) sNil_))))) (sCons_ sBreak sNil_)) sNil_)) sNil_))
  refine sCons_ (fa := s_W_init_5) (fb := r_W_init_6) ?_ ?_
  · exact (sSetAttr (j := 1) (clsOk z) (v := v_W_init_self) (mem (i := 0) rfl) rfl self_W_init rfl few (rName (v := v_W_init_n) (mem (i := 6) rfl) rfl))
  refine sCons_ (fa := s_W_init_6) (fb := r_W_init_7) ?_ ?_
  · exact (sSetAttr (j := 2) (clsOk z) (v := v_W_init_self) (mem (i := 0) rfl) rfl self_W_init rfl few (rName (v := v_W_init_nt) (mem (i := 7) rfl) rfl))
  refine sCons_ (fa := s_W_init_7) (fb := r_W_init_8) ?_ ?_
  · exact (sSetAttr (j := 3) (clsOk z) (v := v_W_init_self) (mem (i := 0) rfl) rfl self_W_init rfl few (rTuple (rLc (rCall1 (mem (i := 2) rfl) (g_tuple z) bb_tuple rfl uTup (rNameW (v := v_W_init_count) (mem (i := 4) rfl) rfl)) (rLc (rName (v := v_W_init_b) (mem (i := 5) rfl) rfl) rL0))))
  refine sCons_ (fa := s_W_init_8) (fb := sNil) ?_ ?_
  · exact (sSetAttr (j := 4) (clsOk z) (v := v_W_init_self) (mem (i := 0) rfl) rfl self_W_init rfl few (rCmp cLe (RefE.w (rCall1 (mem (i := 1) rfl) (g_len z) bb_len rfl uLen (rNameW (v := v_W_init_count) (mem (i := 4) rfl) rfl))) (RefE.w rInt) rfl))
  exact sNil_
theorem okN_W_init (z : Gd) : FnOk (cx z) 2 90 N_W_init := N_W_init_eq ▸ ok_W_init z
theorem ok_W_indent_level (z : Gd) : FnOk (cx z) 1 59 F_W_indent_level := by
  refine fn_ok (X := cx z) (sc := sc_W_indent_level) (pn := ["self", "tabsize"]) (N := 4) (fb := r_W_indent_level_0) rfl rfl (fnSc_of (by decide +kernel)) (fro_of rfl) rfl ?_ (bind2 fun _ _ => rfl)
  refine sCons_ (fa := s_W_indent_level_0) (fb := r_W_indent_level_1) ?_ ?_
  · exact (sUnpack2 (v1 := v_W_indent_level_count) (v2 := v_W_indent_level_trailing) (mem (i := 2) rfl) (mem (i := 3) rfl) rfl rfl rfl rfl (rAttr (i := 3) (clsOk z) (rName (v := v_W_indent_level_self) (mem (i := 0) rfl) rfl) rfl))
  refine sCons_ (fa := s_W_indent_level_1) (fb := r_W_indent_level_2) ?_ ?_
  · exact (sAssign (v := v_W_indent_level_il) (mem (i := 4) rfl) rfl rfl rInt)
  refine sCons_ (fa := s_W_indent_level_2) (fb := r_W_indent_level_3) ?_ ?_
  · exact (sFor_ (v := v_W_indent_level_i) (mem (i := 5) rfl) rfl rfl (st_of rfl) (rCall2 (mem (i := 1) rfl) (g_range z) bb_range rfl bRng2 (RefE.w (rName (v := v_W_indent_level_tabsize) (mem (i := 1) rfl) rfl)) (RefE.w (rCall1 (mem (i := 0) rfl) (g_len z) bb_len rfl uLen (RefE.w (rName (v := v_W_indent_level_count) (mem (i := 2) rfl) rfl))))) (sCons_ (sAssign (v := v_W_indent_level_il) (mem (i := 4) rfl) rfl rfl (rBin bAdd (RefE.w (rName (v := v_W_indent_level_il) (mem (i := 4) rfl) rfl)) (RefE.w (rBin bMul (RefE.w (rBin bDiv (RefE.w (rName (v := v_W_indent_level_i) (mem (i := 5) rfl) rfl)) (RefE.w (rName (v := v_W_indent_level_tabsize) (mem (i := 1) rfl) rfl)))) (RefE.w (rItem (RefE.w (rName (v := v_W_indent_level_count) (mem (i := 2) rfl) rfl)) (rName (v := v_W_indent_level_i) (mem (i := 5) rfl) rfl))))))) sNil_))
  refine sCons_ (fa := s_W_indent_level_3) (fb := sNil) ?_ ?_
  · exact (sReturn (rBin bAdd (RefE.w (rName (v := v_W_indent_level_trailing) (mem (i := 3) rfl) rfl)) (RefE.w (rBin bMul (RefE.w (rName (v := v_W_indent_level_tabsize) (mem (i := 1) rfl) rfl)) (RefE.w (rBin bAdd (RefE.w (rName (v := v_W_indent_level_il) (mem (i := 4) rfl) rfl)) (RefE.w (rAttr (i := 2) (clsOk z) (rName (v := v_W_indent_level_self) (mem (i := 0) rfl) rfl) rfl))))))))
  exact sNil_
theorem okN_W_indent_level (z : Gd) : FnOk (cx z) 1 59 N_W_indent_level := N_W_indent_level_eq ▸ ok_W_indent_level z
theorem ok_generate_overlap_table (z : Gd) : FnOk (cx z) 1 28 F_generate_overlap_table := by
  refine fn_ok (X := cx z) (sc := sc_generate_overlap_table) (pn := ["prefix"]) (N := 3) (fb := r_generate_overlap_table_0) rfl rfl (fnSc_of (by decide +kernel)) (fro_of rfl) rfl ?_ (bind1 fun _ => rfl)
  refine sCons_ (fa := s_generate_overlap_table_0) (fb := r_generate_overlap_table_1) ?_ ?_
  · exact (sAssignOwn (v := v_generate_overlap_table_table) (mem (i := 1) rfl) rfl rfl (fMul (RefE.w (rList (rLc rInt rL0))) (RefE.w (rCall1 (mem (i := 0) rfl) (g_len z) bb_len rfl uLen (RefE.w (rName (v := v_generate_overlap_table_prefix) (mem (i := 0) rfl) rfl))))))
  refine sCons_ (fa := s_generate_overlap_table_1) (fb := r_generate_overlap_table_2) ?_ ?_
  · exact (sFor_ (v := v_generate_overlap_table_i) (mem (i := 2) rfl) rfl rfl (st_of rfl) (rCall2 (mem (i := 1) rfl) (g_range z) bb_range rfl bRng2 (RefE.w rInt) (RefE.w (rCall1 (mem (i := 0) rfl) (g_len z) bb_len rfl uLen (RefE.w (rName (v := v_generate_overlap_table_prefix) (mem (i := 0) rfl) rfl))))) (sCons_ (sAssign (v := v_generate_overlap_table_idx) (mem (i := 3) rfl) rfl rfl (rItem (rNameW (v := v_generate_overlap_table_table) (mem (i := 1) rfl) rfl) (rBin bSub (RefE.w (rName (v := v_generate_overlap_table_i) (mem (i := 2) rfl) rfl)) (RefE.w rInt)))) (sCons_ (sWhile_ (tCmp cNe (RefE.w (rItem (RefE.w (rName (v := v_generate_overlap_table_prefix) (mem (i := 0) rfl) rfl)) (rName (v := v_generate_overlap_table_i) (mem (i := 2) rfl) rfl))) (RefE.w (rItem (RefE.w (rName (v := v_generate_overlap_table_prefix) (mem (i := 0) rfl) rfl)) (rName (v := v_generate_overlap_table_idx) (mem (i := 3) rfl) rfl))) rfl) (sCons_ (sIf_ (tCmp cEq (RefE.w (rName (v := v_generate_overlap_table_idx) (mem (i := 3) rfl) rfl)) (RefE.w rInt) rfl) (sCons_ (sSetItem (v := v_generate_overlap_table_table) (mem (i := 1) rfl) rfl (rName (v := v_generate_overlap_table_i) (mem (i := 2) rfl) rfl) rInt) (sCons_ sBreak sNil_)) sNil_) (sCons_ (sAssign (v := v_generate_overlap_table_idx) (mem (i := 3) rfl) rfl rfl (rItem (rNameW (v := v_generate_overlap_table_table) (mem (i := 1) rfl) rfl) (rBin bSub (RefE.w (rName (v := v_generate_overlap_table_idx) (mem (i := 3) rfl) rfl)) (RefE.w rInt)))) sNil_)) (sCons_ (sSetItem (v := v_generate_overlap_table_table) (mem (i := 1) rfl) rfl (rName (v := v_generate_overlap_table_i) (mem (i := 2) rfl) rfl) (rBin bAdd (RefE.w (rName (v := v_generate_overlap_table_idx) (mem (i := 3) rfl) rfl)) (RefE.w rInt))) sNil_)) sNil_)))
  refine sCons_ (fa := s_generate_overlap_table_2) (fb := sNil) ?_ ?_
  · exact (sReturnOwn (v := v_generate_overlap_table_table) (mem (i := 1) rfl) rfl)
  exact sNil_
theorem ok_W_longest_run_of_spaces (z : Gd) : FnOk (cx z) 1 52 F_W_longest_run_of_spaces := by
  refine fn_ok (X := cx z) (sc := sc_W_longest_run_of_spaces) (pn := ["self"]) (N := 2) (fb := r_W_longest_run_of_spaces_0) rfl rfl (fnSc_of (by decide +kernel)) (fro_of rfl) rfl ?_ (bind1 fun _ => rfl)
  refine sCons_ (fa := s_W_longest_run_of_spaces_0) (fb := r_W_longest_run_of_spaces_1) ?_ ?_
  · exact (sUnpack2 (v1 := v_W_longest_run_of_spaces_count) (v2 := v_W_longest_run_of_spaces_trailing) (mem (i := 1) rfl) (mem (i := 2) rfl) rfl rfl rfl rfl (rAttr (i := 3) (clsOk z) (rName (v := v_W_longest_run_of_spaces_self) (mem (i := 0) rfl) rfl) rfl))
  refine sCons_ (fa := s_W_longest_run_of_spaces_1) (fb := sNil) ?_ ?_
  · exact (sReturn (rCall2 (mem (i := 1) rfl) (g_max z) bb_max rfl bMax2 (RefE.w (rBin bSub (RefE.w (rCall1 (mem (i := 0) rfl) (g_len z) bb_len rfl uLen (RefE.w (rName (v := v_W_longest_run_of_spaces_count) (mem (i := 1) rfl) rfl)))) (RefE.w rInt))) (RefE.w (rName (v := v_W_longest_run_of_spaces_trailing) (mem (i := 2) rfl) rfl))))
  exact sNil_
theorem ok_W_not_equal_witness (z : Gd) : FnOk (cx z) 2 73 F_W_not_equal_witness := by
  refine fn_ok (X := cx z) (sc := sc_W_not_equal_witness) (pn := ["self", "other"]) (N := 3) (fb := r_W_not_equal_witness_0) rfl rfl (fnSc_of (by decide +kernel)) (fro_of rfl) rfl ?_ (bind2 fun _ _ => rfl)
  refine sCons_ (fa := s_W_not_equal_witness_0) (fb := r_W_not_equal_witness_1) ?_ ?_
  · exact (sAssign (v := v_W_not_equal_witness_n) (mem (i := 2) rfl) rfl rfl (rBin bAdd (RefE.w (rCall2 (mem (i := 0) rfl) (g_max z) bb_max rfl bMax2 (RefE.w (rMeth (f := 52) (clsOk z) (rInst (rName (v := v_W_not_equal_witness_self) (mem (i := 0) rfl) rfl)) (m_longest_run_of_spaces z) rfl nf_longest_run_of_spaces rfl ((ok_W_longest_run_of_spaces z).le (by decide)) rL0 inst_is (hs := (fun _ => .inl rfl)))) (RefE.w (rMeth (f := 52) (clsOk z) (rInst (rName (v := v_W_not_equal_witness_other) (mem (i := 1) rfl) rfl)) (m_longest_run_of_spaces z) rfl nf_longest_run_of_spaces rfl ((ok_W_longest_run_of_spaces z).le (by decide)) rL0 inst_is (hs := (fun _ => .inl rfl)))))) (RefE.w rInt)))
  refine sCons_ (fa := s_W_not_equal_witness_1) (fb := r_W_not_equal_witness_2) ?_ ?_
  · exact (sAssignOwn (v := v_W_not_equal_witness_a) (mem (i := 3) rfl) rfl rfl (fList rL0))
  refine sCons_ (fa := s_W_not_equal_witness_2) (fb := r_W_not_equal_witness_3) ?_ ?_
  · exact (sFor_ (v := v_W_not_equal_witness_ts) (mem (i := 4) rfl) rfl rfl (st_of rfl) (rCall2 (mem (i := 1) rfl) (g_range z) bb_range rfl bRng2 (RefE.w rInt) (RefE.w (rBin bAdd (RefE.w (rName (v := v_W_not_equal_witness_n) (mem (i := 2) rfl) rfl)) (RefE.w rInt)))) (sCons_ (sIf_ (tCmp cNe (RefE.w (rMeth (f := 59) (clsOk z) (rInst (rName (v := v_W_not_equal_witness_self) (mem (i := 0) rfl) rfl)) (m_indent_level z) rfl nf_indent_level rfl ((ok_W_indent_level z).le (by decide)) (rLc (rName (v := v_W_not_equal_witness_ts) (mem (i := 4) rfl) rfl) rL0) inst_is (hs := (fun _ => .inr ⟨_, _, rfl, rfl, rfl⟩)))) (RefE.w (rMeth (f := 59) (clsOk z) (rInst (rName (v := v_W_not_equal_witness_other) (mem (i := 1) rfl) rfl)) (m_indent_level z) rfl nf_indent_level rfl ((ok_W_indent_level z).le (by decide)) (rLc (rName (v := v_W_not_equal_witness_ts) (mem (i := 4) rfl) rfl) rL0) inst_is (hs := (fun _ => .inr ⟨_, _, rfl, rfl, rfl⟩)))) rfl) (sCons_ (sAppend (v := v_W_not_equal_witness_a) (mem (i := 3) rfl) rfl (rTuple (rLc (rName (v := v_W_not_equal_witness_ts) (mem (i := 4) rfl) rfl) (rLc (rMeth (f := 59) (clsOk z) (rInst (rName (v := v_W_not_equal_witness_self) (mem (i := 0) rfl) rfl)) (m_indent_level z) rfl nf_indent_level rfl ((ok_W_indent_level z).le (by decide)) (rLc (rName (v := v_W_not_equal_witness_ts) (mem (i := 4) rfl) rfl) rL0) inst_is (hs := (fun _ => .inr ⟨_, _, rfl, rfl, rfl⟩))) (rLc (rMeth (f := 59) (clsOk z) (rInst (rName (v := v_W_not_equal_witness_other) (mem (i := 1) rfl) rfl)) (m_indent_level z) rfl nf_indent_level rfl ((ok_W_indent_level z).le (by decide)) (rLc (rName (v := v_W_not_equal_witness_ts) (mem (i := 4) rfl) rfl) rL0) inst_is (hs := (fun _ => .inr ⟨_, _, rfl, rfl, rfl⟩))) rL0))))) sNil_) sNil_) sNil_))
  refine sCons_ (fa := s_W_not_equal_witness_3) (fb := sNil) ?_ ?_
  · exact (sReturnOwn (v := v_W_not_equal_witness_a) (mem (i := 3) rfl) rfl)
  exact sNil_
theorem okN_W_not_equal_witness (z : Gd) : FnOk (cx z) 2 73 N_W_not_equal_witness := N_W_not_equal_witness_eq ▸ ok_W_not_equal_witness z
theorem ok_law_moved (z : Gd) : FnOk (cx z) 3 101 F_law_moved := by
  refine fn_ok (X := cx z) (sc := sc_law_moved) (pn := ["run"]) (N := 2) (fb := r_law_moved_0) rfl rfl (fnSc_of (by decide +kernel)) (fro_of rfl) rfl ?_ (bind1 fun _ => rfl)
  refine sCons_ (fa := s_law_moved_0) (fb := r_law_moved_1) ?_ ?_
  · exact (sAssign (v := v_law_moved_before) (mem (i := 1) rfl) rfl rfl (rCallF (mem (i := 0) rfl) (g_Whitespace z) rfl ((okN_W_init z).le (by decide)) (rLc (rBin bAdd (RefE.w (rBin bMul (RefE.w (rStr (by rfl))) (RefE.w (rName (v := v_law_moved_run) (mem (i := 0) rfl) rfl)))) (RefE.w (rStr (by rfl)))) rL0)))
  refine sCons_ (fa := s_law_moved_1) (fb := r_law_moved_2) ?_ ?_
  · exact (sAssign (v := v_law_moved_after) (mem (i := 2) rfl) rfl rfl (rCallF (mem (i := 0) rfl) (g_Whitespace z) rfl ((okN_W_init z).le (by decide)) (rLc (rBin bAdd (RefE.w (rBin bMul (RefE.w (rStr (by rfl))) (RefE.w (rBin bSub (RefE.w (rName (v := v_law_moved_run) (mem (i := 0) rfl) rfl)) (RefE.w rInt))))) (RefE.w (rStr (by rfl)))) rL0)))
  refine sCons_ (fa := s_law_moved_2) (fb := sNil) ?_ ?_
  · exact (sReturn (rMeth (f := 73) (clsOk z) (rInst (rName (v := v_law_moved_before) (mem (i := 1) rfl) rfl)) (m_not_equal_witness z) rfl nf_not_equal_witness rfl ((okN_W_not_equal_witness z).le (by decide)) (rLc (rName (v := v_law_moved_after) (mem (i := 2) rfl) rfl) rL0) inst_is (hs := (fun _ => .inr ⟨_, _, rfl, rfl, rfl⟩))))
  exact sNil_
theorem ok_law_due (z : Gd) : FnOk (cx z) 1 108 F_law_due := by
  refine fn_ok (X := cx z) (sc := sc_law_due) (pn := ["run"]) (N := 3) (fb := r_law_due_0) rfl rfl (fnSc_of (by decide +kernel)) (fro_of rfl) rfl ?_ (bind1 fun _ => rfl)
  refine sCons_ (fa := s_law_due_0) (fb := r_law_due_1) ?_ ?_
  · exact (sAssignOwn (v := v_law_due_due) (mem (i := 1) rfl) rfl rfl (fList rL0))
  refine sCons_ (fa := s_law_due_1) (fb := r_law_due_2) ?_ ?_
  · exact (sFor_ (v := v_law_due_width) (mem (i := 2) rfl) rfl rfl (st_of rfl) (rCall2 (mem (i := 0) rfl) (g_range z) bb_range rfl bRng2 (RefE.w rInt) (RefE.w (rBin bAdd (RefE.w (rName (v := v_law_due_run) (mem (i := 0) rfl) rfl)) (RefE.w rInt)))) (sCons_ (sAssign (v := v_law_due_stop) (mem (i := 3) rfl) rfl rfl (rBin bSub (RefE.w (rBin bAdd (RefE.w (rName (v := v_law_due_run) (mem (i := 0) rfl) rfl)) (RefE.w (rName (v := v_law_due_width) (mem (i := 2) rfl) rfl)))) (RefE.w (rBin bMod (RefE.w (rName (v := v_law_due_run) (mem (i := 0) rfl) rfl)) (RefE.w (rName (v := v_law_due_width) (mem (i := 2) rfl) rfl)))))) (sCons_ (sIf_ (tCmp cEq (RefE.w (rBin bMod (RefE.w (rName (v := v_law_due_run) (mem (i := 0) rfl) rfl)) (RefE.w (rName (v := v_law_due_width) (mem (i := 2) rfl) rfl)))) (RefE.w rInt) rfl) (sCons_ (sAppend (v := v_law_due_due) (mem (i := 1) rfl) rfl (rTuple (rLc (rName (v := v_law_due_width) (mem (i := 2) rfl) rfl) (rLc (rName (v := v_law_due_stop) (mem (i := 3) rfl) rfl) (rLc (rBin bAdd (RefE.w (rName (v := v_law_due_run) (mem (i := 0) rfl) rfl)) (RefE.w rInt)) rL0))))) sNil_) (sCons_ (sAppend (v := v_law_due_due) (mem (i := 1) rfl) rfl (rTuple (rLc (rName (v := v_law_due_width) (mem (i := 2) rfl) rfl) (rLc (rName (v := v_law_due_stop) (mem (i := 3) rfl) rfl) (rLc (rBin bAdd (RefE.w (rName (v := v_law_due_stop) (mem (i := 3) rfl) rfl)) (RefE.w rInt)) rL0))))) sNil_)) sNil_)))
  refine sCons_ (fa := s_law_due_2) (fb := sNil) ?_ ?_
  · exact (sReturnOwn (v := v_law_due_due) (mem (i := 1) rfl) rfl)
  exact sNil_
theorem ok_law_euclid (z : Gd) : FnOk (cx z) 1 115 F_law_euclid := by
  refine fn_ok (X := cx z) (sc := sc_law_euclid) (pn := ["one", "other"]) (N := 1) (fb := r_law_euclid_0) rfl rfl (fnSc_of (by decide +kernel)) (fro_of rfl) rfl ?_ (bind2 fun _ _ => rfl)
  refine sCons_ (fa := s_law_euclid_0) (fb := r_law_euclid_1) ?_ ?_
  · exact (sAssign (v := v_law_euclid_numbers) (mem (i := 2) rfl) rfl rfl (rList rL0))
  refine sCons_ (fa := s_law_euclid_1) (fb := r_law_euclid_2) ?_ ?_
  · exact (sWhile_ (tCmp cGt (RefE.w (rBin bAdd (RefE.w (rName (v := v_law_euclid_one) (mem (i := 0) rfl) rfl)) (RefE.w (rName (v := v_law_euclid_other) (mem (i := 1) rfl) rfl)))) (RefE.w rInt) rfl) (sCons_ (sSwap2 (v1 := v_law_euclid_one) (v2 := v_law_euclid_other) (mem (i := 0) rfl) (mem (i := 1) rfl) rfl rfl rfl rfl rfl rfl (by decide +kernel) (rTuple (rLc (rCall2 (mem (i := 2) rfl) (g_min z) bb_min rfl bMin2 (RefE.w (rName (v := v_law_euclid_one) (mem (i := 0) rfl) rfl)) (RefE.w (rName (v := v_law_euclid_other) (mem (i := 1) rfl) rfl))) (rLc (rCall2 (mem (i := 1) rfl) (g_max z) bb_max rfl bMax2 (RefE.w (rName (v := v_law_euclid_one) (mem (i := 0) rfl) rfl)) (RefE.w (rName (v := v_law_euclid_other) (mem (i := 1) rfl) rfl))) rL0)))) (sCons_ (sAssign (v := v_law_euclid_numbers) (mem (i := 2) rfl) rfl rfl (rBin bAdd (RefE.w (rCall1 (mem (i := 0) rfl) (g_list z) bb_list rfl uLst (RefE.w (rCall2 (mem (i := 3) rfl) (g_range z) bb_range rfl bRng2 (RefE.w (rBin bSub (RefE.w (rBin bSub (RefE.w (rName (v := v_law_euclid_other) (mem (i := 1) rfl) rfl)) (RefE.w (rName (v := v_law_euclid_one) (mem (i := 0) rfl) rfl)))) (RefE.w rInt))) (RefE.w (rBin bSub (RefE.w (rName (v := v_law_euclid_other) (mem (i := 1) rfl) rfl)) (RefE.w rInt))))))) (RefE.w (rName (v := v_law_euclid_numbers) (mem (i := 2) rfl) rfl)))) (sCons_ (sAug (v := v_law_euclid_other) (mem (i := 1) rfl) rfl rfl bIsub (rName (v := v_law_euclid_one) (mem (i := 0) rfl) rfl)) sNil_))) sNil_)
  refine sCons_ (fa := s_law_euclid_2) (fb := sNil) ?_ ?_
  · exact (sReturn (rName (v := v_law_euclid_numbers) (mem (i := 2) rfl) rfl))
  exact sNil_
theorem ok_law (z : Gd) : FnOk (cx z) 4 120 F_law := by
  refine fn_ok (X := cx z) (sc := sc_law) (pn := ["script"]) (N := 39) (fb := r_law_0) rfl rfl (fnSc_of (by decide +kernel)) (fro_of rfl) rfl ?_ (bind1 fun _ => rfl)
  refine sCons_ (fa := s_law_0) (fb := r_law_1) ?_ ?_
  · exact (sComp (v := v_law_drawn) (mem (i := 1) rfl) rfl rfl rfl (st_of rfl) (sc' := sc_law_c1) (cl := [28]) (compSc_of (by decide +kernel)) (RefE.w (rCall1 (mem (i := 6) rfl) (g_range z) bb_range rfl uRng1 (RefE.w rInt))) (tgName (v := v_law_c1_k) (mem (i := 0) rfl) rfl rfl) ifs0 (rIf (tCmp cLt (RefE.w (rName (v := v_law_c1_k) (mem (i := 0) rfl) rfl)) (RefE.w (rCall1 (mem (i := 0) rfl) (g_len z) bb_len rfl uLen (RefE.w (rName (v := v_law_c1_script) (mem (i := 1) rfl) rfl)))) rfl) (rItem (RefE.w (rName (v := v_law_c1_script) (mem (i := 1) rfl) rfl)) (rName (v := v_law_c1_k) (mem (i := 0) rfl) rfl)) (rItem (RefE.w (rTuple (rLc rInt (rLc rInt (rLc rInt rL0))))) (rName (v := v_law_c1_k) (mem (i := 0) rfl) rfl))) rfl)
  refine sCons_ (fa := s_law_1) (fb := r_law_2) ?_ ?_
  · exact (sAssign (v := v_law_size) (mem (i := 2) rfl) rfl rfl (rBin bAdd (RefE.w rInt) (RefE.w (rBin bMod (RefE.w (rItem (RefE.w (rName (v := v_law_drawn) (mem (i := 1) rfl) rfl)) rInt)) (RefE.w rInt)))))
  refine sCons_ (fa := s_law_2) (fb := r_law_3) ?_ ?_
  · exact (sAssign (v := v_law_step) (mem (i := 3) rfl) rfl rfl (rBin bAdd (RefE.w rInt) (RefE.w (rBin bMod (RefE.w (rItem (RefE.w (rName (v := v_law_drawn) (mem (i := 1) rfl) rfl)) rInt)) (RefE.w (rBin bSub (RefE.w (rName (v := v_law_size) (mem (i := 2) rfl) rfl)) (RefE.w rInt)))))))
  refine sCons_ (fa := s_law_3) (fb := r_law_4) ?_ ?_
  · exact (sAssign (v := v_law_blanks) (mem (i := 4) rfl) rfl rfl (rBin bMod (RefE.w (rItem (RefE.w (rName (v := v_law_drawn) (mem (i := 1) rfl) rfl)) rInt)) (RefE.w rInt)))
  refine sCons_ (fa := s_law_4) (fb := r_law_5) ?_ ?_
  · exact (sAssign (v := v_law_behind) (mem (i := 5) rfl) rfl rfl (rBin bMod (RefE.w (rBin bDiv (RefE.w (rItem (RefE.w (rName (v := v_law_drawn) (mem (i := 1) rfl) rfl)) rInt)) (RefE.w rInt))) (RefE.w rInt)))
  refine sCons_ (fa := s_law_5) (fb := r_law_6) ?_ ?_
  · exact (sAssign (v := v_law_end) (mem (i := 6) rfl) rfl rfl (rBin bAdd (RefE.w (rBin bAdd (RefE.w (rBin bAdd (RefE.w (rBin bAdd (RefE.w (rStr (by rfl))) (RefE.w (rBin bMul (RefE.w (rStr (by rfl))) (RefE.w (rName (v := v_law_blanks) (mem (i := 4) rfl) rfl)))))) (RefE.w (rStr (by rfl))))) (RefE.w (rBin bMul (RefE.w (rStr (by rfl))) (RefE.w (rName (v := v_law_behind) (mem (i := 5) rfl) rfl)))))) (RefE.w (rStr (by rfl)))))
  refine sCons_ (fa := s_law_6) (fb := r_law_7) ?_ ?_
  · exact (sCompCell (v := v_law_columns) (mem (i := 7) rfl) rfl rfl rfl (rComp (sc' := sc_law_c2) (cl := [29]) (compSc_of (by decide +kernel)) (RefE.w (rCall1 (mem (i := 6) rfl) (g_range z) bb_range rfl uRng1 (RefE.w (rBin bAdd (RefE.w (rName (v := v_law_size) (mem (i := 2) rfl) rfl)) (RefE.w rInt))))) (tgName (v := v_law_c2_k) (mem (i := 0) rfl) rfl rfl) ifs0 (rMeth (f := 59) (clsOk z) (rInst (rCallF (mem (i := 0) rfl) (g_Whitespace z) rfl ((okN_W_init z).le (by decide)) (rLc (rBin bAdd (RefE.w (rBin bMul (RefE.w (rStr (by rfl))) (RefE.w (rBin bMul (RefE.w (rName (v := v_law_c2_k) (mem (i := 0) rfl) rfl)) (RefE.w (rName (v := v_law_c2_step) (mem (i := 1) rfl) rfl)))))) (RefE.w (rName (v := v_law_c2_end) (mem (i := 2) rfl) rfl))) rL0))) (m_indent_level z) rfl nf_indent_level rfl ((okN_W_indent_level z).le (by decide)) (rLc (rName (v := v_law_c2_size) (mem (i := 3) rfl) rfl) rL0) inst_is (hs := (fun _ => .inr ⟨_, _, rfl, rfl, rfl⟩)))))
  refine sCons_ (fa := s_law_7) (fb := r_law_8) ?_ ?_
  · exact (sAssign (v := v_law_stops) (mem (i := 8) rfl) rfl rfl (rBin bAdd (RefE.w rInt) (RefE.w (rBin bDiv (RefE.w (rName (v := v_law_blanks) (mem (i := 4) rfl) rfl)) (RefE.w (rName (v := v_law_size) (mem (i := 2) rfl) rfl))))))
  refine sCons_ (fa := s_law_8) (fb := r_law_9) ?_ ?_
  · exact (sAssignOwn (v := v_law_walked) (mem (i := 9) rfl) rfl rfl (fList (rLc (rBin bAdd (RefE.w (rBin bMul (RefE.w (rName (v := v_law_size) (mem (i := 2) rfl) rfl)) (RefE.w (rName (v := v_law_stops) (mem (i := 8) rfl) rfl)))) (RefE.w (rName (v := v_law_behind) (mem (i := 5) rfl) rfl))) rL0)))
  refine sCons_ (fa := s_law_9) (fb := r_law_10) ?_ ?_
  · exact (sAssign (v := v_law_rest) (mem (i := 10) rfl) rfl rfl rInt)
  refine sCons_ (fa := s_law_10) (fb := r_law_11) ?_ ?_
  · exact (sAssign (v := v_law_least) (mem (i := 11) rfl) rfl rfl (rName (v := v_law_size) (mem (i := 2) rfl) rfl))
  refine sCons_ (fa := s_law_11) (fb := r_law_12) ?_ ?_
  · exact (sAssign (v := v_law_period) (mem (i := 12) rfl) rfl rfl rInt)
  refine sCons_ (fa := s_law_12) (fb := r_law_13) ?_ ?_
  · exact (sAssignOwn (v := v_law_overlaps) (mem (i := 13) rfl) rfl rfl (fList rL0))
  refine sCons_ (fa := s_law_13) (fb := r_law_14) ?_ ?_
  · exact (sFor_ (v := v_law_k) (mem (i := 14) rfl) rfl rfl (st_of rfl) (rCall2 (mem (i := 6) rfl) (g_range z) bb_range rfl bRng2 (RefE.w rInt) (RefE.w (rBin bAdd (RefE.w (rName (v := v_law_size) (mem (i := 2) rfl) rfl)) (RefE.w rInt)))) (sCons_ (sAug (v := v_law_rest) (mem (i := 10) rfl) rfl rfl bIadd (rName (v := v_law_step) (mem (i := 3) rfl) rfl)) (sCons_ (sIf_ (tCmp cGe (RefE.w (rName (v := v_law_rest) (mem (i := 10) rfl) rfl)) (RefE.w (rName (v := v_law_size) (mem (i := 2) rfl) rfl)) rfl) (sCons_ (sAug (v := v_law_rest) (mem (i := 10) rfl) rfl rfl bIsub (rName (v := v_law_size) (mem (i := 2) rfl) rfl)) (sCons_ (sAug (v := v_law_stops) (mem (i := 8) rfl) rfl rfl bIadd rInt) sNil_)) sNil_) (sCons_ (sAppend (v := v_law_walked) (mem (i := 9) rfl) rfl (rBin bAdd (RefE.w (rBin bMul (RefE.w (rName (v := v_law_size) (mem (i := 2) rfl) rfl)) (RefE.w (rName (v := v_law_stops) (mem (i := 8) rfl) rfl)))) (RefE.w (rName (v := v_law_behind) (mem (i := 5) rfl) rfl)))) (sCons_ (sIf_ (tCmp cLt (RefE.w (rName (v := v_law_rest) (mem (i := 10) rfl) rfl)) (RefE.w (rName (v := v_law_least) (mem (i := 11) rfl) rfl)) rfl) (sCons_ (sAssign (v := v_law_least) (mem (i := 11) rfl) rfl rfl (rName (v := v_law_rest) (mem (i := 10) rfl) rfl)) (sCons_ (sAssign (v := v_law_period) (mem (i := 12) rfl) rfl rfl (rName (v := v_law_k) (mem (i := 14) rfl) rfl)) sNil_)) sNil_) (sCons_ (sAppend (v := v_law_overlaps) (mem (i := 13) rfl) rfl (rBin bSub (RefE.w (rName (v := v_law_k) (mem (i := 14) rfl) rfl)) (RefE.w (rName (v := v_law_period) (mem (i := 12) rfl) rfl)))) sNil_))))))
  refine sCons_ (fa := s_law_14) (fb := r_law_15) ?_ ?_
  · exact (sIf_ (tCmp cNe (RefE.w (rName (v := v_law_columns) (mem (i := 7) rfl) rfl)) (rNameW (v := v_law_walked) (mem (i := 9) rfl) rfl) rfl) (sCons_ (sReturn rBool) sNil_) sNil_)
  refine sCons_ (fa := s_law_15) (fb := r_law_16) ?_ ?_
  · exact (sComp (v := v_law_moves) (mem (i := 15) rfl) rfl rfl rfl (st_of rfl) (sc' := sc_law_c3) (cl := [30]) (compSc_of (by decide +kernel)) (RefE.w (rCall1 (mem (i := 6) rfl) (g_range z) bb_range rfl uRng1 (RefE.w (rName (v := v_law_size) (mem (i := 2) rfl) rfl)))) (tgName (v := v_law_c3_k) (mem (i := 0) rfl) rfl rfl) ifs0 (rBin bSub (RefE.w (rItem (RefE.w (rName (v := v_law_c3_columns) (mem (i := 1) rfl) rfl)) (rBin bAdd (RefE.w (rName (v := v_law_c3_k) (mem (i := 0) rfl) rfl)) (RefE.w rInt)))) (RefE.w (rItem (RefE.w (rName (v := v_law_c3_columns) (mem (i := 1) rfl) rfl)) (rName (v := v_law_c3_k) (mem (i := 0) rfl) rfl)))) rfl)
  refine sKill _ ?_
  refine sCons_ (fa := s_law_16) (fb := r_law_17) ?_ ?_
  · exact (sAssign (v := v_law_table) (mem (i := 16) rfl) rfl rfl (rCallF (mem (i := 1) rfl) (g__generate_overlap_table z) rfl ((ok_generate_overlap_table z).le (by decide)) (rLc (rName (v := v_law_moves) (mem (i := 15) rfl) rfl) rL0)))
  refine sCons_ (fa := s_law_17) (fb := r_law_18) ?_ ?_
  · exact (sIf_ (tOr_ (tCmp cNe (RefE.w (rName (v := v_law_table) (mem (i := 16) rfl) rfl)) (rNameW (v := v_law_overlaps) (mem (i := 13) rfl) rfl) rfl) (tCmp cNe (RefE.w (rComp (sc' := sc_law_c4) (cl := [31]) (compSc_of (by decide +kernel)) (RefE.w (rName (v := v_law_table) (mem (i := 16) rfl) rfl)) (tgName (v := v_law_c4_told) (mem (i := 0) rfl) rfl rfl) (ifs1 (tVal_ (rIsi (mem (i := 1) rfl) (g_isinstance z) bb_isinstance (mem (i := 0) rfl) (g_bool z) bb_bool uIsBool (RefE.w (rName (v := v_law_c4_told) (mem (i := 0) rfl) rfl))) (fun _ _ => rfl))) (rName (v := v_law_c4_told) (mem (i := 0) rfl) rfl))) (RefE.w (rList rL0)) rfl)) (sCons_ (sReturn rBool) sNil_) sNil_)
  refine sCons_ (fa := s_law_18) (fb := r_law_19) ?_ ?_
  · exact (sAssign (v := v_law_small) (mem (i := 17) rfl) rfl rfl (rCallF (mem (i := 4) rfl) (g__law_moved z) rfl ((ok_law_moved z).le (by decide)) (rLc (rName (v := v_law_step) (mem (i := 3) rfl) rfl) rL0)))
  refine sCons_ (fa := s_law_19) (fb := r_law_20) ?_ ?_
  · exact (sAssign (v := v_law_great) (mem (i := 18) rfl) rfl rfl (rCallF (mem (i := 4) rfl) (g__law_moved z) rfl ((ok_law_moved z).le (by decide)) (rLc (rName (v := v_law_size) (mem (i := 2) rfl) rfl) rL0)))
  refine sCons_ (fa := s_law_20) (fb := r_law_21) ?_ ?_
  · exact (sIf_ (tOr_ (tCmp cNe (RefE.w (rName (v := v_law_small) (mem (i := 17) rfl) rfl)) (RefE.w (rCallF (mem (i := 2) rfl) (g__law_due z) rfl ((ok_law_due z).le (by decide)) (rLc (rName (v := v_law_step) (mem (i := 3) rfl) rfl) rL0))) rfl) (tCmp cNe (RefE.w (rName (v := v_law_great) (mem (i := 18) rfl) rfl)) (RefE.w (rCallF (mem (i := 2) rfl) (g__law_due z) rfl ((ok_law_due z).le (by decide)) (rLc (rName (v := v_law_size) (mem (i := 2) rfl) rfl) rL0))) rfl)) (sCons_ (sReturn rBool) sNil_) sNil_)
  refine sCons_ (fa := s_law_21) (fb := r_law_22) ?_ ?_
  · exact (sCompCell (v := v_law_parts) (mem (i := 19) rfl) rfl rfl rfl (rComp (sc' := sc_law_c5) (cl := [32, 33, 34]) (compSc_of (by decide +kernel)) (RefE.w (rName (v := v_law_small) (mem (i := 17) rfl) rfl)) (tgTup3 (v1 := v_law_c5_part) (v2 := v_law_c5_far) (v3 := v_law_c5_near) (mem (i := 0) rfl) (mem (i := 1) rfl) (mem (i := 2) rfl) rfl rfl rfl rfl rfl rfl) (ifs1 (tCmp cGt (RefE.w (rName (v := v_law_c5_far) (mem (i := 1) rfl) rfl)) (RefE.w (rName (v := v_law_c5_near) (mem (i := 2) rfl) rfl)) rfl)) (rName (v := v_law_c5_part) (mem (i := 0) rfl) rfl)))
  refine sCons_ (fa := s_law_22) (fb := r_law_23) ?_ ?_
  · exact (sAssign (v := v_law_times) (mem (i := 20) rfl) rfl rfl (rCall1 (mem (i := 5) rfl) (g_max z) bb_max rfl uMax (RefE.w (rBin bAdd (RefE.w (rList (rLc rInt rL0))) (RefE.w (rComp (sc' := sc_law_c6) (cl := [35, 36, 37]) (compSc_of (by decide +kernel)) (RefE.w (rName (v := v_law_great) (mem (i := 18) rfl) rfl)) (tgTup3 (v1 := v_law_c6_part) (v2 := v_law_c6_far) (v3 := v_law_c6_near) (mem (i := 0) rfl) (mem (i := 1) rfl) (mem (i := 2) rfl) rfl rfl rfl rfl rfl rfl) (ifs1 (tAnd_ (tCmp cGt (RefE.w (rName (v := v_law_c6_far) (mem (i := 1) rfl) rfl)) (RefE.w (rName (v := v_law_c6_near) (mem (i := 2) rfl) rfl)) rfl) (tCmp cIn (RefE.w (rName (v := v_law_c6_part) (mem (i := 0) rfl) rfl)) (RefE.w (rName (v := v_law_c6_parts) (mem (i := 3) rfl) rfl)) rfl))) (rName (v := v_law_c6_part) (mem (i := 0) rfl) rfl)))))))
  refine sCons_ (fa := s_law_23) (fb := r_law_24) ?_ ?_
  · exact (sAssign (v := v_law_whole) (mem (i := 21) rfl) rfl rfl (rBin bDiv (RefE.w (rName (v := v_law_size) (mem (i := 2) rfl) rfl)) (RefE.w (rName (v := v_law_times) (mem (i := 20) rfl) rfl))))
  refine sCons_ (fa := s_law_24) (fb := r_law_25) ?_ ?_
  · exact (sAssign (v := v_law_tabs) (mem (i := 22) rfl) rfl rfl (rBin bDiv (RefE.w (rName (v := v_law_step) (mem (i := 3) rfl) rfl)) (RefE.w (rName (v := v_law_times) (mem (i := 20) rfl) rfl))))
  refine sCons_ (fa := s_law_25) (fb := r_law_26) ?_ ?_
  · exact (sAssign (v := v_law_root) (mem (i := 23) rfl) rfl rfl (rJoin (rStr (by rfl)) (RefE.w (rComp (sc' := sc_law_c7) (cl := [38]) (compSc_of (by decide +kernel)) (RefE.w (rSlice (RefE.w (rName (v := v_law_moves) (mem (i := 15) rfl) rfl)) pNo_ (pSome_ (rName (v := v_law_whole) (mem (i := 21) rfl) rfl)))) (tgName (v := v_law_c7_move) (mem (i := 0) rfl) rfl rfl) ifs0 (rIf (tCmp cGt (RefE.w (rName (v := v_law_c7_move) (mem (i := 0) rfl) rfl)) (RefE.w rInt) rfl) (rStr (by rfl)) (rStr (by rfl)))))))
  refine sCons_ (fa := s_law_26) (fb := r_law_27) ?_ ?_
  · exact (sFor_ (v := v_law_k) (mem (i := 14) rfl) rfl rfl (st_of rfl) (rCall2 (mem (i := 6) rfl) (g_range z) bb_range rfl bRng2 (RefE.w rInt) (RefE.w (rName (v := v_law_whole) (mem (i := 21) rfl) rfl))) (sCons_ (sAssign (v := v_law_last) (mem (i := 27) rfl) rfl rfl (rCallF (mem (i := 0) rfl) (g_Whitespace z) rfl ((okN_W_init z).le (by decide)) (rLc (rSlice (RefE.w (rName (v := v_law_root) (mem (i := 23) rfl) rfl)) (pSome_ (rBin bSub (RefE.w (rName (v := v_law_whole) (mem (i := 21) rfl) rfl)) (RefE.w (rName (v := v_law_k) (mem (i := 14) rfl) rfl)))) pNo_) rL0))) (sCons_ (sIf_ (tOr_ (tCmp cNe (RefE.w (rAttr (i := 2) (clsOk z) (rName (v := v_law_last) (mem (i := 27) rfl) rfl) rfl)) (RefE.w (rBin bAdd (RefE.w (rAttr (i := 2) (clsOk z) (rCallF (mem (i := 0) rfl) (g_Whitespace z) rfl ((okN_W_init z).le (by decide)) (rLc (rSlice (RefE.w (rName (v := v_law_root) (mem (i := 23) rfl) rfl)) pNo_ (pSome_ (rName (v := v_law_k) (mem (i := 14) rfl) rfl))) rL0)) rfl)) (RefE.w rInt))) rfl) (tCmp cIsn (RefE.w (rAttr (i := 4) (clsOk z) (rName (v := v_law_last) (mem (i := 27) rfl) rfl) rfl)) (RefE.w (rCmp cNin (RefE.w (rStr (by rfl))) (RefE.w (rSlice (RefE.w (rName (v := v_law_root) (mem (i := 23) rfl) rfl)) (pSome_ (rBin bSub (RefE.w (rName (v := v_law_whole) (mem (i := 21) rfl) rfl)) (RefE.w (rName (v := v_law_k) (mem (i := 14) rfl) rfl)))) pNo_)) rfl)) rfl)) (sCons_ (sReturn rBool) sNil_) sNil_) sNil_)))
  refine sCons_ (fa := s_law_27) (fb := r_law_28) ?_ ?_
  · exact (sAssignOwn (v := v_law_counts) (mem (i := 24) rfl) rfl rfl (fAdd (RefE.w (rBin bMul (RefE.w (rList (rLc rInt rL0))) (RefE.w (rBin bSub (RefE.w (rBin bDiv (RefE.w (rName (v := v_law_whole) (mem (i := 21) rfl) rfl)) (RefE.w (rName (v := v_law_tabs) (mem (i := 22) rfl) rfl)))) (RefE.w rInt))))) (RefE.w (rList (rLc (rBin bSub (RefE.w (rName (v := v_law_tabs) (mem (i := 22) rfl) rfl)) (RefE.w (rBin bMod (RefE.w (rName (v := v_law_whole) (mem (i := 21) rfl) rfl)) (RefE.w (rName (v := v_law_tabs) (mem (i := 22) rfl) rfl))))) rL0)))))
  refine sCons_ (fa := s_law_28) (fb := r_law_29) ?_ ?_
  · exact (sIf_ (tCmp cGt (RefE.w (rBin bMod (RefE.w (rName (v := v_law_whole) (mem (i := 21) rfl) rfl)) (RefE.w (rName (v := v_law_tabs) (mem (i := 22) rfl) rfl)))) (RefE.w rInt) rfl) (sCons_ (sAppend (v := v_law_counts) (mem (i := 24) rfl) rfl (rBin bMod (RefE.w (rName (v := v_law_whole) (mem (i := 21) rfl) rfl)) (RefE.w (rName (v := v_law_tabs) (mem (i := 22) rfl) rfl)))) sNil_) sNil_)
  refine sCons_ (fa := s_law_29) (fb := r_law_30) ?_ ?_
  · exact (sAssign (v := v_law_lead) (mem (i := 25) rfl) rfl rfl (rCallF (mem (i := 0) rfl) (g_Whitespace z) rfl ((okN_W_init z).le (by decide)) (rLc (rBin bAdd (RefE.w (rName (v := v_law_root) (mem (i := 23) rfl) rfl)) (RefE.w (rStr (by rfl)))) rL0)))
  refine sCons_ (fa := s_law_30) (fb := r_law_31) ?_ ?_
  · exact (sIf_ (tOr_ (tCmp cNe (RefE.w (rTuple (rLc (rAttr (i := 1) (clsOk z) (rName (v := v_law_lead) (mem (i := 25) rfl) rfl) rfl) (rLc (rAttr (i := 2) (clsOk z) (rName (v := v_law_lead) (mem (i := 25) rfl) rfl) rfl) (rLc (rAttr (i := 3) (clsOk z) (rName (v := v_law_lead) (mem (i := 25) rfl) rfl) rfl) rL0))))) (RefE.w (rTuple (rLc (rName (v := v_law_whole) (mem (i := 21) rfl) rfl) (rLc (rName (v := v_law_tabs) (mem (i := 22) rfl) rfl) (rLc (rTuple (rLc (rCall1 (mem (i := 7) rfl) (g_tuple z) bb_tuple rfl uTup (rNameW (v := v_law_counts) (mem (i := 24) rfl) rfl)) (rLc rInt rL0))) rL0))))) rfl) (tCmp cIsn (RefE.w (rAttr (i := 4) (clsOk z) (rName (v := v_law_lead) (mem (i := 25) rfl) rfl) rfl)) (RefE.w rBool) rfl)) (sCons_ (sReturn rBool) sNil_) sNil_)
  refine sCons_ (fa := s_law_31) (fb := r_law_32) ?_ ?_
  · exact (sComp (v := v_law_ways) (mem (i := 26) rfl) rfl rfl rfl (st_of rfl) (sc' := sc_law_c8) (cl := [39]) (compSc_of (by decide +kernel)) (RefE.w (rCall2 (mem (i := 6) rfl) (g_range z) bb_range rfl bRng2 (RefE.w rInt) (RefE.w (rName (v := v_law_whole) (mem (i := 21) rfl) rfl)))) (tgName (v := v_law_c8_k) (mem (i := 0) rfl) rfl rfl) (ifs1 (tCmp cEq (RefE.w (rBin bMod (RefE.w (rBin bMul (RefE.w (rName (v := v_law_c8_k) (mem (i := 0) rfl) rfl)) (RefE.w (rName (v := v_law_c8_tabs) (mem (i := 1) rfl) rfl)))) (RefE.w (rName (v := v_law_c8_whole) (mem (i := 2) rfl) rfl)))) (RefE.w rInt) rfl)) (rName (v := v_law_c8_k) (mem (i := 0) rfl) rfl) rfl)
  refine sCons_ (fa := s_law_32) (fb := sNil) ?_ ?_
  · exact (sReturn (rCmp cEq (RefE.w (rCallF (mem (i := 1) rfl) (g__generate_overlap_table z) rfl ((ok_generate_overlap_table z).le (by decide)) (rLc (rSlice (RefE.w (rName (v := v_law_root) (mem (i := 23) rfl) rfl)) (pSome_ rInt) (pSome_ (rNeg rInt))) rL0))) (RefE.w (rCallF (mem (i := 3) rfl) (g__law_euclid z) rfl ((ok_law_euclid z).le (by decide)) (rLc (rItem (RefE.w (rName (v := v_law_ways) (mem (i := 26) rfl) rfl)) rInt) (rLc (rBin bSub (RefE.w (rName (v := v_law_whole) (mem (i := 21) rfl) rfl)) (RefE.w (rItem (RefE.w (rName (v := v_law_ways) (mem (i := 26) rfl) rfl)) rInt))) rL0)))) rfl))
  exact sNil_
end Mine
end
noncomputable section
open PySem PySem.W PySem.Calls PyProof.Rows
set_option Elab.async false
namespace Mine
theorem list_obj {P : Params} {h : Heap} {a : Addr} {l : List WData} {vs : List Value} (hw : Well P h (.ref a) (.list l)) (hL : h.IsList a vs.toArray) : h.get? a = some { cls := .type "list", data := .seq vs.toArray } := by
  cases hw with
  | list hl _ =>
    obtain ⟨o, e, _, n, q⟩ := hL
    rw [hl] at e
    cases e
    injection q with q _
    rw [hl, q]
set_option maxRecDepth 100000 in
set_option maxHeartbeats 8000000 in
theorem join1 (plain : ∀ xs : List Int, xs.length ≤ 63 → F_law [.lst (xs.map .int)] = some (.bool true)) : PySem.Challenge.rw_rs0102_01.Holds := by
  refine hd ?_
  w_strict (
    k_fill
    intro w s₀ s₁ mg mb G Y fa o pm cd doc dV kV ho hd hcd hD hmg hg args vals as hpre hlay hrd hwl hlo
    have KX := kIn_of Y
    refine Ground.open G ?_
    intro T B D TE TW
    wrow_args hpre hlay hrd hwl hlo
    all_goals (try dsimp only)
    clear hd hcd hD
    rename_i xs _ _ _ _ _ _ _ a vs _ hL _ hw _ hI _ _ _
    have hfa : fa = 120 := by
      have h1 : mg "law" = some (.ref fa) := hmg
      have h2 : mg "law" = some (.ref 120) := mg_of KX T.g rfl
      rw [h1] at h2
      cases h2; rfl
    subst hfa
    have hw' : ∃ l, Well w.params s₁.heap (Value.ref a) (.list l) := ⟨_, by simpa only [ofPy] using hw⟩
    obtain ⟨l, hw'⟩ := hw'
    have hl := list_obj hw' hL
    exact law_top (X := cx ⟨_, w, _, _, mg, mb, s₁.heap, KX, topRead_of T, T.nolimit⟩) (F := F_law) rfl (.of_eq hg) (ok_law _) (by decide) (plain xs (by omega)) hl hI (raisesW_false (by wrow_none_raised)) (by wrow_post))
end Mine
end
theorem PySem.Challenge.cw_rs0102_01_holds : PySem.Challenge.rw_rs0102_01.Holds :=
  Mine.join1 Mine.plain1
