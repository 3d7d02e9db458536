import PyProof.Rows.All
import Wide.All
import OpenK.AllK
import Wide.FinOn
import PySem.Challenge.RW_aq6046_01
open PySem PySem.W PyProof.Rows PySem.Calls
set_option Elab.async false
namespace Mine

/-! ## part 1 -/

/-- abstract values; a reference is a place in the abstract heap -/
inductive V where
  | none
  | bool (b : Bool)
  | int (i : Int)
  | str (s : Str)
  | flt (x : UInt64)
  | ref (i : Nat)
/-- abstract objects -/
inductive O where
  | lst (vs : List V)
  | tup (vs : List V)
structure St where
  loc : Str → Option V
  hp : List O

inductive VR (ρ : List Addr) : V → Value → Prop
  | none : VR ρ .none .none
  | bool (b : Bool) : VR ρ (.bool b) (.bool b)
  | int (i : Int) (t : Tok) : VR ρ (.int i) (.int i t)
  | str (s : Str) (t : Tok) : VR ρ (.str s) (.str s t)
  | flt (x : UInt64) (t : Tok) : VR ρ (.flt x) (.float x t)
  | ref {i : Nat} {a : Addr} (h : ρ[i]? = some a) : VR ρ (.ref i) (.ref a)
inductive VRs (ρ : List Addr) : List V → List Value → Prop
  | nil : VRs ρ [] []
  | cons {v : V} {u : Value} {vs : List V} {us : List Value} : VR ρ v u → VRs ρ vs us → VRs ρ (v :: vs) (u :: us)

theorem getElem?_pre {α : Type} {l t : List α} {i : Nat} {a : α} (h : l[i]? = some a) : (l ++ t)[i]? = some a := by
  have hi : i < l.length := (List.getElem?_eq_some_iff.mp h).1
  rw [List.getElem?_append_left hi]; exact h
theorem VR.mono {ρ t : List Addr} {v : V} {u : Value} (h : VR ρ v u) : VR (ρ ++ t) v u := by
  cases h with
  | none => exact .none
  | bool b => exact .bool b
  | int i t => exact .int i t
  | str s t => exact .str s t
  | flt x t => exact .flt x t
  | ref h => exact .ref (getElem?_pre h)
theorem VRs.mono {ρ t : List Addr} {vs : List V} {us : List Value} (h : VRs ρ vs us) : VRs (ρ ++ t) vs us := by
  induction h with
  | nil => exact .nil
  | cons h _ ih => exact .cons h.mono ih
section
variable {ρ : List Addr} {v : V} {u : Value} {vs ws : List V} {us xs : List Value}
theorem VRs.length (h : VRs ρ vs us) : us.length = vs.length := by
  induction h with
  | nil => rfl
  | cons _ _ ih => rw [List.length_cons, List.length_cons, ih]
theorem VRs.append (h : VRs ρ vs us) (k : VRs ρ ws xs) : VRs ρ (vs ++ ws) (us ++ xs) := by
  induction h with
  | nil => exact k
  | cons h _ ih => exact .cons h ih
theorem VRs.one (h : VR ρ v u) : VRs ρ [v] [u] := .cons h .nil
theorem VRs.get (h : VRs ρ vs us) : ∀ {i : Nat} {v : V}, vs[i]? = some v → ∃ u, us[i]? = some u ∧ VR ρ v u := by
  induction h with
  | nil => intro i v e; simp at e
  | cons h _ ih =>
    intro i v e
    cases i with
    | zero => simp at e; subst e; exact ⟨_, rfl, h⟩
    | succ i => simpa using ih (by simpa using e)
theorem VRs.get' (h : VRs ρ vs us) : ∀ {i : Nat} {u : Value}, us[i]? = some u → ∃ v, vs[i]? = some v ∧ VR ρ v u := by
  induction h with
  | nil => intro i v e; simp at e
  | cons h _ ih =>
    intro i v e
    cases i with
    | zero => simp at e; subst e; exact ⟨_, rfl, h⟩
    | succ i => simpa using ih (by simpa using e)
theorem VRs.set (h : VRs ρ vs us) (k : VR ρ v u) : ∀ i, VRs ρ (vs.set i v) (us.set i u) := by
  induction h with
  | nil => intro i; exact .nil
  | cons h r ih =>
    intro i
    cases i with
    | zero => exact .cons k r
    | succ i => exact .cons h (ih i)
theorem VRs.drop (h : VRs ρ vs us) : ∀ n, VRs ρ (vs.drop n) (us.drop n) := by
  induction h with
  | nil => intro n; simp; exact .nil
  | cons h r ih =>
    intro n
    cases n with
    | zero => exact .cons h r
    | succ n => exact ih n
theorem VRs.flat (h : VRs ρ vs us) : ∀ n, VRs ρ (List.replicate n vs).flatten (List.replicate n us).flatten := by
  intro n
  induction n with
  | zero => exact .nil
  | succ n ih => rw [List.replicate_succ, List.replicate_succ, List.flatten_cons, List.flatten_cons]; exact h.append ih
end

/-- an abstract object stands at an address -/
def ObjAt (ρ : List Addr) (h : Heap) (a : Addr) : O → Prop
  | .lst vs => ∃ us n, h.get? a = some { cls := .type "list", data := .seq (List.toArray us) n } ∧ VRs ρ vs us
  | .tup vs => ∃ us n, h.get? a = some { cls := .type "tuple", data := .seq (List.toArray us) n } ∧ VRs ρ vs us
theorem ObjAt.mono {ρ t : List Addr} {h : Heap} {a : Addr} {o : O} (x : ObjAt ρ h a o) : ObjAt (ρ ++ t) h a o := by
  cases o with
  | lst vs => obtain ⟨us, n, l, r⟩ := x; exact ⟨us, n, l, r.mono⟩
  | tup vs => obtain ⟨us, n, l, r⟩ := x; exact ⟨us, n, l, r.mono⟩
theorem ObjAt.at {ρ : List Addr} {h h' : Heap} {a : Addr} {o : O} (x : ObjAt ρ h a o) (hk : ∀ ob, h.get? a = some ob → h'.get? a = some ob) : ObjAt ρ h' a o := by
  cases o with
  | lst vs => obtain ⟨us, n, l, r⟩ := x; exact ⟨us, n, hk _ l, r⟩
  | tup vs => obtain ⟨us, n, l, r⟩ := x; exact ⟨us, n, hk _ l, r⟩
theorem ObjAt.seq {ρ : List Addr} {h : Heap} {a : Addr} {o : O} (x : ObjAt ρ h a o) : ∃ ob its n, h.get? a = some ob ∧ ob.data = .seq its n := by
  cases o with
  | lst vs => obtain ⟨us, n, l, r⟩ := x; exact ⟨_, _, n, l, rfl⟩
  | tup vs => obtain ⟨us, n, l, r⟩ := x; exact ⟨_, _, n, l, rfl⟩

structure EnvOK (g : Heap) (env : Env) : Prop where
  kind : env.scope.kind = .function
  globals : env.globals = mainGlobals
  builtins : env.builtins = builtinsNs
  loc : g.get? env.locals = none
  cell : ∀ x c, env.cells.lookup x = some c → g.get? c = none
  inj : ∀ x y c, env.cells.lookup x = some c → env.cells.lookup y = some c → x = y

/-- a def of the text, with its defaults -/
structure FnD where
  name : Str
  params : Arguments
  body : List Stmt
  scope : Scope
  dflt : List Value
def DvOK (g : Heap) : List Value → Value → Prop
  | [], dV => dV = .none
  | vs, dV => ∃ t o n, dV = .ref t ∧ g.get? t = some o ∧ o.data = .seq vs.toArray n
def FnAt (g : Heap) (a : Addr) (f : FnD) : Prop :=
  ∃ o dV doc pm an cdv ct, g.get? a = some o ∧ o.data = .func (fnOf f.name f.name f.params f.body f.scope dV .none doc pm an cdv ct) ∧ g.CodeRec cdv f.name ∧ DvOK g f.dflt dV
def biNames : List String := ["len", "range", "enumerate", "isinstance", "str", "tuple", "int", "list", "sum", "abs", "float", "max"]
/-- the globals -/
structure Gl (g : Heap) (fs : List FnD) : Prop where
  ex : ∃ mg mb, g.Ns mainGlobals mg ∧ g.Ns builtinsNs mb ∧ (∀ x ∈ biNames, mg (Str.ofString x) = none ∧ mb (Str.ofString x) = bootBuiltins (Str.ofString x)) ∧ ∀ f ∈ fs, ∃ a, mg f.name = some (.ref a) ∧ FnAt g a f
  nolimit : g.NoLimit

/-- a frame's surroundings: the heap at the law's call, the model, the depth, the frame, the first place that this frame may change, the room left -/
structure Fm where
  g : Heap
  prog : Program
  w : World
  A : Around
  env : Env
  b : Nat
  n : Nat
  fs : List FnD
structure Fm.OK (F : Fm) : Prop where
  env : EnvOK F.g F.env
  gl : Gl F.g F.fs
  hh : F.A.handled = none
  depth : F.A.depth + F.n < recursionLimit
  units : F.A.units + 100 * F.n + 100 < cLine

structure Inv (g : Heap) (env : Env) (ρ : List Addr) (b : Nat) (σ : St) (h : Heap) : Prop where
  keep : ∀ a o, g.get? a = some o → h.get? a = some o
  ns : ∃ m, h.Ns env.locals m ∧ ∀ x v, σ.loc x = some v → env.kindOf x = some .local → ∃ u, m x = some u ∧ VR ρ v u
  cells : ∀ x c, env.cells.lookup x = some c → ∃ cv, h.IsCell c cv ∧ ∀ v, σ.loc x = some v → ∃ u, cv = some u ∧ VR ρ v u
  objs : ∀ (i : Nat) (o : O), σ.hp[i]? = some o → ∃ a, ρ[i]? = some a ∧ ObjAt ρ h a o
  len : ρ.length = σ.hp.length
  nodup : ∀ (i j : Nat) (a : Addr), ρ[i]? = some a → ρ[j]? = some a → i = j
  own : ∀ (i : Nat) (a : Addr), b ≤ i → ρ[i]? = some a → g.get? a = none

/-- what an expression leaves as it was -/
structure Ext (ρ ρ' : List Addr) (b : Nat) (h h' : Heap) : Prop where
  pre : ∃ t, ρ' = ρ ++ t ∧ ∀ a ∈ t, h.get? a = none
  live : ∀ a o, h.get? a = some o → ∃ o', h'.get? a = some o'
  kp : ∀ a o, h.get? a = some o → (∀ i : Nat, b ≤ i → ρ[i]? ≠ some a) → h'.get? a = some o
/-- what a statement leaves as it was -/
structure ExtS (env : Env) (ρ ρ' : List Addr) (b : Nat) (h h' : Heap) : Prop where
  pre : ∃ t, ρ' = ρ ++ t ∧ ∀ a ∈ t, h.get? a = none
  live : ∀ a o, h.get? a = some o → ∃ o', h'.get? a = some o'
  kp : ∀ a o, h.get? a = some o → a ≠ env.locals → (∀ x, env.cells.lookup x ≠ some a) → (∀ i : Nat, b ≤ i → ρ[i]? ≠ some a) → h'.get? a = some o

theorem Ext.toS {env : Env} {ρ ρ' : List Addr} {b : Nat} {h h' : Heap} (x : Ext ρ ρ' b h h') : ExtS env ρ ρ' b h h' := ⟨x.pre, x.live, fun a o e _ _ k => x.kp a o e k⟩
theorem Ext.refl (ρ : List Addr) (b : Nat) (h : Heap) : Ext ρ ρ b h h := ⟨⟨[], by simp, by simp⟩, fun _ o e => ⟨o, e⟩, fun _ _ e _ => e⟩
theorem ExtS.refl (env : Env) (ρ : List Addr) (b : Nat) (h : Heap) : ExtS env ρ ρ b h h := (Ext.refl ρ b h).toS
theorem Ext.keeps {ρ : List Addr} {b : Nat} {h h' : Heap} (hk : ∀ a o, h.get? a = some o → h'.get? a = some o) : Ext ρ ρ b h h' := ⟨⟨[], by simp, by simp⟩, fun a o e => ⟨o, hk a o e⟩, fun a o e _ => hk a o e⟩
theorem pre_off {ρ t : List Addr} {b : Nat} {h : Heap} {a : Addr} {o : Obj} (ht : ∀ a ∈ t, h.get? a = none) (e : h.get? a = some o) (k : ∀ i : Nat, b ≤ i → ρ[i]? ≠ some a) : ∀ i : Nat, b ≤ i → (ρ ++ t)[i]? ≠ some a := by
  intro i hi q
  by_cases hl : i < ρ.length
  · rw [List.getElem?_append_left hl] at q; exact k i hi q
  · rw [List.getElem?_append_right (Nat.le_of_not_lt hl)] at q
    have z := ht a (List.mem_of_getElem? q)
    rw [e] at z; cases z
theorem Ext.trans {ρ ρ' ρ'' : List Addr} {b : Nat} {h h' h'' : Heap} (x : Ext ρ ρ' b h h') (y : Ext ρ' ρ'' b h' h'') : Ext ρ ρ'' b h h'' := by
  obtain ⟨t, rfl, ht⟩ := x.pre
  obtain ⟨t', rfl, ht'⟩ := y.pre
  refine ⟨⟨t ++ t', by rw [List.append_assoc], fun a ha => ?_⟩, fun a o e => (x.live a o e).elim fun o' e' => y.live a o' e', fun a o e k => y.kp a o (x.kp a o e k) (pre_off ht e k)⟩
  rcases List.mem_append.mp ha with ha | ha
  · exact ht a ha
  · cases q : h.get? a with
    | none => rfl
    | some o =>
      obtain ⟨o', e'⟩ := x.live a o q
      rw [ht' a ha] at e'; cases e'
theorem ExtS.trans {env : Env} {ρ ρ' ρ'' : List Addr} {b : Nat} {h h' h'' : Heap} (x : ExtS env ρ ρ' b h h') (y : ExtS env ρ' ρ'' b h' h'') : ExtS env ρ ρ'' b h h'' := by
  obtain ⟨t, rfl, ht⟩ := x.pre
  obtain ⟨t', rfl, ht'⟩ := y.pre
  refine ⟨⟨t ++ t', by rw [List.append_assoc], fun a ha => ?_⟩, fun a o e => (x.live a o e).elim fun o' e' => y.live a o' e', fun a o e k1 k2 k => y.kp a o (x.kp a o e k1 k2 k) k1 k2 (pre_off ht e k)⟩
  rcases List.mem_append.mp ha with ha | ha
  · exact ht a ha
  · cases q : h.get? a with
    | none => rfl
    | some o =>
      obtain ⟨o', e'⟩ := x.live a o q
      rw [ht' a ha] at e'; cases e'
theorem Ext.vr {ρ ρ' : List Addr} {b : Nat} {h h' : Heap} (x : Ext ρ ρ' b h h') {v : V} {u : Value} (k : VR ρ v u) : VR ρ' v u := by
  obtain ⟨t, rfl, _⟩ := x.pre; exact k.mono
theorem ExtS.vr {env : Env} {ρ ρ' : List Addr} {b : Nat} {h h' : Heap} (x : ExtS env ρ ρ' b h h') {v : V} {u : Value} (k : VR ρ v u) : VR ρ' v u := by
  obtain ⟨t, rfl, _⟩ := x.pre; exact k.mono
theorem Ext.vrs {ρ ρ' : List Addr} {b : Nat} {h h' : Heap} (x : Ext ρ ρ' b h h') {v : List V} {u : List Value} (k : VRs ρ v u) : VRs ρ' v u := by
  obtain ⟨t, rfl, _⟩ := x.pre; exact k.mono

section
variable {g : Heap} {env : Env} {ρ : List Addr} {b : Nat} {σ : St} {h h' : Heap}
theorem ns_at {a : Addr} {m : Str → Option Value} (x : h.Ns a m) (hk : ∀ ob, h.get? a = some ob → h'.get? a = some ob) : h'.Ns a m :=
  let ⟨o, es, ep, ho, r⟩ := x; ⟨o, es, ep, hk o ho, r⟩
theorem ns_not_seq {a : Addr} {m : Str → Option Value} (x : h.Ns a m) : ∀ ob its n, h.get? a = some ob → ob.data ≠ .seq its n := by
  obtain ⟨o, es, ep, ho, hd, _⟩ := x
  intro ob its n e q
  rw [ho] at e; cases e; rw [hd] at q; cases q
theorem cell_not_seq {a : Addr} {cv : Option Value} (x : h.IsCell a cv) : ∀ ob its n, h.get? a = some ob → ob.data ≠ .seq its n := by
  obtain ⟨o, ho, hd⟩ := x
  intro ob its n e q
  rw [ho] at e; cases e; rw [hd] at q; cases q
theorem cell_not_ns {a : Addr} {cv : Option Value} {m : Str → Option Value} (x : h.IsCell a cv) (y : h.Ns a m) : False := by
  obtain ⟨o, ho, hd⟩ := x
  obtain ⟨o', es, ep, ho', hd', _⟩ := y
  rw [ho] at ho'; cases ho'; rw [hd] at hd'; cases hd'

theorem Inv.keeps (I : Inv g env ρ b σ h) (hk : ∀ a o, h.get? a = some o → h'.get? a = some o) : Inv g env ρ b σ h' := by
  obtain ⟨m, hn, hm⟩ := I.ns
  refine ⟨fun a o e => hk a o (I.keep a o e), ⟨m, ns_at hn fun o => hk _ o, hm⟩, fun x c e => ?_, fun i o e => ?_, I.len, I.nodup, I.own⟩
  · obtain ⟨cv, hc, r⟩ := I.cells x c e
    exact ⟨cv, hc.keeps hk, r⟩
  · obtain ⟨a, ha, ho⟩ := I.objs i o e
    exact ⟨a, ha, ho.at fun ob => hk a ob⟩

theorem Inv.lt (I : Inv g env ρ b σ h) {i : Nat} {a : Addr} (e : ρ[i]? = some a) : a < h.objs.size := by
  have hi : i < σ.hp.length := I.len ▸ (List.getElem?_eq_some_iff.mp e).1
  obtain ⟨a', ha, ho⟩ := I.objs i _ (List.getElem?_eq_getElem hi)
  rw [e] at ha; cases ha
  obtain ⟨ob, _, _, hb, _⟩ := ho.seq
  exact Heap.lt_size hb
theorem Inv.there (I : Inv g env ρ b σ h) {i : Nat} {a : Addr} (e : ρ[i]? = some a) : ∃ o, h.get? a = some o := by
  have hi : i < σ.hp.length := I.len ▸ (List.getElem?_eq_some_iff.mp e).1
  obtain ⟨a', ha, ho⟩ := I.objs i _ (List.getElem?_eq_getElem hi)
  rw [e] at ha; cases ha
  obtain ⟨ob, _, _, hb, _⟩ := ho.seq
  exact ⟨ob, hb⟩
theorem Inv.at (I : Inv g env ρ b σ h) {i : Nat} {a : Addr} {o : O} (e : ρ[i]? = some a) (eo : σ.hp[i]? = some o) : ObjAt ρ h a o := by
  obtain ⟨a', ha, ho⟩ := I.objs i o eo
  rw [e] at ha; cases ha; exact ho
theorem Inv.list (I : Inv g env ρ b σ h) {i : Nat} {a : Addr} {vs : List V} (e : ρ[i]? = some a) (eo : σ.hp[i]? = some (.lst vs)) : ∃ us n, h.get? a = some { cls := .type "list", data := .seq (List.toArray us) n } ∧ VRs ρ vs us := I.at e eo
theorem Inv.tup (I : Inv g env ρ b σ h) {i : Nat} {a : Addr} {vs : List V} (e : ρ[i]? = some a) (eo : σ.hp[i]? = some (.tup vs)) : ∃ us n, h.get? a = some { cls := .type "tuple", data := .seq (List.toArray us) n } ∧ VRs ρ vs us := I.at e eo

theorem isList_of {h : Heap} {a : Addr} {its : Array Value} {n : Nat} (e : h.get? a = some { cls := .type "list", data := .seq its n }) : h.IsList a its := ⟨_, e, rfl, n, rfl⟩
theorem isTup_of {h : Heap} {a : Addr} {its : Array Value} {n : Nat} (e : h.get? a = some { cls := .type "tuple", data := .seq its n }) : IsTup h a its := ⟨_, e, rfl, n, rfl⟩

/-- a new abstract object -/
theorem Inv.new (I : Inv g env ρ b σ h) {a : Addr} {o : O} (hk : ∀ a o, h.get? a = some o → h'.get? a = some o) (ha : h.get? a = none) (ho : ObjAt ρ h' a o) :
    Inv g env (ρ ++ [a]) b ⟨σ.loc, σ.hp ++ [o]⟩ h' := by
  have J := I.keeps hk
  obtain ⟨m, hn, hm⟩ := J.ns
  refine ⟨J.keep, ⟨m, hn, fun x v e k => ?_⟩, fun x c e => ?_, fun i o' e => ?_, by simp [I.len], fun i j a' e1 e2 => ?_, fun i a' hi e => ?_⟩
  · obtain ⟨u, e1, e2⟩ := hm x v e k; exact ⟨u, e1, e2.mono⟩
  · obtain ⟨cv, hc, r⟩ := J.cells x c e
    exact ⟨cv, hc, fun v e => by obtain ⟨u, e1, e2⟩ := r v e; exact ⟨u, e1, e2.mono⟩⟩
  · dsimp only at e
    by_cases hl : i < σ.hp.length
    · rw [List.getElem?_append_left hl] at e
      obtain ⟨a', e1, e2⟩ := J.objs i o' e
      exact ⟨a', getElem?_pre e1, e2.mono⟩
    · rw [List.getElem?_append_right (Nat.le_of_not_lt hl)] at e
      have hi : i - σ.hp.length = 0 := by
        by_cases q : i - σ.hp.length = 0
        · exact q
        · have : (i - σ.hp.length) < [o].length := (List.getElem?_eq_some_iff.mp e).1
          simp at this; exact absurd this q
      rw [hi] at e
      simp at e; subst e
      refine ⟨a, ?_, ho.mono⟩
      have : i = ρ.length := by rw [I.len]; omega
      rw [this]; simp
  · by_cases h1 : i < ρ.length <;> by_cases h2 : j < ρ.length
    · rw [List.getElem?_append_left h1] at e1; rw [List.getElem?_append_left h2] at e2; exact I.nodup i j a' e1 e2
    · rw [List.getElem?_append_left h1] at e1; rw [List.getElem?_append_right (Nat.le_of_not_lt h2)] at e2
      have q := List.mem_of_getElem? e2; simp at q; subst q
      obtain ⟨o, z⟩ := I.there e1; rw [ha] at z; cases z
    · rw [List.getElem?_append_left h2] at e2; rw [List.getElem?_append_right (Nat.le_of_not_lt h1)] at e1
      have q := List.mem_of_getElem? e1; simp at q; subst q
      obtain ⟨o, z⟩ := I.there e2; rw [ha] at z; cases z
    · have l1 := (List.getElem?_eq_some_iff.mp e1).1
      have l2 := (List.getElem?_eq_some_iff.mp e2).1
      simp at l1 l2; omega
  · by_cases h1 : i < ρ.length
    · rw [List.getElem?_append_left h1] at e; exact I.own i a' hi e
    · rw [List.getElem?_append_right (Nat.le_of_not_lt h1)] at e
      have q := List.mem_of_getElem? e; simp at q; subst q
      cases z : g.get? a' with
      | none => rfl
      | some o => have := I.keep _ _ z; rw [ha] at this; cases this
theorem Ext.new {a : Addr} (hk : ∀ a o, h.get? a = some o → h'.get? a = some o) (ha : h.get? a = none) : Ext ρ (ρ ++ [a]) b h h' :=
  ⟨⟨[a], rfl, by simpa using ha⟩, fun a o e => ⟨o, hk a o e⟩, fun a o e _ => hk a o e⟩

/-- an abstract object changed in place -/
theorem Inv.mut (E : EnvOK g env) (I : Inv g env ρ b σ h) {i : Nat} {a : Addr} {o' : O} (e : ρ[i]? = some a) (hb : b ≤ i) (hs : Heap.SameBut a h h') (ho : ObjAt ρ h' a o') :
    Inv g env ρ b ⟨σ.loc, σ.hp.set i o'⟩ h' := by
  have hi : i < σ.hp.length := I.len ▸ (List.getElem?_eq_some_iff.mp e).1
  obtain ⟨ob, its, n, hob, hd⟩ := (I.at e (List.getElem?_eq_getElem hi)).seq
  have ga := I.own i a hb e
  obtain ⟨m, hn, hm⟩ := I.ns
  have nl : env.locals ≠ a := fun q => ns_not_seq hn ob its n (q ▸ hob) hd
  refine ⟨fun c o ec => (hs.2 c (fun q => by rw [q, ga] at ec; cases ec)).trans (I.keep c o ec), ⟨m, hn.sameBut hs nl, hm⟩, fun x c ec => ?_, fun j o ej => ?_, by simpa using I.len, I.nodup, I.own⟩
  · obtain ⟨cv, hc, r⟩ := I.cells x c ec
    have nc : c ≠ a := fun q => cell_not_seq hc ob its n (q ▸ hob) hd
    obtain ⟨oc, hoc, hdc⟩ := hc
    exact ⟨cv, ⟨oc, (hs.2 c nc).trans hoc, hdc⟩, r⟩
  · dsimp only at ej
    rw [List.getElem?_set] at ej
    by_cases q : i = j
    · subst q
      rw [if_pos rfl, if_pos hi] at ej
      cases ej
      exact ⟨a, e, ho⟩
    · rw [if_neg q] at ej
      obtain ⟨c, ec, hc⟩ := I.objs j o ej
      have nc : c ≠ a := fun z => q (I.nodup i j a e (z ▸ ec))
      exact ⟨c, ec, hc.at fun ob hob => (hs.2 c nc).trans hob⟩
theorem live_but {a : Addr} {o' : Obj} (hs : Heap.SameBut a h h') (ho : h'.get? a = some o') : ∀ c o, h.get? c = some o → ∃ o', h'.get? c = some o' := fun c o e => by
  by_cases q : c = a
  · exact ⟨o', q ▸ ho⟩
  · exact ⟨o, (hs.2 c q).trans e⟩
theorem Ext.mut {i : Nat} {a : Addr} {o' : Obj} (ho : h'.get? a = some o') (e : ρ[i]? = some a) (hb : b ≤ i) (hs : Heap.SameBut a h h') : Ext ρ ρ b h h' :=
  ⟨⟨[], by simp, by simp⟩, live_but hs ho, fun c o ec k => (hs.2 c fun q => k i hb (q ▸ e)).trans ec⟩

def upd (l : Str → Option V) (x : Str) (v : V) : Str → Option V := fun y => if y = x then some v else l y

theorem Inv.setLocal (E : EnvOK g env) (I : Inv g env ρ b σ h) {x : Str} {v : V} {u : Value} {m : Str → Option Value} (hx : env.kindOf x = some .local) (hc : env.cells.lookup x = none) (k : VR ρ v u)
    (hm : ∀ x v, σ.loc x = some v → env.kindOf x = some .local → ∃ u, m x = some u ∧ VR ρ v u)
    (hn : h.Ns env.locals m) (hn' : h'.Ns env.locals (fun y => if y = x then some u else m y)) (hs : Heap.SameBut env.locals h h') : Inv g env ρ b ⟨upd σ.loc x v, σ.hp⟩ h' := by
  refine ⟨fun c o ec => (hs.2 c (fun q => by rw [q, E.loc] at ec; cases ec)).trans (I.keep c o ec), ⟨_, hn', fun y w ey ky => ?_⟩, fun y c ec => ?_, fun j o ej => ?_, I.len, I.nodup, I.own⟩
  · dsimp only [upd] at ey ⊢
    by_cases q : y = x
    · subst q; rw [if_pos rfl] at ey ⊢; cases ey; exact ⟨u, rfl, k⟩
    · rw [if_neg q] at ey ⊢; exact hm y w ey ky
  · obtain ⟨cv, hcv, r⟩ := I.cells y c ec
    have nc : c ≠ env.locals := fun q => cell_not_ns (q ▸ hcv) hn
    obtain ⟨oc, hoc, hdc⟩ := hcv
    refine ⟨cv, ⟨oc, (hs.2 c nc).trans hoc, hdc⟩, fun w ew => ?_⟩
    dsimp only [upd] at ew
    by_cases q : y = x
    · subst q; rw [hc] at ec; cases ec
    · rw [if_neg q] at ew; exact r w ew
  · obtain ⟨a, ea, ha⟩ := I.objs j o ej
    obtain ⟨ob, its, n, hob, hd⟩ := ha.seq
    have na : a ≠ env.locals := fun q => ns_not_seq hn ob its n (q ▸ hob) hd
    exact ⟨a, ea, ha.at fun ob hob => (hs.2 a na).trans hob⟩

theorem Inv.setCell (E : EnvOK g env) (I : Inv g env ρ b σ h) {x : Str} {c : Addr} {v : V} {u : Value} (hx : env.kindOf x = some .cell) (hc : env.cells.lookup x = some c) (k : VR ρ v u)
    (hc' : h'.IsCell c (some u)) (hs : Heap.SameBut c h h') : Inv g env ρ b ⟨upd σ.loc x v, σ.hp⟩ h' := by
  obtain ⟨cv₀, hcv₀, _⟩ := I.cells x c hc
  have gc := E.cell x c hc
  obtain ⟨m, hn, hm⟩ := I.ns
  refine ⟨fun a o ec => (hs.2 a (fun q => by rw [q, gc] at ec; cases ec)).trans (I.keep a o ec), ⟨m, hn.sameBut hs (fun q => cell_not_ns (q ▸ hcv₀) hn), fun y w ey ky => ?_⟩, fun y d ed => ?_, fun j o ej => ?_, I.len, I.nodup, I.own⟩
  · dsimp only [upd] at ey
    by_cases q : y = x
    · subst q; rw [hx] at ky; cases ky
    · rw [if_neg q] at ey; exact hm y w ey ky
  · by_cases q : y = x
    · subst q
      rw [hc] at ed; cases ed
      refine ⟨some u, hc', fun w ew => ?_⟩
      dsimp only [upd] at ew; rw [if_pos rfl] at ew; cases ew; exact ⟨u, rfl, k⟩
    · obtain ⟨cv, hcv, r⟩ := I.cells y d ed
      have nd : d ≠ c := fun z => q (E.inj y x c (z ▸ ed) hc)
      obtain ⟨oc, hoc, hdc⟩ := hcv
      refine ⟨cv, ⟨oc, (hs.2 d nd).trans hoc, hdc⟩, fun w ew => ?_⟩
      dsimp only [upd] at ew; rw [if_neg q] at ew; exact r w ew
  · obtain ⟨a, ea, ha⟩ := I.objs j o ej
    obtain ⟨ob, its, n, hob, hd⟩ := ha.seq
    have na : a ≠ c := fun q => cell_not_seq (q ▸ hcv₀) ob its n hob hd
    exact ⟨a, ea, ha.at fun ob hob => (hs.2 a na).trans hob⟩
theorem ExtS.local {o' : Obj} (ho : h'.get? env.locals = some o') (hs : Heap.SameBut env.locals h h') : ExtS env ρ ρ b h h' := ⟨⟨[], by simp, by simp⟩, live_but hs ho, fun a o e k _ _ => (hs.2 a k).trans e⟩
theorem ExtS.cell {x : Str} {c : Addr} {o' : Obj} (ho : h'.get? c = some o') (hc : env.cells.lookup x = some c) (hs : Heap.SameBut c h h') : ExtS env ρ ρ b h h' := ⟨⟨[], by simp, by simp⟩, live_but hs ho, fun a o e _ k _ => (hs.2 a fun q => k x (q ▸ hc)).trans e⟩
end

/-! ## part 2 -/

abbrev never : Value → Shared → Prop := fun _ _ => False

def KV (F : Fm) (loc : Str → Option V) (ρ : List Addr) (s : Shared) (Q : Value → Shared → Prop) (P : V → List O → Prop) : Prop :=
  ∀ v hp ρ' u h' tk, P v hp → VR ρ' v u → Inv F.g F.env ρ' F.b ⟨loc, hp⟩ h' → Ext ρ ρ' F.b s.heap h' → Q u { s with heap := h', toks := tk }
def KB (F : Fm) (loc : Str → Option V) (ρ : List Addr) (s : Shared) (Q : Bool → Shared → Prop) (P : Bool → List O → Prop) : Prop :=
  ∀ v hp ρ' h' tk, P v hp → Inv F.g F.env ρ' F.b ⟨loc, hp⟩ h' → Ext ρ ρ' F.b s.heap h' → Q v { s with heap := h', toks := tk }
def KL (F : Fm) (loc : Str → Option V) (ρ : List Addr) (s : Shared) (Q : List Value → Shared → Prop) (P : List V → List O → Prop) : Prop :=
  ∀ vs hp ρ' us h' tk, P vs hp → VRs ρ' vs us → Inv F.g F.env ρ' F.b ⟨loc, hp⟩ h' → Ext ρ ρ' F.b s.heap h' → Q us { s with heap := h', toks := tk }

/-- an expression -/
def AE (F : Fm) (e : Expr) (σ : St) (P : V → List O → Prop) : Prop :=
  ∀ (ρ : List Addr) (s : Shared) (Q : Value → Shared → Prop), F.OK → Inv F.g F.env ρ F.b σ s.heap → KV F σ.loc ρ s Q P → wpAny (model F.prog F.w) F.A (eval e F.env) Q never s
/-- expressions as arguments -/
def AEs (F : Fm) (es : List Expr) (σ : St) (P : List V → List O → Prop) : Prop :=
  ∀ (ρ : List Addr) (s : Shared) (pos : Pos) (Q : List Value → Shared → Prop), F.OK → Inv F.g F.env ρ F.b σ s.heap → KL F σ.loc ρ s Q P → wpAny (model F.prog F.w) F.A (spliced (backTo pos (starEach es F.env))) Q never s
/-- an action upon values -/
def AV (F : Fm) (vs : List V) (t : List Value → Sem Value) (σ : St) (P : V → List O → Prop) : Prop :=
  ∀ (ρ : List Addr) (s : Shared) (us : List Value) (Q : Value → Shared → Prop), F.OK → Inv F.g F.env ρ F.b σ s.heap → VRs ρ vs us → KV F σ.loc ρ s Q P → wpAny (model F.prog F.w) F.A (t us) Q never s
/-- a test -/
def AT (F : Fm) (e : Expr) (σ : St) (P : Bool → List O → Prop) : Prop :=
  ∀ (ρ : List Addr) (s : Shared) (Q : Bool → Shared → Prop), F.OK → Inv F.g F.env ρ F.b σ s.heap → KB F σ.loc ρ s Q P → wpAny (model F.prog F.w) F.A (isTrue e F.env (eval e F.env)) Q never s
/-- the truth of a value -/
def AB (F : Fm) (v : V) (σ : St) (P : Bool → List O → Prop) : Prop :=
  ∀ (ρ : List Addr) (s : Shared) (u : Value) (Q : Bool → Shared → Prop), F.OK → Inv F.g F.env ρ F.b σ s.heap → VR ρ v u → KB F σ.loc ρ s Q P → wpAny (model F.prog F.w) F.A (truthy u) Q never s

section
variable {F : Fm} {σ : St} {ρ : List Addr} {s : Shared}
theorem KV.here {Q : Value → Shared → Prop} {P : V → List O → Prop} {tk : Nat} {v : V} {u : Value} (K : KV F σ.loc ρ s Q P) (I : Inv F.g F.env ρ F.b σ s.heap) (hp : P v σ.hp) (hv : VR ρ v u) : Q u { s with toks := tk } :=
  K v σ.hp ρ u s.heap tk hp hv I (Ext.refl _ _ _)
theorem KB.here {Q : Bool → Shared → Prop} {P : Bool → List O → Prop} {tk : Nat} {v : Bool} (K : KB F σ.loc ρ s Q P) (I : Inv F.g F.env ρ F.b σ s.heap) (hp : P v σ.hp) : Q v { s with toks := tk } :=
  K v σ.hp ρ s.heap tk hp I (Ext.refl _ _ _)
theorem KV.here0 {Q : Value → Shared → Prop} {P : V → List O → Prop} {v : V} {u : Value} (K : KV F σ.loc ρ s Q P) (I : Inv F.g F.env ρ F.b σ s.heap) (hp : P v σ.hp) (hv : VR ρ v u) : Q u s :=
  K v σ.hp ρ u s.heap s.toks hp hv I (Ext.refl _ _ _)
theorem KB.here0 {Q : Bool → Shared → Prop} {P : Bool → List O → Prop} {v : Bool} (K : KB F σ.loc ρ s Q P) (I : Inv F.g F.env ρ F.b σ s.heap) (hp : P v σ.hp) : Q v s :=
  K v σ.hp ρ s.heap s.toks hp I (Ext.refl _ _ _)
/-- the heap grew by things that are not ours -/
theorem KV.grown {Q : Value → Shared → Prop} {P : V → List O → Prop} {tk : Nat} {v : V} {u : Value} {h' : Heap} (K : KV F σ.loc ρ s Q P) (I : Inv F.g F.env ρ F.b σ s.heap)
    (hk : ∀ a o, s.heap.get? a = some o → h'.get? a = some o) (hp : P v σ.hp) (hv : VR ρ v u) : Q u { s with heap := h', toks := tk } :=
  K v σ.hp ρ u h' tk hp hv (I.keeps hk) (Ext.keeps hk)
theorem KV.after {Q : Value → Shared → Prop} {P : V → List O → Prop} {ρ' : List Addr} {h' : Heap} {tk : Nat} (K : KV F σ.loc ρ s Q P) (E : Ext ρ ρ' F.b s.heap h') : KV F σ.loc ρ' { s with heap := h', toks := tk } Q P :=
  fun v hp ρ'' u h'' tk' a b c d => K v hp ρ'' u h'' tk' a b c (E.trans d)
theorem KB.after {Q : Bool → Shared → Prop} {P : Bool → List O → Prop} {ρ' : List Addr} {h' : Heap} {tk : Nat} (K : KB F σ.loc ρ s Q P) (E : Ext ρ ρ' F.b s.heap h') : KB F σ.loc ρ' { s with heap := h', toks := tk } Q P :=
  fun v hp ρ'' h'' tk' a b c => K v hp ρ'' h'' tk' a b (E.trans c)
theorem KL.after {Q : List Value → Shared → Prop} {P : List V → List O → Prop} {ρ' : List Addr} {h' : Heap} {tk : Nat} (K : KL F σ.loc ρ s Q P) (E : Ext ρ ρ' F.b s.heap h') : KL F σ.loc ρ' { s with heap := h', toks := tk } Q P :=
  fun v hp ρ'' u h'' tk' a b c d => K v hp ρ'' u h'' tk' a b c (E.trans d)
end

theorem AE.mono {F : Fm} {e : Expr} {σ : St} {P P' : V → List O → Prop} (h : AE F e σ P) (k : ∀ v hp, P v hp → P' v hp) : AE F e σ P' :=
  fun ρ s Q hF I K => h ρ s Q hF I fun v hp ρ' u h' tk a => K v hp ρ' u h' tk (k v hp a)
theorem AT.mono {F : Fm} {e : Expr} {σ : St} {P P' : Bool → List O → Prop} (h : AT F e σ P) (k : ∀ v hp, P v hp → P' v hp) : AT F e σ P' :=
  fun ρ s Q hF I K => h ρ s Q hF I fun v hp ρ' h' tk a => K v hp ρ' h' tk (k v hp a)
theorem AV.mono {F : Fm} {vs : List V} {t : List Value → Sem Value} {σ : St} {P P' : V → List O → Prop} (h : AV F vs t σ P) (k : ∀ v hp, P v hp → P' v hp) : AV F vs t σ P' :=
  fun ρ s us Q hF I hv K => h ρ s us Q hF I hv fun v hp ρ' u h' tk a => K v hp ρ' u h' tk (k v hp a)

section
variable {F : Fm} {σ : St} {P : V → List O → Prop}

/-! names and constants -/
theorem AE.name {x : Str} {pos : Pos} {v : V} (hv : σ.loc x = some v) (h : P v σ.hp) (hk : F.env.kindOf x = some .local := by rfl) (hd : (x == ("__debug__" : Str)) = false := by decide) : AE F (.Name x pos) σ P := by
  intro ρ s Q hF I K
  obtain ⟨m, hn, hm⟩ := I.ns
  obtain ⟨u, e1, e2⟩ := hm x v hv hk
  exact wpAny_Name (wpAny_loadName_local hF.env.kind hk hn e1 (K.here0 I h e2)) hd
theorem AE.cell {x : Str} {pos : Pos} {v : V} (hv : σ.loc x = some v) (h : P v σ.hp) (hk : F.env.kindOf x = some .cell := by rfl) (hc : (F.env.cells.lookup x).isSome = true := by rfl) (hd : (x == ("__debug__" : Str)) = false := by decide) : AE F (.Name x pos) σ P := by
  intro ρ s Q hF I K
  obtain ⟨c, hc⟩ := Option.isSome_iff_exists.mp hc
  obtain ⟨cv, h1, h2⟩ := I.cells x c hc
  obtain ⟨u, rfl, e2⟩ := h2 v hv
  exact wpAny_Name (wpAny_loadName_cell hF.env.kind hk hc h1 (K.here0 I h e2)) hd
theorem AE.int {i : Int} {k : Nat} {pos : Pos} (h : P (.int i) σ.hp) : AE F (.Constant (.int i) k pos) σ P :=
  fun _ _ _ _ I K => wpAny_Constant_int (K.here I h (.int _ _))
theorem AE.flt {i : UInt64} {k : Nat} {pos : Pos} (h : P (.flt i) σ.hp) : AE F (.Constant (.float i) k pos) σ P :=
  fun _ _ _ _ I K => wpAny_Constant_float (K.here I h (.flt _ _))
theorem AE.str {i : Str} {k : Nat} {pos : Pos} (h : P (.str i) σ.hp) : AE F (.Constant (.str i) k pos) σ P :=
  fun _ _ _ _ I K => Constant_str (K.here I h (.str _ _))
theorem AE.bool {i : Bool} {k : Nat} {pos : Pos} (h : P (.bool i) σ.hp) : AE F (.Constant (.bool i) k pos) σ P :=
  fun _ _ _ _ I K => wpAny_Constant_bool (K.here0 I h (.bool _))

/-! arguments -/
theorem AEs.nil {P : List V → List O → Prop} (h : P [] σ.hp) : AEs F [] σ P :=
  fun ρ s _ _ _ I K => spliced_nil (K [] σ.hp ρ [] s.heap s.toks h .nil I (Ext.refl _ _ _))
theorem AEs.cons {e : Expr} {es : List Expr} {P : List V → List O → Prop} (h : AE F e σ (fun v hp => AEs F es ⟨σ.loc, hp⟩ (fun vs hp' => P (v :: vs) hp')))
    (he : starEach (e :: es) F.env = (false, eval e F.env) :: starEach es F.env := by rfl) : AEs F (e :: es) σ P := by
  intro ρ s pos Q hF I K
  rw [he]
  refine spliced_cons (x := eval e F.env) (h ρ s _ hF I fun v hp ρ₁ u h₁ tk₁ hv hu I₁ E₁ => ?_)
  exact hv ρ₁ _ pos _ hF I₁ fun vs hp' ρ₂ us h₂ tk₂ hvs hus I₂ E₂ => K (v :: vs) hp' ρ₂ (u :: us) h₂ tk₂ hvs (.cons (E₂.vr hu) hus) I₂ (E₁.trans E₂)

/-! operators -/
def bop (op : Operator) : List Value → Sem Value
  | [a, b] => binaryOp op a b
  | _ => unsupported ""
theorem AE.binop {l r : Expr} {op : Operator} {pos : Pos} (h : AE F l σ (fun v hp => AE F r ⟨σ.loc, hp⟩ (fun w hp' => AV F [v, w] (bop op) ⟨σ.loc, hp'⟩ P))) : AE F (.BinOp l op r pos) σ P := by
  intro ρ s Q hF I K
  refine wpAny_BinOp (h ρ s _ hF I fun v hp ρ₁ u h₁ tk₁ hv hu I₁ E₁ => ?_)
  refine hv ρ₁ _ _ hF I₁ fun w hp' ρ₂ u' h₂ tk₂ hw hu' I₂ E₂ => ?_
  exact hw ρ₂ { s with heap := h₂, toks := tk₂ } [u, u'] Q hF I₂ (.cons (E₂.vr hu) (.cons hu' .nil)) (K.after (E₁.trans E₂))
theorem two {P : List Value → Prop} {ρ : List Addr} {v w : V} {us : List Value} (h : VRs ρ [v, w] us) (k : ∀ a b, VR ρ v a → VR ρ w b → P [a, b]) : P us := by
  cases h with | cons h1 r => cases r with | cons h2 r => cases r; exact k _ _ h1 h2
theorem one {P : List Value → Prop} {ρ : List Addr} {v : V} {us : List Value} (h : VRs ρ [v] us) (k : ∀ a, VR ρ v a → P [a]) : P us := by
  cases h with | cons h1 r => cases r; exact k _ h1

theorem AV.add {x y : Int} (h : P (.int (x + y)) σ.hp) : AV F [.int x, .int y] (bop .Add) σ P := by
  intro ρ s us Q hF I hv K
  refine two (P := fun us => wpAny _ _ (bop .Add us) Q never s) hv fun a b ha hb => ?_
  cases ha; cases hb
  exact PyProof.Rows.add_int (K.here I h (.int _ _))
theorem AV.sub {x y : Int} (h : P (.int (x - y)) σ.hp) : AV F [.int x, .int y] (bop .Sub) σ P := by
  intro ρ s us Q hF I hv K
  refine two (P := fun us => wpAny _ _ (bop .Sub us) Q never s) hv fun a b ha hb => ?_
  cases ha; cases hb
  exact PyProof.Rows.sub_int (K.here I h (.int _ _))
theorem AV.mul {x y : Int} (h : P (.int (x * y)) σ.hp) (hm : IntMulOk x y) : AV F [.int x, .int y] (bop .Mult) σ P := by
  intro ρ s us Q hF I hv K
  refine two (P := fun us => wpAny _ _ (bop .Mult us) Q never s) hv fun a b ha hb => ?_
  cases ha; cases hb
  exact PyProof.Rows.mul_int (K.here I h (.int _ _)) hm
theorem AV.fdiv {x y : Int} (hy : y ≠ 0) (hp : Builtin.divisionGoesByPylong x y = false) (h : P (.int (x.fdiv y)) σ.hp) : AV F [.int x, .int y] (bop .FloorDiv) σ P := by
  intro ρ s us Q hF I hv K
  refine two (P := fun us => wpAny _ _ (bop .FloorDiv us) Q never s) hv fun a b ha hb => ?_
  cases ha; cases hb
  exact PyProof.Rows.floordiv_int hy (K.here I h (.int _ _)) (.inl hp)
theorem AV.fmod {x y : Int} (hy : y ≠ 0) (h : P (.int (x.fmod y)) σ.hp) : AV F [.int x, .int y] (bop .Mod) σ P := by
  intro ρ s us Q hF I hv K
  refine two (P := fun us => wpAny _ _ (bop .Mod us) Q never s) hv fun a b ha hb => ?_
  cases ha; cases hb
  exact mod_int' hy (K.here I h (.int _ _))
theorem AV.pow {x y : Int} (hy : 0 ≤ y) (hp : (Builtin.Int.intBits x : Int) * y ≤ 2 ^ 27) (h : P (.int (x ^ y.toNat)) σ.hp) : AV F [.int x, .int y] (bop .Pow) σ P := by
  intro ρ s us Q hF I hv K
  refine two (P := fun us => wpAny _ _ (bop .Pow us) Q never s) hv fun a b ha hb => ?_
  cases ha; cases hb
  exact PyProof.Rows.pow_int hy hp (K.here I h (.int _ _))
end

/-! ## part 3 -/

theorem line_big {n : Nat} (h : n ≤ 4096) : n ≤ sizeLine := Nat.le_trans h (by decide)
theorem isL_of {h : Heap} {a : Addr} {us : List Value} {n : Nat} (e : h.get? a = some { cls := .type "list", data := .seq us.toArray n }) : IsL h a us.toArray n := e

section
variable {F : Fm} {σ : St} {P : V → List O → Prop}

/-- a new list at the heap's end -/
theorem KV.newObj {ρ : List Addr} {s : Shared} {Q : Value → Shared → Prop} {o : O} {ob : Obj} {tk : Nat} (K : KV F σ.loc ρ s Q P) (I : Inv F.g F.env ρ F.b σ s.heap)
    (ho : ObjAt ρ (s.heap.push ob) s.heap.objs.size o) (h : P (.ref σ.hp.length) (σ.hp ++ [o])) : Q (.ref s.heap.objs.size) { s with heap := s.heap.push ob, toks := tk } :=
  K (.ref σ.hp.length) _ (ρ ++ [s.heap.objs.size]) _ _ tk h (.ref (by rw [← I.len]; simp)) (I.new (fun _ _ e => Heap.get?_push_of_some _ e) (Heap.get?_none_of_le (Nat.le_refl _)) ho)
    (Ext.new (fun _ _ e => Heap.get?_push_of_some _ e) (Heap.get?_none_of_le (Nat.le_refl _)))
theorem lstAt_push {ρ : List Addr} {h : Heap} {vs : List V} {us : List Value} (n : Nat) (r : VRs ρ vs us) : ObjAt ρ (h.push { cls := .type "list", data := .seq us.toArray n }) h.objs.size (.lst vs) := ⟨us, n, Heap.get?_push_size _ rfl, r⟩
theorem tupAt_push {ρ : List Addr} {h : Heap} {vs : List V} {us : List Value} (n : Nat) (r : VRs ρ vs us) : ObjAt ρ (h.push { cls := .type "tuple", data := .seq us.toArray n }) h.objs.size (.tup vs) := ⟨us, n, Heap.get?_push_size _ rfl, r⟩

theorem AE.list {elts : List Expr} {pos : Pos} (h : AEs F elts σ (fun vs hp => vs.length ≤ 4096 ∧ P (.ref hp.length) (hp ++ [.lst vs]))) : AE F (.List elts pos) σ P := by
  intro ρ s Q hF I K
  refine wpAny_List_spliced (h ρ s pos _ hF I fun vs hp ρ₁ us h₁ tk₁ hv hus I₁ E₁ => ?_)
  exact ⟨line_big (hus.length ▸ hv.1), KV.newObj (σ := ⟨σ.loc, hp⟩) (s := { s with heap := h₁, toks := tk₁ }) (tk := tk₁) (K.after E₁) I₁ (lstAt_push 0 hus) hv.2⟩
theorem AE.tuple {elts : List Expr} {k : Nat} {pos : Pos} (h : AEs F elts σ (fun vs hp => vs.length ≤ 4096 ∧ P (.ref hp.length) (hp ++ [.tup vs]))) : AE F (.Tuple elts k pos) σ P := by
  intro ρ s Q hF I K
  refine wpAny_Tuple_spliced (h ρ s pos _ hF I fun vs hp ρ₁ us h₁ tk₁ hv hus I₁ E₁ => ?_)
  exact ⟨line_big (hus.length ▸ hv.1), KV.newObj (σ := ⟨σ.loc, hp⟩) (s := { s with heap := h₁, toks := tk₁ }) (tk := tk₁) (K.after E₁) I₁ (tupAt_push 0 hus) hv.2⟩

theorem AV.addLists {i j : Nat} {vs ws : List V} (hi : σ.hp[i]? = some (.lst vs)) (hj : σ.hp[j]? = some (.lst ws)) (hz : vs.length + ws.length ≤ 4096) (h : P (.ref σ.hp.length) (σ.hp ++ [.lst (vs ++ ws)])) :
    AV F [.ref i, .ref j] (bop .Add) σ P := by
  intro ρ s us Q hF I hv K
  refine two (P := fun us => wpAny _ _ (bop .Add us) Q never s) hv fun a b ha hb => ?_
  cases ha with | ref ha => cases hb with | ref hb =>
  obtain ⟨xs, n, l1, r1⟩ := I.list ha hi
  obtain ⟨ys, m, l2, r2⟩ := I.list hb hj
  refine PySem.P.add_list l1 l2 ?_ (line_big (by simp [r1.length, r2.length]; exact hz))
  have e : xs.toArray ++ ys.toArray = (xs ++ ys).toArray := by simp
  rw [e]
  exact KV.newObj (tk := s.toks) K I (lstAt_push 0 (r1.append r2)) h

theorem foldl_rep (n : Nat) (xs : List Value) : List.foldl (fun x1 x2 => x1 ++ x2) #[] (List.replicate (if xs.toArray.isEmpty = true then 0 else n) xs.toArray) = ((List.replicate n xs).flatten).toArray := by
  have key : ∀ (k : Nat) (acc : Array Value), List.foldl (fun x1 x2 => x1 ++ x2) acc (List.replicate k xs.toArray) = acc ++ ((List.replicate k xs).flatten).toArray := by
    intro k
    induction k with
    | zero => intro acc; simp
    | succ k ih => intro acc; rw [List.replicate_succ, List.foldl_cons, ih, List.replicate_succ, List.flatten_cons]; simp
  cases xs with
  | nil => simp [List.flatten_replicate_nil]
  | cons x r => simp [key]

theorem AV.mulList {i : Nat} {vs : List V} {n : Int} (hi : σ.hp[i]? = some (.lst vs)) (hlo : 0 ≤ n) (hz : vs.length * n.toNat ≤ 4096) (hn : n ≤ 4096) (h : P (.ref σ.hp.length) (σ.hp ++ [.lst (List.replicate n.toNat vs).flatten])) :
    AV F [.ref i, .int n] (bop .Mult) σ P := by
  intro ρ s us Q hF I hv K
  refine two (P := fun us => wpAny _ _ (bop .Mult us) Q never s) hv fun a b ha hb => ?_
  cases ha with | ref ha => cases hb with | int _ t =>
  obtain ⟨xs, k, l1, r1⟩ := I.list ha hi
  have hz' : xs.toArray.size * n.toNat ≤ 2 ^ 24 := by simp [r1.length]; exact Nat.le_trans hz (by decide)
  refine wpAny_binaryOp_repeat_ref (T := "list") (U := "int") (by decide) ⟨_, l1, rfl⟩ (fun s' => typeIs_int s' n t) noFill_list_mul PySem.F.fills_int_mul PySem.F.slot_int_rmul repeat_list PySem.F.slot_int_index.lookup
    (call_meets PySem.F.slot_int_rmul (typeIs_int s n t) PySem.F.entry_int_rmul (PySem.F.args_int_rmul_2 _ _) (int___rmul___int_list n t _ xs.toArray k)
      ⟨l1, rfl, ⟨_, l1, rfl⟩, call_meets PySem.F.slot_list_mul ⟨_, l1, rfl⟩ PySem.F.entry_list_mul (PySem.F.args_list_mul_2 _ _)
        (AutoListH.list___mul___list_int_3 _ xs.toArray k n t (by simp [Builtin.List.listFitsIndex]; omega) (by omega) (by simp [Builtin.List.listTooLong, sizeLine]; simpa using hz'))
        ⟨l1, ?_⟩⟩)
  rw [foldl_rep]
  exact KV.newObj (tk := s.toks) K I (lstAt_push 0 (r1.flat n.toNat)) h
theorem AV.mulListR {i : Nat} {vs : List V} {n : Int} (hi : σ.hp[i]? = some (.lst vs)) (hlo : 0 ≤ n) (hz : vs.length * n.toNat ≤ 4096) (hn : n ≤ 4096) (h : P (.ref σ.hp.length) (σ.hp ++ [.lst (List.replicate n.toNat vs).flatten])) :
    AV F [.int n, .ref i] (bop .Mult) σ P := by
  intro ρ s us Q hF I hv K
  refine two (P := fun us => wpAny _ _ (bop .Mult us) Q never s) hv fun a b ha hb => ?_
  cases ha with | int _ t => cases hb with | ref hb =>
  obtain ⟨xs, k, l1, r1⟩ := I.list hb hi
  have hz' : xs.toArray.size * n.toNat ≤ 2 ^ 24 := by simp [r1.length]; exact Nat.le_trans hz (by decide)
  refine lm_binaryOp_repeat_right (T := "list") (U := "int") (by decide) (fun s' => typeIs_int s' n t) ⟨_, l1, rfl⟩ PySem.F.fills_int_mul noFill_list_mul PySem.F.slot_int_mul lm_noRepeat_int repeat_list PySem.F.slot_int_index.lookup
    (call_meets PySem.F.slot_int_mul (typeIs_int s n t) PySem.F.entry_int_mul (PySem.F.args_int_mul_2 _ _) (lm_int_mul_list_any n t _ xs.toArray k none #[])
      ⟨l1, rfl, ⟨_, l1, rfl⟩, call_meets PySem.F.slot_list_mul ⟨_, l1, rfl⟩ PySem.F.entry_list_mul (PySem.F.args_list_mul_2 _ _)
        (lm_list_mul_any _ xs.toArray k none #[] n t (by simp [Builtin.List.listFitsIndex]; omega) (by omega) (by simp [Builtin.List.listTooLong, sizeLine]; simpa using hz'))
        ⟨l1, ?_⟩⟩)
  rw [foldl_rep]
  exact KV.newObj (tk := s.toks) K I (lstAt_push 0 (r1.flat n.toNat)) h

/-! subscripts -/
def item (value slice : Expr) : List Value → Sem Value
  | [a, b] => subscriptTail value slice a b
  | _ => unsupported ""
theorem AE.item {value slice : Expr} {pos : Pos} (h : AE F value σ (fun v hp => AE F slice ⟨σ.loc, hp⟩ (fun w hp' => AV F [v, w] (item value slice) ⟨σ.loc, hp'⟩ P))) : AE F (.Subscript value slice pos) σ P := by
  intro ρ s Q hF I K
  refine Subscript_ (h ρ s _ hF I fun v hp ρ₁ u h₁ tk₁ hv hu I₁ E₁ => ?_)
  refine hv ρ₁ _ _ hF I₁ fun w hp' ρ₂ u' h₂ tk₂ hw hu' I₂ E₂ => ?_
  exact hw ρ₂ { s with heap := h₂, toks := tk₂ } [u, u'] Q hF I₂ (.cons (E₂.vr hu) (.cons hu' .nil)) (K.after (E₁.trans E₂))
theorem AV.at {value slice : Expr} {i : Nat} {vs : List V} {k : Int} {x : V} (hi : σ.hp[i]? = some (.lst vs)) (h0 : 0 ≤ k) (hk : k < 4096) (hx : vs[k.toNat]? = some x) (h : P x σ.hp)
    (hs : ∀ o i, subscripted slice false o i = operate [o, i] (getItem o i) := by intro _ _; with_unfolding_all rfl) : AV F [.ref i, .int k] (item value slice) σ P := by
  intro ρ s us Q hF I hv K
  refine two (P := fun us => wpAny _ _ (Mine.item value slice us) Q never s) hv fun a b ha hb => ?_
  cases ha with | ref ha => cases hb with | int _ t =>
  obtain ⟨xs, n, l1, r1⟩ := I.list ha hi
  obtain ⟨u, e, hu⟩ := r1.get hx
  exact tail_any ⟨_, l1, rfl⟩ slot_list_getitem.lookup (wpAny_getItem_list (isList_of l1) h0 (by omega) (by simpa using e) (K.here0 I h hu)) (hs _ _)
theorem AV.last {value slice : Expr} {i : Nat} {vs : List V} {x : V} (hi : σ.hp[i]? = some (.lst vs)) (hx : vs.getLast? = some x) (h : P x σ.hp)
    (hs : ∀ o i, subscripted slice false o i = operate [o, i] (getItem o i) := by intro _ _; with_unfolding_all rfl) : AV F [.ref i, .int (-1)] (item value slice) σ P := by
  intro ρ s us Q hF I hv K
  refine two (P := fun us => wpAny _ _ (Mine.item value slice us) Q never s) hv fun a b ha hb => ?_
  cases ha with | ref ha => cases hb with | int _ t =>
  obtain ⟨xs, n, l1, r1⟩ := I.list ha hi
  have hx' : vs[vs.length - 1]? = some x := by rw [← List.getLast?_eq_getElem?]; exact hx
  have hpos : 0 < vs.length := by
    cases vs with
    | nil => simp at hx
    | cons => simp
  obtain ⟨u, e, hu⟩ := r1.get hx'
  have hl := r1.length
  refine tail_any ⟨_, l1, rfl⟩ slot_list_getitem.lookup (wpAny_getItem_list_neg (x := u) (isList_of l1) (by decide) (by simp; omega) (by decide) ?_ (K.here0 I h hu)) (hs _ _)
  have : ((-1 : Int) + (xs.toArray.size : Int)).toNat = vs.length - 1 := by simp; omega
  rw [this]; simpa using e
theorem AV.tat {value slice : Expr} {i : Nat} {vs : List V} {k : Int} {x : V} (hi : σ.hp[i]? = some (.tup vs)) (h0 : 0 ≤ k) (hk : k < 4096) (hx : vs[k.toNat]? = some x) (h : P x σ.hp)
    (hs : ∀ o i, subscripted slice false o i = operate [o, i] (getItem o i) := by intro _ _; with_unfolding_all rfl) : AV F [.ref i, .int k] (item value slice) σ P := by
  intro ρ s us Q hF I hv K
  refine two (P := fun us => wpAny _ _ (Mine.item value slice us) Q never s) hv fun a b ha hb => ?_
  cases ha with | ref ha => cases hb with | int _ t =>
  obtain ⟨xs, n, l1, r1⟩ := I.tup ha hi
  obtain ⟨u, e, hu⟩ := r1.get hx
  have hlt : k.toNat < xs.length := (List.getElem?_eq_some_iff.mp e).1
  refine PyProof.Rows.item_tupleT (l := xs) (j := k.toNat) (isTup_of l1) (by omega) (by omega) ?_ e (K.here0 I h hu) (hs _ _)
  unfold seqIndex?
  have : ¬ k < 0 := by omega
  simp [this]; omega
end

/-! ## part 4 -/

section
variable {F : Fm} {σ : St} {P : V → List O → Prop}

/-! floats -/
theorem AV.fadd {x y : UInt64} (h : P (.flt (Float64.add x y)) σ.hp) : AV F [.flt x, .flt y] (bop .Add) σ P := by
  intro ρ s us Q hF I hv K
  refine two (P := fun us => wpAny _ _ (bop .Add us) Q never s) hv fun a b ha hb => ?_
  cases ha; cases hb
  exact PySem.AutoFloatOps.add_0 (K.here I h (.flt _ _))
theorem AV.fmul {x y : UInt64} (h : P (.flt (Float64.mul x y)) σ.hp) : AV F [.flt x, .flt y] (bop .Mult) σ P := by
  intro ρ s us Q hF I hv K
  refine two (P := fun us => wpAny _ _ (bop .Mult us) Q never s) hv fun a b ha hb => ?_
  cases ha; cases hb
  exact PySem.AutoFloatOps.mul_0 (K.here I h (.flt _ _))
theorem AV.fmulI {x : UInt64} {n : Int} (hn : Float64.isInf (Float64.ofInt n) = false) (h : P (.flt (Float64.mul x (Float64.ofInt n))) σ.hp) : AV F [.flt x, .int n] (bop .Mult) σ P := by
  intro ρ s us Q hF I hv K
  refine two (P := fun us => wpAny _ _ (bop .Mult us) Q never s) hv fun a b ha hb => ?_
  cases ha; cases hb
  exact PySem.AutoFloatOps.mul_fi_1 (by rw [hn]; decide) (K.here I h (.flt _ _))
theorem AV.fsubI {x : UInt64} {n : Int} (hn : Float64.isInf (Float64.ofInt n) = false) (h : P (.flt (Float64.sub x (Float64.ofInt n))) σ.hp) : AV F [.flt x, .int n] (bop .Sub) σ P := by
  intro ρ s us Q hF I hv K
  refine two (P := fun us => wpAny _ _ (bop .Sub us) Q never s) hv fun a b ha hb => ?_
  cases ha; cases hb
  exact PySem.AutoFloatOps.sub_fi_1 (by rw [hn]; decide) (K.here I h (.flt _ _))
theorem AV.divIF {x : UInt64} {n : Int} (hn : Float64.isInf (Float64.ofInt n) = false) (hx : Float64.isZero x = false) (h : P (.flt (Float64.div (Float64.ofInt n) x)) σ.hp) : AV F [.int n, .flt x] (bop .Div) σ P := by
  intro ρ s us Q hF I hv K
  refine two (P := fun us => wpAny _ _ (bop .Div us) Q never s) hv fun a b ha hb => ?_
  cases ha; cases hb
  exact PySem.AutoFloatOps.truediv_if_2 (by rw [hn]; decide) (by rw [hx]; decide) (K.here I h (.flt _ _))
theorem AV.divFI {x : UInt64} {n : Int} (hn : Float64.isInf (Float64.ofInt n) = false) (hx : Float64.isZero (Float64.ofInt n) = false) (h : P (.flt (Float64.div x (Float64.ofInt n))) σ.hp) : AV F [.flt x, .int n] (bop .Div) σ P := by
  intro ρ s us Q hF I hv K
  refine two (P := fun us => wpAny _ _ (bop .Div us) Q never s) hv fun a b ha hb => ?_
  cases ha; cases hb
  exact PySem.AutoFloatOps.truediv_fi_2 (by rw [hn]; decide) (by rw [hx]; decide) (K.here I h (.flt _ _))
/-- int / int -/
def divII (x y : Int) : UInt64 := Float64.ofFrac (decide (x < 0) != decide (y < 0)) x.natAbs y.natAbs
theorem AV.divII {x y : Int} (hy : (y == 0) = false) (hi : Float64.isInf (divII x y) = false) (h : P (.flt (Mine.divII x y)) σ.hp) : AV F [.int x, .int y] (bop .Div) σ P := by
  intro ρ s us Q hF I hv K
  refine two (P := fun us => wpAny _ _ (bop .Div us) Q never s) hv fun a b ha hb => ?_
  cases ha; cases hb
  exact PySem.AutoIntOps.truediv_2 (by rw [hy]; decide) (by rw [show Float64.ofFrac _ _ _ = Mine.divII x y from rfl, hi]; decide) (K.here I h (.flt _ _))

/-! the unary minus -/
theorem AE.neg {e : Expr} {pos : Pos} (h : AE F e σ (fun v hp => ∃ i, v = .int i ∧ P (.int (-i)) hp)) : AE F (.UnaryOp .USub e pos) σ P := by
  intro ρ s Q hF I K
  refine wpAny_UnaryOp (h ρ s _ hF I fun v hp ρ₁ u h₁ tk₁ hv hu I₁ E₁ => ?_)
  obtain ⟨i, rfl, hP⟩ := hv
  cases hu
  exact PyProof.Rows.neg_int (K _ hp ρ₁ _ h₁ (tk₁ + 1) hP (.int _ _) I₁ E₁)

/-! comparisons -/
def cop (op : CmpOp) : List Value → Sem Value
  | [a, b] => compareOp op a b
  | _ => unsupported ""
theorem AE.cmp {l r : Expr} {op : CmpOp} {pos : Pos} (h : AE F l σ (fun v hp => AE F r ⟨σ.loc, hp⟩ (fun w hp' => AV F [v, w] (cop op) ⟨σ.loc, hp'⟩ P))) (hb : behindInMarks op r = false := by rfl) : AE F (.Compare l [op] [r] pos) σ P := by
  intro ρ s Q hF I K
  refine wpAny_Compare1 (h ρ s _ hF I fun v hp ρ₁ u h₁ tk₁ hv hu I₁ E₁ => ?_) hb
  refine hv ρ₁ _ _ hF I₁ fun w hp' ρ₂ u' h₂ tk₂ hw hu' I₂ E₂ => ?_
  exact hw ρ₂ { s with heap := h₂, toks := tk₂ } [u, u'] Q hF I₂ (.cons (E₂.vr hu) (.cons hu' .nil)) (K.after (E₁.trans E₂))
theorem AT.cmp {P : Bool → List O → Prop} {l r : Expr} {op : CmpOp} {pos : Pos} (h : AE F l σ (fun v hp => AE F r ⟨σ.loc, hp⟩ (fun w hp' => AV F [v, w] (cop op) ⟨σ.loc, hp'⟩ (fun x hp'' => ∃ c, x = .bool c ∧ P c hp'')))) (hb : behindInMarks op r = false := by rfl) :
    AT F (.Compare l [op] [r] pos) σ P := by
  intro ρ s Q hF I K
  refine wpAny_isTrue_Compare1 (h ρ s _ hF I fun v hp ρ₁ u h₁ tk₁ hv hu I₁ E₁ => ?_) hb
  refine hv ρ₁ _ _ hF I₁ fun w hp' ρ₂ u' h₂ tk₂ hw hu' I₂ E₂ => ?_
  refine hw ρ₂ { s with heap := h₂, toks := tk₂ } [u, u'] _ hF I₂ (.cons (E₂.vr hu) (.cons hu' .nil)) fun x hp'' ρ₃ u'' h₃ tk₃ hx hu'' I₃ E₃ => ?_
  obtain ⟨c, rfl, hP⟩ := hx
  cases hu''
  exact wpAny_truthy_bool (K c hp'' ρ₃ h₃ tk₃ hP I₃ ((E₁.trans E₂).trans E₃))

theorem AV.eqI {x y : Int} (h : P (.bool (x == y)) σ.hp) : AV F [.int x, .int y] (cop .Eq) σ P := by
  intro ρ s us Q hF I hv K
  refine two (P := fun us => wpAny _ _ (cop .Eq us) Q never s) hv fun a b ha hb => ?_
  cases ha; cases hb
  exact PyProof.Rows.eq_int (K.here0 I h (.bool _))
theorem AV.neI {x y : Int} (h : P (.bool (x != y)) σ.hp) : AV F [.int x, .int y] (cop .NotEq) σ P := by
  intro ρ s us Q hF I hv K
  refine two (P := fun us => wpAny _ _ (cop .NotEq us) Q never s) hv fun a b ha hb => ?_
  cases ha; cases hb
  exact PyProof.Rows.ne_int (K.here0 I h (.bool _))
theorem AV.ltI {x y : Int} (h : P (.bool (decide (x < y))) σ.hp) : AV F [.int x, .int y] (cop .Lt) σ P := by
  intro ρ s us Q hF I hv K
  refine two (P := fun us => wpAny _ _ (cop .Lt us) Q never s) hv fun a b ha hb => ?_
  cases ha; cases hb
  exact PyProof.Rows.lt_int (K.here0 I h (.bool _))
theorem AV.gtI {x y : Int} (h : P (.bool (decide (y < x))) σ.hp) : AV F [.int x, .int y] (cop .Gt) σ P := by
  intro ρ s us Q hF I hv K
  refine two (P := fun us => wpAny _ _ (cop .Gt us) Q never s) hv fun a b ha hb => ?_
  cases ha; cases hb
  exact PyProof.Rows.gt_int (K.here0 I h (.bool _))
theorem AV.eqS {x y : Str} (h : P (.bool (x.cps.toList == y.cps.toList)) σ.hp) : AV F [.str x, .str y] (cop .Eq) σ P := by
  intro ρ s us Q hF I hv K
  refine two (P := fun us => wpAny _ _ (cop .Eq us) Q never s) hv fun a b ha hb => ?_
  cases ha; cases hb
  exact PySem.P.eq_str (K.here0 I h (.bool _))
theorem AV.ltFI {x : UInt64} {n : Int} (h : P (.bool (Float64.cmpInt x n == some Ordering.lt)) σ.hp) : AV F [.flt x, .int n] (cop .Lt) σ P := by
  intro ρ s us Q hF I hv K
  refine two (P := fun us => wpAny _ _ (cop .Lt us) Q never s) hv fun a b ha hb => ?_
  cases ha; cases hb
  exact PyProof.Rows.lt_fi (K.here0 I h (.bool _))

/-! tests -/
theorem AT.val {P : Bool → List O → Prop} {e : Expr} (h : AE F e σ (fun v hp => AB F v ⟨σ.loc, hp⟩ P)) (he : isTrue e F.env (eval e F.env) = (do let v ← eval e F.env; standAt e.pos; holding [v] (truthy v)) := by rfl) : AT F e σ P := by
  intro ρ s Q hF I K
  refine isTrue_plain (h ρ s _ hF I fun v hp ρ₁ u h₁ tk₁ hv hu I₁ E₁ => ?_) he
  exact hv ρ₁ { s with heap := h₁, toks := tk₁ } u Q hF I₁ hu (K.after E₁)
theorem AB.bool {P : Bool → List O → Prop} {c : Bool} (h : P c σ.hp) : AB F (.bool c) σ P := by
  intro ρ s u Q hF I hu K
  cases hu
  exact wpAny_truthy_bool (K.here0 I h)
theorem AB.list {P : Bool → List O → Prop} {i : Nat} {vs : List V} (hi : σ.hp[i]? = some (.lst vs)) (hz : vs.length ≤ 4096) (h : P (!vs.isEmpty) σ.hp) : AB F (.ref i) σ P := by
  intro ρ s u Q hF I hu K
  cases hu with | ref ha =>
  obtain ⟨xs, n, l1, r1⟩ := I.list ha hi
  have hl := r1.length
  refine wpAny_truthy_list (isList_of l1) (by simp; omega) ?_
  have e : (!xs.toArray.isEmpty) = (!vs.isEmpty) := by
    cases xs <;> cases vs <;> simp_all
  rw [e]
  exact K.here I h
theorem AT.not {P : Bool → List O → Prop} {e : Expr} {pos : Pos} (h : AT F e σ (fun c hp => P (!c) hp)) : AT F (.UnaryOp .Not e pos) σ P := by
  intro ρ s Q hF I K
  exact wpAny_isTrue_Not (h ρ s _ hF I fun v hp ρ₁ h₁ tk₁ hv I₁ E₁ => K _ hp ρ₁ h₁ tk₁ hv I₁ E₁)
theorem AT.andNil {P : Bool → List O → Prop} {pos : Pos} (h : P true σ.hp) : AT F (.BoolOp .And [] pos) σ P := by
  intro ρ s Q hF I K
  exact isTrue_and_nil (K.here0 I h)
theorem AT.and {P : Bool → List O → Prop} {e : Expr} {es : List Expr} {pos : Pos} (h : AT F e σ (fun c hp => if c then AT F (.BoolOp .And es pos) ⟨σ.loc, hp⟩ P else P false hp)) : AT F (.BoolOp .And (e :: es) pos) σ P := by
  intro ρ s Q hF I K
  refine isTrue_and (h ρ s _ hF I fun v hp ρ₁ h₁ tk₁ hv I₁ E₁ => ?_)
  cases v with
  | true => exact hv ρ₁ { s with heap := h₁, toks := tk₁ } Q hF I₁ (K.after E₁)
  | false => exact K _ hp ρ₁ h₁ tk₁ hv I₁ E₁
theorem AT.orNil {P : Bool → List O → Prop} {pos : Pos} (h : P false σ.hp) : AT F (.BoolOp .Or [] pos) σ P := by
  intro ρ s Q hF I K
  exact isTrue_or_nil (K.here0 I h)
theorem AT.or {P : Bool → List O → Prop} {e : Expr} {es : List Expr} {pos : Pos} (h : AT F e σ (fun c hp => if c then P true hp else AT F (.BoolOp .Or es pos) ⟨σ.loc, hp⟩ P)) : AT F (.BoolOp .Or (e :: es) pos) σ P := by
  intro ρ s Q hF I K
  refine isTrue_or (h ρ s _ hF I fun v hp ρ₁ h₁ tk₁ hv I₁ E₁ => ?_)
  cases v with
  | false => exact hv ρ₁ { s with heap := h₁, toks := tk₁ } Q hF I₁ (K.after E₁)
  | true => exact K _ hp ρ₁ h₁ tk₁ hv I₁ E₁
theorem AE.ifexp {t x y : Expr} {pos : Pos} (h : AT F t σ (fun c hp => if c then AE F x ⟨σ.loc, hp⟩ P else AE F y ⟨σ.loc, hp⟩ P)) : AE F (.IfExp t x y pos) σ P := by
  intro ρ s Q hF I K
  refine wpAny_IfExp (h ρ s _ hF I fun v hp ρ₁ h₁ tk₁ hv I₁ E₁ => ?_)
  cases v with
  | true => exact hv ρ₁ { s with heap := h₁, toks := tk₁ } Q hF I₁ (K.after E₁)
  | false => exact hv ρ₁ { s with heap := h₁, toks := tk₁ } Q hF I₁ (K.after E₁)
end

/-! ## part 5 -/

theorem gname {F : Fm} {σ : St} {ρ : List Addr} {s : Shared} {Q : Value → Shared → Prop} {x : String} {pos : Pos} {v : Value} (hF : F.OK) (I : Inv F.g F.env ρ F.b σ s.heap) (hx : F.env.kindOf (Str.ofString x) = some .globalImplicit) (hm : x ∈ biNames)
    (hv : bootBuiltins (Str.ofString x) = some v) (hd : (Str.ofString x == ("__debug__" : Str)) = false) (h : Q v s) : wpAny (model F.prog F.w) F.A (eval (.Name (Str.ofString x) pos) F.env) Q never s := by
  obtain ⟨mg, mb, hg, hb, hbi, _⟩ := hF.gl.ex
  have g1 : s.heap.Ns F.env.globals mg := by rw [hF.env.globals]; exact ns_at hg fun o => I.keep _ o
  have b1 : s.heap.Ns F.env.builtins mb := by rw [hF.env.builtins]; exact ns_at hb fun o => I.keep _ o
  exact Name_function_global hF.env.kind hx (loadGlobal_builtin g1 (hbi x hm).1 b1 ((hbi x hm).2.trans hv) h) hd

section
variable {F : Fm} {σ : St} {P : V → List O → Prop}

theorem AEs.args {es : List Expr} {P : List V → List O → Prop} {ρ : List Addr} {s : Shared} {pos : Pos} {f : Value} {Q : Args → Shared → Prop} (h : AEs F es σ P) (hF : F.OK) (I : Inv F.g F.env ρ F.b σ s.heap)
    (hne : ∃ e r, es = e :: r ∧ starEach (e :: r) F.env = (false, eval e F.env) :: starEach r F.env) (K : KL F σ.loc ρ s (fun us => Q ⟨us, []⟩) P) :
    wpAny (model F.prog F.w) F.A (evalArgs f true (backTo pos (starEach es F.env)) []) Q never s := by
  obtain ⟨e, r, rfl, hs⟩ := hne
  have k := h ρ s pos _ hF I K
  rw [hs] at k ⊢
  exact Calls.evalArgs_plain k

/-- a built-in called by its name -/
theorem AE.callB {x : String} {id : String} {np pos : Pos} {e : Expr} {es : List Expr} (hm : x ∈ biNames) (hv : bootBuiltins (Str.ofString x) = some (.builtin id)) (hx : F.env.kindOf (Str.ofString x) = some .globalImplicit)
    (h : AEs F (e :: es) σ (fun vs hp => AV F vs (fun us => call (.builtin id) us) ⟨σ.loc, hp⟩ P))
    (hs : starEach (e :: es) F.env = (false, eval e F.env) :: starEach es F.env := by rfl) (hp : (backTo pos (starEach (e :: es) F.env)).any (·.1) = false := by rfl) (hd : (Str.ofString x == ("__debug__" : Str)) = false := by decide) :
    AE F (.Call (.Name (Str.ofString x) np) (e :: es) [] pos) σ P := by
  intro ρ s Q hF I K
  refine wpAny_Call_ofName (gname hF I hx hm hv hd ?_)
  refine Calls.callWith_builtin hp (h.args hF I ⟨e, es, rfl, hs⟩ fun vs hp ρ₁ us h₁ tk₁ hv hus I₁ E₁ => ?_)
  exact hv ρ₁ { s with heap := h₁, toks := tk₁ } us Q hF I₁ hus (K.after E₁)
/-- a type called by its name -/
theorem AE.callT {x : String} {id : String} {np pos : Pos} {e : Expr} {es : List Expr} (hm : x ∈ biNames) (hv : bootBuiltins (Str.ofString x) = some (.type id)) (hx : F.env.kindOf (Str.ofString x) = some .globalImplicit)
    (h : AEs F (e :: es) σ (fun vs hp => AV F vs (fun us => call (.type id) us) ⟨σ.loc, hp⟩ P))
    (hs : starEach (e :: es) F.env = (false, eval e F.env) :: starEach es F.env := by rfl) (hp : (backTo pos (starEach (e :: es) F.env)).any (·.1) = false := by rfl) (hd : (Str.ofString x == ("__debug__" : Str)) = false := by decide) :
    AE F (.Call (.Name (Str.ofString x) np) (e :: es) [] pos) σ P := by
  intro ρ s Q hF I K
  refine wpAny_Call_ofName (gname hF I hx hm hv hd ?_)
  refine PyProof.Rows.callWith_type hp (h.args hF I ⟨e, es, rfl, hs⟩ fun vs hp ρ₁ us h₁ tk₁ hv hus I₁ E₁ => ?_)
  exact hv ρ₁ { s with heap := h₁, toks := tk₁ } us Q hF I₁ hus (K.after E₁)
/-- isinstance -/
def isi (T : String) : List Value → Sem Value
  | [u] => call (.builtin "isinstance") [u, .type T]
  | _ => unsupported ""
/-- isinstance(value, a built-in type) -/
theorem AE.isi {T : String} {np tp pos : Pos} {e : Expr} {id : String} (hx : F.env.kindOf (Str.ofString "isinstance") = some .globalImplicit) (ht : F.env.kindOf (Str.ofString T) = some .globalImplicit) (hm : T ∈ biNames)
    (hv : bootBuiltins (Str.ofString T) = some (.type id)) (hd : (Str.ofString T == ("__debug__" : Str)) = false)
    (h : AE F e σ (fun v hp => AV F [v] (isi id) ⟨σ.loc, hp⟩ P))
    (hs : starEach [e, .Name (Str.ofString T) tp] F.env = (false, eval e F.env) :: [(false, eval (.Name (Str.ofString T) tp) F.env)] := by rfl) (hp : (backTo pos (starEach [e, .Name (Str.ofString T) tp] F.env)).any (·.1) = false := by rfl) :
    AE F (.Call (.Name (Str.ofString "isinstance") np) [e, .Name (Str.ofString T) tp] [] pos) σ P := by
  intro ρ s Q hF I K
  refine wpAny_Call_ofName (gname hF I hx (by decide) PyProof.Rows.boot_isinstance (by decide) ?_)
  refine Calls.callWith_builtin hp ?_
  rw [hs]
  refine Calls.evalArgs_plain (x := eval e F.env) (Calls.spliced_cons (h ρ s _ hF I fun v hp ρ₁ u h₁ tk₁ hv' hu I₁ E₁ => ?_))
  refine Calls.spliced_cons (x := eval (.Name (Str.ofString T) tp) F.env) (gname hF I₁ ht hm hv hd ?_)
  refine Calls.spliced_nil ?_
  exact hv' ρ₁ { s with heap := h₁, toks := tk₁ } [u] Q hF I₁ (.cons hu .nil) (K.after E₁)

/-! the built-ins -/
theorem AV.lenL {i : Nat} {vs : List V} (hi : σ.hp[i]? = some (.lst vs)) (hz : vs.length ≤ 4096) (h : P (.int vs.length) σ.hp) : AV F [.ref i] (fun us => call (.builtin "len") us) σ P := by
  intro ρ s us Q hF I hv K
  refine one (P := fun us => wpAny _ _ (call (.builtin "len") us) Q never s) hv fun a ha => ?_
  cases ha with | ref ha =>
  obtain ⟨xs, n, l1, r1⟩ := I.list ha hi
  have hl := r1.length
  refine len_list (isList_of l1) (by simp; omega) ?_
  have e : ((xs.toArray.size : Nat) : Int) = (vs.length : Int) := by simp [hl]
  rw [e]
  exact K.here I h (.int _ _)
theorem AV.max2 {x y : Int} (h : P (.int (if y > x then y else x)) σ.hp) : AV F [.int x, .int y] (fun us => call (.builtin "max") us) σ P := by
  intro ρ s us Q hF I hv K
  refine two (P := fun us => wpAny _ _ (call (.builtin "max") us) Q never s) hv fun a b ha hb => ?_
  cases ha; cases hb
  refine max_two_ints hF.hh fun h' tk hk => ?_
  by_cases c : y > x
  · rw [if_pos c] at h ⊢; exact K.grown I hk h (.int _ _)
  · rw [if_neg c] at h ⊢; exact K.grown I hk h (.int _ _)
theorem AV.absF {x : UInt64} (h : P (.flt (Float64.abs x)) σ.hp) : AV F [.flt x] (fun us => call (.builtin "abs") us) σ P := by
  intro ρ s us Q hF I hv K
  refine one (P := fun us => wpAny _ _ (call (.builtin "abs") us) Q never s) hv fun a ha => ?_
  cases ha
  exact PySem.Flt.call_abs_float (K.here I h (.flt _ _))
theorem AV.floatI {n : Int} (hn : Float64.isInf (Float64.ofInt n) = false) (h : P (.flt (Float64.ofInt n)) σ.hp) : AV F [.int n] (fun us => call (.type "float") us) σ P := by
  intro ρ s us Q hF I hv K
  refine one (P := fun us => wpAny _ _ (call (.type "float") us) Q never s) hv fun a ha => ?_
  cases ha
  exact call_float_int (by rw [hn]; decide) (K.here I h (.flt _ _))
theorem AV.floatF {x : UInt64} (h : P (.flt x) σ.hp) : AV F [.flt x] (fun us => call (.type "float") us) σ P := by
  intro ρ s us Q hF I hv K
  refine one (P := fun us => wpAny _ _ (call (.type "float") us) Q never s) hv fun a ha => ?_
  cases ha
  exact call_float_float (K.here0 I h (.flt _ _))
theorem KV.made {ρ : List Addr} {s : Shared} {Q : Value → Shared → Prop} {o : O} {a : Addr} {h' : Heap} {tk : Nat} (K : KV F σ.loc ρ s Q P) (I : Inv F.g F.env ρ F.b σ s.heap) (hk : ∀ b o, s.heap.get? b = some o → h'.get? b = some o)
    (ha : s.heap.get? a = none) (ho : ObjAt ρ h' a o) (h : P (.ref σ.hp.length) (σ.hp ++ [o])) : Q (.ref a) { s with heap := h', toks := tk } :=
  K (.ref σ.hp.length) _ (ρ ++ [a]) _ _ tk h (.ref (by rw [← I.len]; simp)) (I.new hk ha ho) (Ext.new hk ha)
theorem AV.listL {i : Nat} {vs : List V} (hi : σ.hp[i]? = some (.lst vs)) (hz : vs.length ≤ 4096) (h : P (.ref σ.hp.length) (σ.hp ++ [.lst vs])) : AV F [.ref i] (fun us => call (.type "list") us) σ P := by
  intro ρ s us Q hF I hv K
  refine one (P := fun us => wpAny _ _ (call (.type "list") us) Q never s) hv fun a ha => ?_
  cases ha with | ref ha =>
  obtain ⟨xs, n, l1, r1⟩ := I.list ha hi
  refine call_list_seq _ (.inl rfl) l1 rfl rfl (fun h' c' hk hn => ?_) (line_big (by simp [r1.length]; exact hz))
  exact KV.made (tk := s.toks) K I hk (Heap.get?_none_of_le (Nat.le_refl _)) (show ObjAt ρ h' _ (.lst vs) from ⟨xs, c', hn, r1⟩) h

theorem VRs.ints {ρ : List Addr} : ∀ {ns : List Int} {us : List Value}, VRs ρ (ns.map V.int) us → IntsAre us ns
  | [], _, h => by cases h; exact .nil
  | n :: ns, _, h => by
    cases h with
    | cons h r => cases h with
      | int _ t => exact .cons n t (VRs.ints r)
theorem VRs.strs {ρ : List Addr} : ∀ {ns : List Str} {us : List Value}, VRs ρ (ns.map V.str) us → StrsAre us ns
  | [], _, h => by cases h; exact .nil
  | n :: ns, _, h => by
    cases h with
    | cons h r => cases h with
      | str _ t => exact .cons n t (VRs.strs r)

theorem AV.maxL {i : Nat} {ns : List Int} (hi : σ.hp[i]? = some (.lst (ns.map V.int))) (hne : 0 < ns.length) (h : ∀ M, M ∈ ns → (∀ a ∈ ns, a ≤ M) → P (.int M) σ.hp) : AV F [.ref i] (fun us => call (.builtin "max") us) σ P := by
  intro ρ s us Q hF I hv K
  refine one (P := fun us => wpAny _ _ (call (.builtin "max") us) Q never s) hv fun a ha => ?_
  cases ha with | ref ha =>
  obtain ⟨vs, n, l1, r1⟩ := I.list ha hi
  have hI := r1.ints
  obtain ⟨xs, hxs⟩ := hI.allInts.items
  have hnum := hI.numsOf
  have e1 : numsOf (intItems xs).toList = ns := by rw [← hxs]; exact hnum
  rw [nums_intItems] at e1
  have hl := hI.length
  have hsz : xs.size = ns.length := by rw [← e1]; simp
  refine max_intList (xs := xs) hF.hh (by rw [← hxs]; exact isList_of l1) (by omega) fun v h' tk hv' hk => ?_
  obtain ⟨t, rfl⟩ := intItems_at hv'
  obtain ⟨h1, h2⟩ := argBest_gt (numAt xs) (xs.size - 1)
  refine K.grown I hk (h _ ?_ fun a ha => ?_) (.int _ _)
  · rw [numAt_eq, e1]; exact getD_mem (by omega)
  · obtain ⟨j, hj, rfl⟩ := mem_getD ha
    rw [← e1, ← numAt_eq]; exact h2 j (by omega)
theorem AV.sumL {i : Nat} {ns : List Int} (hi : σ.hp[i]? = some (.lst (ns.map V.int))) (hfit : PySem.SumFits ns) (h : P (.int ns.sum) σ.hp) : AV F [.ref i] (fun us => call (.builtin "sum") us) σ P := by
  intro ρ s us Q hF I hv K
  refine one (P := fun us => wpAny _ _ (call (.builtin "sum") us) Q never s) hv fun a ha => ?_
  cases ha with | ref ha =>
  obtain ⟨vs, n, l1, r1⟩ := I.list ha hi
  have hI := r1.ints
  obtain ⟨xs, hxs⟩ := hI.allInts.items
  have hnum := hI.numsOf
  have e1 : numsOf (intItems xs).toList = ns := by rw [← hxs]; exact hnum
  rw [nums_intItems] at e1
  have hsz : xs.size = ns.length := by rw [← e1]; simp
  refine sum_intList (xs := xs) hF.hh (by rw [← hxs]; exact isList_of l1) (fun j hj => ?_) fun h' tk t' hk => ?_
  · rw [numAt_eq, preSum_eq, e1]; exact hfit j (by omega)
  · rw [preSum_eq, e1, List.take_of_length_le (by omega)]
    exact K.grown I hk h (.int _ _)

/-! ranges: the value is no place of ours; what follows is a loop's or a comprehension's -/
theorem AV.isiStr_str {x : Str} (h : P (.bool true) σ.hp) : AV F [.str x] (isi "str") σ P := by
  intro ρ s us Q hF I hv K
  refine one (P := fun us => wpAny _ _ (isi "str" us) Q never s) hv fun a ha => ?_
  cases ha
  exact PySem.IsiPair.str_str (K.here0 I h (.bool _))
theorem AV.isiInt_str {x : Int} (h : P (.bool false) σ.hp) : AV F [.int x] (isi "str") σ P := by
  intro ρ s us Q hF I hv K
  refine one (P := fun us => wpAny _ _ (isi "str" us) Q never s) hv fun a ha => ?_
  cases ha
  exact PySem.IsiPair.int_str (K.here I h (.bool _))
theorem AV.isiInt_tuple {x : Int} (h : P (.bool false) σ.hp) : AV F [.int x] (isi "tuple") σ P := by
  intro ρ s us Q hF I hv K
  refine one (P := fun us => wpAny _ _ (isi "tuple" us) Q never s) hv fun a ha => ?_
  cases ha
  exact PySem.IsiPair.int_tuple (K.here I h (.bool _))
theorem AV.isiInt_int {x : Int} (h : P (.bool true) σ.hp) : AV F [.int x] (isi "int") σ P := by
  intro ρ s us Q hF I hv K
  refine one (P := fun us => wpAny _ _ (isi "int" us) Q never s) hv fun a ha => ?_
  cases ha
  exact PySem.IsiPair.int_int (K.here0 I h (.bool _))
theorem AV.isiStr_list {x : Str} (h : P (.bool false) σ.hp) : AV F [.str x] (isi "list") σ P := by
  intro ρ s us Q hF I hv K
  refine one (P := fun us => wpAny _ _ (isi "list" us) Q never s) hv fun a ha => ?_
  cases ha
  exact PySem.IsiPair.str_list (K.here I h (.bool _))
theorem AV.isiList_list {i : Nat} {vs : List V} (hi : σ.hp[i]? = some (.lst vs)) (h : P (.bool true) σ.hp) : AV F [.ref i] (isi "list") σ P := by
  intro ρ s us Q hF I hv K
  refine one (P := fun us => wpAny _ _ (isi "list" us) Q never s) hv fun a ha => ?_
  cases ha with | ref ha =>
  obtain ⟨xs, n, l1, r1⟩ := I.list ha hi
  exact PySem.IsiPair.list_list l1 rfl (K.here0 I h (.bool _))
theorem AV.isiTup_str {i : Nat} {vs : List V} (hi : σ.hp[i]? = some (.tup vs)) (h : P (.bool false) σ.hp) : AV F [.ref i] (isi "str") σ P := by
  intro ρ s us Q hF I hv K
  refine one (P := fun us => wpAny _ _ (isi "str" us) Q never s) hv fun a ha => ?_
  cases ha with | ref ha =>
  obtain ⟨xs, n, l1, r1⟩ := I.tup ha hi
  exact PySem.IsiPair.tuple_str l1 rfl (K.here I h (.bool _))
theorem AV.isiTup_tup {i : Nat} {vs : List V} (hi : σ.hp[i]? = some (.tup vs)) (h : P (.bool true) σ.hp) : AV F [.ref i] (isi "tuple") σ P := by
  intro ρ s us Q hF I hv K
  refine one (P := fun us => wpAny _ _ (isi "tuple" us) Q never s) hv fun a ha => ?_
  cases ha with | ref ha =>
  obtain ⟨xs, n, l1, r1⟩ := I.tup ha hi
  exact PySem.IsiPair.tuple_tuple l1 rfl (K.here0 I h (.bool _))

end

/-! ## part 6 -/

section
variable {F : Fm} {σ : St} {P : V → List O → Prop}

/-- a method of a list -/
theorem AE.meth {o e : Expr} {es : List Expr} {name id : String} {apos pos : Pos} (slot : Slot "list" (Str.ofString name) id) (hty : typeOf (Value.builtin id) = pure (.type "method_descriptor"))
    (h : AE F o σ (fun v hp => (∃ i vs, v = .ref i ∧ hp[i]? = some (.lst vs)) ∧ AEs F (e :: es) ⟨σ.loc, hp⟩ (fun ws hp' => AV F (v :: ws) (fun us => call (.builtin id) us) ⟨σ.loc, hp'⟩ P)))
    (hbase : attributeBase o (Str.ofString name) F.env (eval o F.env) = eval o F.env := by rfl)
    (hfew : ((List.all (backTo pos (starEach (e :: es) F.env)) fun x => !x.1) && (List.all (backToKw pos (keywordEach [] F.env)) fun x => Option.isSome x.1) && decide (((e :: es).length + ([] : List Keyword).length + if ([] : List Keyword).isEmpty = true then 0 else 1) < 30)) = true := by rfl)
    (hline : (apos.endLine == pos.line) = true := by rfl)
    (hs : starEach (e :: es) F.env = (false, eval e F.env) :: starEach es F.env := by rfl) (hp : (backTo pos (starEach (e :: es) F.env)).any (·.1) = false := by rfl) :
    AE F (.Call (.Attribute o (Str.ofString name) apos) (e :: es) [] pos) σ P := by
  intro ρ s Q hF I K
  refine wpAny_Call_method (T := "list") (id := id) hbase hfew hline PySem.F.plainAttrs_list slot hty (h ρ s _ hF I fun v hp₁ ρ₁ u h₁ tk₁ hv hu I₁ E₁ => ?_)
  obtain ⟨⟨i, vs, rfl, hi⟩, hv⟩ := hv
  cases hu with | ref ha =>
  obtain ⟨xs, n, l1, r1⟩ := I₁.list ha hi
  refine ⟨⟨_, l1, rfl⟩, fun a q => ?_, ?_⟩
  · cases q; exact ⟨_, l1, rfl⟩
  refine Calls.callWith_builtin hp (hv.args hF I₁ ⟨e, es, rfl, hs⟩ fun ws hp' ρ₂ us h₂ tk₂ hw hus I₂ E₂ => ?_)
  exact hw ρ₂ { s with heap := h₂, toks := tk₂ } (_ :: us) Q hF I₂ (.cons (E₂.vr (.ref ha)) hus) (K.after (E₁.trans E₂))

theorem KV.mut {ρ : List Addr} {s : Shared} {Q : Value → Shared → Prop} {i : Nat} {a : Addr} {o : O} {h' : Heap} {tk : Nat} {v : V} {u : Value} (hF : F.OK) (K : KV F σ.loc ρ s Q P) (I : Inv F.g F.env ρ F.b σ s.heap) (e : ρ[i]? = some a) (hb : F.b ≤ i)
    (hs : Heap.SameBut a s.heap h') (ho : ObjAt ρ h' a o) (h : P v (σ.hp.set i o)) (hv : VR ρ v u) : Q u { s with heap := h', toks := tk } := by
  obtain ⟨ob, _, _, hob, _⟩ := ho.seq
  exact K v _ ρ u h' tk h hv (I.mut hF.env e hb hs ho) (Ext.mut hob e hb hs)

theorem lst_upd {h : Heap} {a : Addr} {us ws : List Value} {n : Nat} {ρ : List Addr} {vs : List V} {f : Array Value → Array Value} (l : IsL h a us.toArray n) (e : f us.toArray = ws.toArray) (r : VRs ρ vs ws) : ObjAt ρ (h.update a (Obj.mapSeq f)) a (.lst vs) := by
  have k := PySem.IsL.update l f
  rw [e] at k
  exact ⟨ws, _, k, r⟩

theorem AV.append {i : Nat} {vs : List V} {w : V} (hi : σ.hp[i]? = some (.lst vs)) (hb : F.b ≤ i) (hz : vs.length ≤ 4096) (h : P .none (σ.hp.set i (.lst (vs ++ [w])))) : AV F [.ref i, w] (fun us => call (.builtin "list.append") us) σ P := by
  intro ρ s us Q hF I hv K
  refine two (P := fun us => wpAny _ _ (call (.builtin "list.append") us) Q never s) hv fun a b ha hb' => ?_
  cases ha with | ref ha =>
  obtain ⟨xs, n, l1, r1⟩ := I.list ha hi
  refine wpAny_list_append_plain ⟨n, l1⟩ (fun h' hp' hs => ?_) (line_big (by simp [r1.length]; exact hz))
  obtain ⟨n', l2⟩ := hp'
  have e : xs.toArray.push b = (xs ++ [b]).toArray := by simp
  rw [e] at l2
  exact KV.mut (tk := s.toks) hF K I ha hb hs (show ObjAt ρ h' _ (.lst (vs ++ [w])) from ⟨_, n', l2, r1.append (.one hb')⟩) h .none
theorem AV.extend {i j : Nat} {vs ws : List V} (hi : σ.hp[i]? = some (.lst vs)) (hj : σ.hp[j]? = some (.lst ws)) (hb : F.b ≤ i) (hz : vs.length + ws.length ≤ 4096) (h : P .none (σ.hp.set i (.lst (vs ++ ws)))) :
    AV F [.ref i, .ref j] (fun us => call (.builtin "list.extend") us) σ P := by
  intro ρ s us Q hF I hv K
  refine two (P := fun us => wpAny _ _ (call (.builtin "list.extend") us) Q never s) hv fun a b ha hb' => ?_
  cases ha with | ref ha => cases hb' with | ref hb' =>
  obtain ⟨xs, n, l1, r1⟩ := I.list ha hi
  obtain ⟨ys, m, l2, r2⟩ := I.list hb' hj
  have z1 := r1.length
  have z2 := r2.length
  have zz : xs.toArray.size + ys.toArray.size ≤ 4096 := by simp; omega
  refine call_meets PySem.F.slot_list_extend ⟨_, l1, rfl⟩ PySem.F.entry_list_extend (PySem.F.args_list_extend_2 _ _) (AutoSeq1.list_extend_list_list_0 _ xs.toArray n _ ys.toArray m ?_ ?_ ?_) ⟨l1, l2, ?_⟩
  · intro q
    have q' : Builtin.List.listTooLong (xs.toArray.size + ys.toArray.size) = true := (Bool.and_eq_true_iff.mp q).2
    have q'' : xs.toArray.size + ys.toArray.size > sizeLine := of_decide_eq_true q'
    exact absurd q'' (Nat.not_lt.mpr (line_big (by omega)))
  · exact line_big (by omega)
  · exact Nat.le_succ_of_le (line_big (by omega))
  · have e : xs.toArray ++ ys.toArray = (xs ++ ys).toArray := by simp
    exact KV.mut (tk := s.toks) hF K I ha hb (Heap.SameBut.update ..) (lst_upd (f := fun x => x ++ ys.toArray) l1 e (r1.append r2)) h .none
theorem AV.pop0 {i : Nat} {v : V} {vs : List V} (hi : σ.hp[i]? = some (.lst (v :: vs))) (hb : F.b ≤ i) (hz : vs.length < 4096) (h : P v (σ.hp.set i (.lst vs))) : AV F [.ref i, .int 0] (fun us => call (.builtin "list.pop") us) σ P := by
  intro ρ s us Q hF I hv K
  refine two (P := fun us => wpAny _ _ (call (.builtin "list.pop") us) Q never s) hv fun a b ha hb' => ?_
  cases ha with | ref ha => cases hb' with | int _ t =>
  obtain ⟨xs, n, l1, r1⟩ := I.list ha hi
  cases r1 with | cons hx r1 =>
  rename_i u us'
  have z1 := r1.length
  refine call_meets PySem.F.slot_list_pop ⟨_, l1, rfl⟩ PySem.F.entry_list_pop (PySem.F.args_list_pop_2 _ _) (PySem.MeetsSeq.list_pop_at _ (u :: us').toArray n 0 t 0 u (by decide) ?_ (by simp) ?_) ⟨l1, ?_⟩
  · unfold seqIndex?; simp
  · exact line_big (by simp; omega)
  · exact KV.mut (tk := s.toks) hF K I ha hb (Heap.SameBut.update ..) (lst_upd (f := fun xs => xs.eraseIdxIfInBounds 0) l1 (by simp [Array.eraseIdxIfInBounds]) r1) h hx
theorem AV.countS {i : Nat} {ss : List Str} {k : Str} (hi : σ.hp[i]? = some (.lst (ss.map V.str))) (h : P (.int (Spec.countIn (PyData.str k) (ss.map PyData.str))) σ.hp) : AV F [.ref i, .str k] (fun us => call (.builtin "list.count") us) σ P := by
  intro ρ s us Q hF I hv K
  refine two (P := fun us => wpAny _ _ (call (.builtin "list.count") us) Q never s) hv fun a b ha hb' => ?_
  cases ha with | ref ha => cases hb' with | str _ t =>
  obtain ⟨xs, n, l1, r1⟩ := I.list ha hi
  exact count_list_strs (isList_of l1) r1.strs (K.here I h (.int _ _))
theorem AV.indexI {i : Nat} {ns : List Int} {k : Int} (hi : σ.hp[i]? = some (.lst (ns.map V.int))) (hlay : PyData.layable0 (.list (ns.map .int)) = true) (hk : k ∈ ns) (h : P (.int (ns.idxOf k : Nat)) σ.hp) : AV F [.ref i, .int k] (fun us => call (.builtin "list.index") us) σ P := by
  intro ρ s us Q hF I hv K
  refine two (P := fun us => wpAny _ _ (call (.builtin "list.index") us) Q never s) hv fun a b ha hb' => ?_
  cases ha with | ref ha => cases hb' with | int _ t =>
  obtain ⟨xs, n, l1, r1⟩ := I.list ha hi
  exact index_list_ints (isList_of l1) r1.ints hlay hk (K.here I h (.int _ _))

/-! slices, texts -/
theorem AE.sliceAll {value : Expr} {p pos : Pos} (h : AE F value σ (fun v hp => ∃ i vs, v = .ref i ∧ hp[i]? = some (.lst vs) ∧ vs.length ≤ 4096 ∧ P (.ref hp.length) (hp ++ [.lst vs])))
    (hl : ∀ o r, letTemporaryGo value o r = pure () := by intro _ _; rfl) : AE F (.Subscript value (.Slice none none none p) pos) σ P := by
  intro ρ s Q hF I K
  refine wpAny_Subscript_list_slice (h ρ s _ hF I fun v hp ρ₁ u h₁ tk₁ hv hu I₁ E₁ => ?_) hl
  obtain ⟨i, vs, rfl, hi, hz, hP⟩ := hv
  cases hu with | ref ha =>
  obtain ⟨xs, n, l1, r1⟩ := I₁.list ha hi
  refine wpAny_evalPart_none (wpAny_evalPart_none ?_)
  refine ⟨_, xs.toArray, none, none, rfl, isList_of l1, line_big (by simp [r1.length]; exact hz), ?_, ?_, ?_⟩
  · constructor
  · constructor
  · rw [slicePick_all]
    refine K.after E₁ |>.made (σ := ⟨σ.loc, hp⟩) (o := .lst vs) (tk := tk₁) I₁ (fun b o e => Heap.get?_push_of_some _ (Heap.get?_push_of_some _ e)) (Heap.get?_none_of_le (Nat.le_succ _)) ⟨xs, 0, ?_, r1⟩ hP
    have z := Heap.get?_push_size (h₁.push { cls := Value.type "slice", data := Data.fields #[Value.none, Value.none, Value.none] }) (o := { cls := .type "list", data := .seq xs.toArray }) rfl
    rw [Heap.size_push] at z
    exact z
def charV (c : Nat) : V := .str ⟨#[c]⟩
theorem AV.sat {value slice : Expr} {x : Str} {c : Nat} (hx : x.cps[0]? = some c) (h : P (charV c) σ.hp) (hs : ∀ o i, subscripted slice false o i = operate [o, i] (getItem o i) := by intro _ _; with_unfolding_all rfl) :
    AV F [.str x, .int 0] (item value slice) σ P := by
  intro ρ s us Q hF I hv K
  refine two (P := fun us => wpAny _ _ (Mine.item value slice us) Q never s) hv fun a b ha hb => ?_
  cases ha with | str _ t => cases hb with | int _ u =>
  have hpos : 0 < x.length := (Array.getElem?_eq_some_iff.mp hx).1
  refine tail_any (typeIs_str s x t) PySem.F.slot_str_getitem.lookup (PySem.P.getItem_str (c := c) (by decide) ?_ (K.here I h (.str _ _))) (hs _ _)
  unfold seqIndex?
  simp [hpos]; exact hx
theorem chars_vrs {ρ : List Addr} (x : Str) : ∀ (l : List Nat) (k : Nat) (us : List Value), x.cps.toList.drop k = l → us.length = l.length → (∀ j v, us[j]? = some v → SignAt x (k + j) v) → VRs ρ (l.map charV) us := by
  intro l
  induction l with
  | nil => intro k us _ hl _; have : us = [] := List.length_eq_zero_iff.mp hl; subst this; exact .nil
  | cons c l ih =>
    intro k us hd hl hs
    cases us with
    | nil => simp at hl
    | cons u us =>
      have hc : x.cps[k]? = some c := by
        have : x.cps.toList[k]? = some c := by
          have z := congrArg (fun l => l[0]?) hd
          simpa using z
        simpa using this
      obtain ⟨c', t, e1, e2⟩ := hs 0 u rfl
      rw [Nat.add_zero, hc] at e1; cases e1; subst e2
      refine .cons (.str _ _) (ih (k + 1) us ?_ (by simpa using hl) fun j v e => ?_)
      · rw [← List.drop_drop, hd]; rfl
      · have := hs (j + 1) v (by simpa using e)
        rw [show k + 1 + j = k + (j + 1) by omega]; exact this
theorem AV.listS {x : Str} (hz : x.cps.size ≤ 4096) (h : P (.ref σ.hp.length) (σ.hp ++ [.lst (x.cps.toList.map charV)])) : AV F [.str x] (fun us => call (.type "list") us) σ P := by
  intro ρ s us Q hF I hv K
  refine one (P := fun us => wpAny _ _ (call (.type "list") us) Q never s) hv fun a ha => ?_
  cases ha with | str _ t =>
  refine call_list_str hF.hh x t (fun h' tk acc' c' hk hn hi => ?_) (line_big hz)
  refine KV.made (tk := tk) K I hk (Heap.get?_none_of_le (Nat.le_refl _)) (show ObjAt ρ h' _ (.lst _) from ⟨acc'.toList, c', hn, ?_⟩) h
  exact chars_vrs x _ 0 _ rfl (by simp [hi.1]) fun j v e => by rw [Nat.zero_add]; exact hi.2 j v (by simpa using e)
/-- a text's join -/
theorem AE.join {o e : Expr} {apos pos : Pos} 
    (h : AE F o σ (fun v hp => ∃ x, v = .str x ∧ AEs F [e] ⟨σ.loc, hp⟩ (fun ws hp' => AV F (.str x :: ws) (fun us => call (.builtin "str.join") us) ⟨σ.loc, hp'⟩ P)))
    (hbase : attributeBase o (Str.ofString "join") F.env (eval o F.env) = eval o F.env := by rfl)
    (hfew : ((List.all (backTo pos (starEach [e] F.env)) fun x => !x.1) && (List.all (backToKw pos (keywordEach [] F.env)) fun x => Option.isSome x.1) && decide (([e].length + ([] : List Keyword).length + if ([] : List Keyword).isEmpty = true then 0 else 1) < 30)) = true := by rfl)
    (hline : (apos.endLine == pos.line) = true := by rfl)
    (hs : starEach [e] F.env = (false, eval e F.env) :: starEach [] F.env := by rfl) (hp : (backTo pos (starEach [e] F.env)).any (·.1) = false := by rfl) :
    AE F (.Call (.Attribute o (Str.ofString "join") apos) [e] [] pos) σ P := by
  intro ρ s Q hF I K
  refine wpAny_Call_method (T := "str") (id := "str.join") hbase hfew hline PySem.F.plainAttrs_str PySem.F.slot_str_join PySem.F.type_str_join (h ρ s _ hF I fun v hp₁ ρ₁ u h₁ tk₁ hv hu I₁ E₁ => ?_)
  obtain ⟨x, rfl, hv⟩ := hv
  cases hu with | str _ t =>
  refine ⟨typeIs_str _ _ _, (fun a q => by cases q), ?_⟩
  refine Calls.callWith_builtin hp (hv.args hF I₁ ⟨e, [], rfl, hs⟩ fun ws hp' ρ₂ us h₂ tk₂ hw hus I₂ E₂ => ?_)
  exact hw ρ₂ { s with heap := h₂, toks := tk₂ } (_ :: us) Q hF I₂ (.cons (.str _ _) hus) (K.after (E₁.trans E₂))
theorem AV.joinS {x : Str} {i : Nat} {ss : List Str} (hi : σ.hp[i]? = some (.lst (ss.map V.str))) (hok : (ss.map (·.length)).sum + ss.length * x.length ≤ 16777216) (h : P (.str (Txt.join x ss)) σ.hp) :
    AV F [.str x, .ref i] (fun us => call (.builtin "str.join") us) σ P := by
  intro ρ s us Q hF I hv K
  refine two (P := fun us => wpAny _ _ (call (.builtin "str.join") us) Q never s) hv fun a b ha hb' => ?_
  cases ha with | str _ t => cases hb' with | ref ha =>
  obtain ⟨xs, n, l1, r1⟩ := I.list ha hi
  exact join_list (isList_of l1) (by simpa using r1.strs) hok fun t' k => K.here I h (.str _ _)
end

/-! ## part 7 -/

section
variable {F : Fm} {σ : St} {P : V → List O → Prop}
theorem AV.eqLI {i j : Nat} {ns ms : List Int} (hi : σ.hp[i]? = some (.lst (ns.map V.int))) (hj : σ.hp[j]? = some (.lst (ms.map V.int))) (h : P (.bool (decide (ns = ms))) σ.hp) : AV F [.ref i, .ref j] (cop .Eq) σ P := by
  intro ρ s us Q hF I hv K
  refine two (P := fun us => wpAny _ _ (cop .Eq us) Q never s) hv fun a b ha hb => ?_
  cases ha with | ref ha => cases hb with | ref hb =>
  obtain ⟨xs, n, l1, r1⟩ := I.list ha hi
  obtain ⟨ys, m, l2, r2⟩ := I.list hb hj
  exact ke_eq_ints (isList_of l1) (isList_of l2) r1.ints r2.ints (by have := hF.units; omega) (K.here0 I h (.bool _))
theorem AV.neLI {i j : Nat} {ns ms : List Int} (hi : σ.hp[i]? = some (.lst (ns.map V.int))) (hj : σ.hp[j]? = some (.lst (ms.map V.int))) (h : P (.bool (!decide (ns = ms))) σ.hp) : AV F [.ref i, .ref j] (cop .NotEq) σ P := by
  intro ρ s us Q hF I hv K
  refine two (P := fun us => wpAny _ _ (cop .NotEq us) Q never s) hv fun a b ha hb => ?_
  cases ha with | ref ha => cases hb with | ref hb =>
  obtain ⟨xs, n, l1, r1⟩ := I.list ha hi
  obtain ⟨ys, m, l2, r2⟩ := I.list hb hj
  exact ke_ne_ints (isList_of l1) (isList_of l2) r1.ints r2.ints (by have := hF.units; omega) (K.here0 I h (.bool _))
theorem AV.eqLS {i j : Nat} {ss : List Str} (hi : σ.hp[i]? = some (.lst (ss.map V.str))) (hj : σ.hp[j]? = some (.lst (ss.map V.str))) (h : P (.bool true) σ.hp) : AV F [.ref i, .ref j] (cop .Eq) σ P := by
  intro ρ s us Q hF I hv K
  refine two (P := fun us => wpAny _ _ (cop .Eq us) Q never s) hv fun a b ha hb => ?_
  cases ha with | ref ha => cases hb with | ref hb =>
  obtain ⟨xs, n, l1, r1⟩ := I.list ha hi
  obtain ⟨ys, m, l2, r2⟩ := I.list hb hj
  have z1 := r1.length
  have z2 := r2.length
  refine SeqAt.eq_listAt (e := fun _ => true) (isList_of l1) (isList_of l2) (by simp; omega) (by have := hF.units; omega) (fun j h1 h2 => ?_) ?_
  · have e1 : xs[j]? = some xs[j] := List.getElem?_eq_getElem (by simpa using h1)
    have e2 : ys[j]? = some ys[j] := List.getElem?_eq_getElem (by simpa using h2)
    obtain ⟨v1, f1, g1⟩ := r1.get' e1
    obtain ⟨v2, f2, g2⟩ := r2.get' e2
    rw [f1] at f2; cases f2
    rw [List.getElem?_map] at f1
    cases q : ss[j]? with
    | none => rw [q] at f1; cases f1
    | some x =>
      rw [q] at f1; cases f1
      show SeqAt.EqAt _ _ xs[j] ys[j] true
      generalize xs[j] = a at g1
      generalize ys[j] = b at g2
      cases g1; cases g2
      rename_i t1 t2
      have k := (MeetsSeq.EqGives.at (eqGives_str x x t1 t2) F.A.in1 s)
      rw [beq_self_eq_true] at k; exact k
  · have e : (List.range xs.toArray.size).all (fun _ => true) = true := by simp
    rw [e]; exact K.here0 I h (.bool _)
end

/-! statements -/
inductive Fl where
  | next
  | brk
  | cont
  | ret (v : V)
inductive FR (ρ : List Addr) : Fl → Flow → Prop
  | next : FR ρ .next .next
  | brk : FR ρ .brk .brk
  | cont : FR ρ .cont .cont
  | ret {v : V} {u : Value} (h : VR ρ v u) : FR ρ (.ret v) (.ret u)

def KS (F : Fm) (ρ : List Addr) (s : Shared) (Q : Flow → Shared → Prop) (P : Fl → St → Prop) : Prop :=
  ∀ f σ' ρ' fl h' tk, P f σ' → FR ρ' f fl → Inv F.g F.env ρ' F.b σ' h' → ExtS F.env ρ ρ' F.b s.heap h' → Q fl { s with heap := h', toks := tk }
def AS (F : Fm) (st : Stmt) (σ : St) (P : Fl → St → Prop) : Prop :=
  ∀ (ρ : List Addr) (s : Shared) (Q : Flow → Shared → Prop), F.OK → Inv F.g F.env ρ F.b σ s.heap → KS F ρ s Q P → wpAny (model F.prog F.w) F.A (exec st F.env) Q never s
def AX (F : Fm) (sts : List Stmt) (σ : St) (P : Fl → St → Prop) : Prop :=
  ∀ (ρ : List Addr) (s : Shared) (Q : Flow → Shared → Prop), F.OK → Inv F.g F.env ρ F.b σ s.heap → KS F ρ s Q P → wpAny (model F.prog F.w) F.A (execs sts F.env) Q never s
/-- a target is given a value -/
def KU (F : Fm) (ρ : List Addr) (s : Shared) (Q : Unit → Shared → Prop) (P : St → Prop) : Prop :=
  ∀ σ' ρ' h' tk, P σ' → Inv F.g F.env ρ' F.b σ' h' → ExtS F.env ρ ρ' F.b s.heap h' → Q () { s with heap := h', toks := tk }
def AG (F : Fm) (t : Expr) (v : V) (σ : St) (P : St → Prop) : Prop :=
  ∀ (ρ : List Addr) (s : Shared) (u : Value) (Q : Unit → Shared → Prop), F.OK → Inv F.g F.env ρ F.b σ s.heap → VR ρ v u → KU F ρ s Q P → wpAny (model F.prog F.w) F.A (assign t F.env u) Q never s
/-- a name is bound -/
def AN (F : Fm) (x : Str) (v : V) (σ : St) (P : St → Prop) : Prop :=
  ∀ (ρ : List Addr) (s : Shared) (u : Value) (Q : Unit → Shared → Prop), F.OK → Inv F.g F.env ρ F.b σ s.heap → VR ρ v u → KU F ρ s Q P → wpAny (model F.prog F.w) F.A (storeName F.env x u) Q never s

section
variable {F : Fm} {σ : St} {P : Fl → St → Prop}
theorem KS.after {ρ ρ' : List Addr} {s : Shared} {Q : Flow → Shared → Prop} {h' : Heap} {tk : Nat} (K : KS F ρ s Q P) (E : ExtS F.env ρ ρ' F.b s.heap h') : KS F ρ' { s with heap := h', toks := tk } Q P :=
  fun f σ' ρ'' fl h'' tk' a b c d => K f σ' ρ'' fl h'' tk' a b c (E.trans d)
theorem KU.after {P : St → Prop} {ρ ρ' : List Addr} {s : Shared} {Q : Unit → Shared → Prop} {h' : Heap} {tk : Nat} (K : KU F ρ s Q P) (E : ExtS F.env ρ ρ' F.b s.heap h') : KU F ρ' { s with heap := h', toks := tk } Q P :=
  fun σ' ρ'' h'' tk' a b c => K σ' ρ'' h'' tk' a b (E.trans c)
theorem AX.nil (h : P .next σ) : AX F [] σ P := by
  intro ρ s Q hF I K
  exact wpAny_execs_nil (K .next σ ρ .next s.heap s.toks h .next I (ExtS.refl ..))
def thenX (F : Fm) (rest : List Stmt) (P : Fl → St → Prop) : Fl → St → Prop
  | .next, σ => AX F rest σ P
  | .brk, σ => P .brk σ
  | .cont, σ => P .cont σ
  | .ret v, σ => P (.ret v) σ
theorem AX.cons {st : Stmt} {rest : List Stmt} (h : AS F st σ (thenX F rest P)) : AX F (st :: rest) σ P := by
  intro ρ s Q hF I K
  refine wpAny_execs_cons (h ρ s _ hF I fun f σ' ρ' fl h' tk hp hf I' E => ?_)
  cases hf with
  | next => exact hp ρ' { s with heap := h', toks := tk } Q hF I' (K.after E)
  | brk => exact K .brk σ' ρ' .brk h' tk hp .brk I' E
  | cont => exact K .cont σ' ρ' .cont h' tk hp .cont I' E
  | ret hv => exact K _ σ' ρ' _ h' tk hp (.ret hv) I' E
theorem AX.mono {sts : List Stmt} {P' : Fl → St → Prop} (h : AX F sts σ P) (k : ∀ f σ', P f σ' → P' f σ') : AX F sts σ P' :=
  fun ρ s Q hF I K => h ρ s Q hF I fun f σ' ρ' fl h' tk hp => K f σ' ρ' fl h' tk (k f σ' hp)

theorem AN.loc {x : Str} {v : V} {P : St → Prop} (h : P ⟨upd σ.loc x v, σ.hp⟩) (hx : F.env.kindOf x = some .local) (hc : F.env.cells.lookup x = none) : AN F x v σ P := by
  intro ρ s u Q hF I hv K
  obtain ⟨m, hn, hm⟩ := I.ns
  refine wpAny_storeName_local hx hn (fun h' hn' hs => ?_) (by rw [hF.env.kind]; rfl)
  obtain ⟨o, _, _, ho, _⟩ := id hn'
  exact K _ ρ h' (s.toks + 1) h (I.setLocal hF.env hx hc hv hm hn hn' hs) (ExtS.local ho hs)
theorem AN.cell {x : Str} {v : V} {P : St → Prop} (h : P ⟨upd σ.loc x v, σ.hp⟩) (hx : F.env.kindOf x = some .cell) (hc : (F.env.cells.lookup x).isSome = true) : AN F x v σ P := by
  intro ρ s u Q hF I hv K
  obtain ⟨c, hc⟩ := Option.isSome_iff_exists.mp hc
  obtain ⟨cv, hcv, _⟩ := I.cells x c hc
  refine wpAny_storeName_cell hF.env.kind hx hc hcv fun h' hc' hs => ?_
  obtain ⟨o, ho, _⟩ := id hc'
  exact K _ ρ h' s.toks h (I.setCell hF.env hx hc hv hc' hs) (ExtS.cell ho hc hs)
theorem AG.name {x : Str} {pos : Pos} {v : V} {P : St → Prop} (h : AN F x v σ P) : AG F (.Name x pos) v σ P :=
  fun ρ s u Q hF I hv K => wpAny_assign_Name (h ρ s u Q hF I hv K)

theorem AS.assign {x : Str} {np pos : Pos} {e : Expr} (h : AE F e σ (fun v hp => AN F x v ⟨σ.loc, hp⟩ (P .next))) (hs : swapsWith e (some (.Name x np)) pos.line F.env = pure false := by rfl) : AS F (.Assign [.Name x np] e pos) σ P := by
  intro ρ s Q hF I K
  refine wpAny_Assign_Name (h ρ s _ hF I fun v hp ρ₁ u h₁ tk₁ hv hu I₁ E₁ => ?_) hs
  exact hv ρ₁ { s with heap := h₁, toks := tk₁ } u _ hF I₁ hu fun σ' ρ₂ h₂ tk₂ hp₂ I₂ E₂ => K .next σ' ρ₂ .next h₂ tk₂ hp₂ .next I₂ (E₁.toS.trans E₂)
def iop (op : Operator) : List Value → Sem Value
  | [a, b] => inplaceOp op a b
  | _ => unsupported ""
theorem AS.aug {x : Str} {np pos : Pos} {op : Operator} {e : Expr} {v₀ : V} (h0 : σ.loc x = some v₀) (h : AE F e σ (fun v hp => AV F [v₀, v] (iop op) ⟨σ.loc, hp⟩ (fun w hp' => AN F x w ⟨σ.loc, hp'⟩ (P .next)))) (hk : F.env.kindOf x = some .local := by rfl) : AS F (.AugAssign (.Name x np) op e pos) σ P := by
  intro ρ s Q hF I K
  obtain ⟨m, hn, hm⟩ := I.ns
  obtain ⟨u₀, e1, e2⟩ := hm x v₀ h0 hk
  refine wpAny_AugAssign_Name (wpAny_loadName_local hF.env.kind hk hn e1 ?_)
  refine h ρ s _ hF I fun v hp ρ₁ u h₁ tk₁ hv hu I₁ E₁ => ?_
  refine hv ρ₁ { s with heap := h₁, toks := tk₁ } [u₀, u] _ hF I₁ (.cons (E₁.vr e2) (.cons hu .nil)) fun w hp' ρ₂ u' h₂ tk₂ hw hu' I₂ E₂ => ?_
  exact hw ρ₂ { s with heap := h₂, toks := tk₂ } u' _ hF I₂ hu' fun σ' ρ₃ h₃ tk₃ hp₃ I₃ E₃ => K .next σ' ρ₃ .next h₃ tk₃ hp₃ .next I₃ ((E₁.trans E₂).toS.trans E₃)
theorem AS.ret {e : Expr} {pos : Pos} (h : AE F e σ (fun v hp => P (.ret v) ⟨σ.loc, hp⟩)) : AS F (.Return (some e) pos) σ P := by
  intro ρ s Q hF I K
  exact wpAny_Return_some (h ρ s _ hF I fun v hp ρ₁ u h₁ tk₁ hv hu I₁ E₁ => K (.ret v) _ ρ₁ (.ret u) h₁ tk₁ hv (.ret hu) I₁ E₁.toS)
theorem AS.expr {e : Expr} {pos : Pos} (h : AE F e σ (fun _ hp => P .next ⟨σ.loc, hp⟩)) (hi : interactive F.env = false := by rfl) (hs : swapsWith e none pos.line F.env = pure false := by rfl) : AS F (.Expr e pos) σ P := by
  intro ρ s Q hF I K
  exact wpAny_Expr_any (h ρ s _ hF I fun v hp ρ₁ u h₁ tk₁ hv hu I₁ E₁ => K .next _ ρ₁ .next h₁ tk₁ hv .next I₁ E₁.toS) hi hs
theorem AS.ite {t : Expr} {b o : List Stmt} {pos : Pos} (h : AT F t σ (fun c hp => if c then AX F b ⟨σ.loc, hp⟩ P else AX F o ⟨σ.loc, hp⟩ P)) : AS F (.If t b o pos) σ P := by
  intro ρ s Q hF I K
  refine wpAny_If (h ρ s _ hF I fun v hp ρ₁ h₁ tk₁ hv I₁ E₁ => ?_)
  cases v with
  | true => exact hv ρ₁ { s with heap := h₁, toks := tk₁ } Q hF I₁ (K.after E₁.toS)
  | false => exact hv ρ₁ { s with heap := h₁, toks := tk₁ } Q hF I₁ (K.after E₁.toS)
theorem AS.brk {pos : Pos} (h : P .brk σ) : AS F (.Break pos) σ P := by
  intro ρ s Q hF I K
  exact wpAny_Break (K .brk σ ρ .brk s.heap s.toks h .brk I (ExtS.refl ..))

/-! items stored -/
def store : List Value → Sem Unit
  | [a, i, v] => setItem a i v
  | _ => unsupported ""
def AW (F : Fm) (vs : List V) (σ : St) (P : List O → Prop) : Prop :=
  ∀ (ρ : List Addr) (s : Shared) (us : List Value) (Q : Unit → Shared → Prop), F.OK → Inv F.g F.env ρ F.b σ s.heap → VRs ρ vs us → (∀ hp h' tk, P hp → Inv F.g F.env ρ F.b ⟨σ.loc, hp⟩ h' → Ext ρ ρ F.b s.heap h' → Q () { s with heap := h', toks := tk }) →
    wpAny (model F.prog F.w) F.A (store us) Q never s
theorem three {P : List Value → Prop} {ρ : List Addr} {v w x : V} {us : List Value} (h : VRs ρ [v, w, x] us) (k : ∀ a b c, VR ρ v a → VR ρ w b → VR ρ x c → P [a, b, c]) : P us := by
  cases h with | cons h1 r => cases r with | cons h2 r => cases r with | cons h3 r => cases r; exact k _ _ _ h1 h2 h3
theorem AW.at {P : List O → Prop} {i : Nat} {vs : List V} {k : Int} {v : V} (hi : σ.hp[i]? = some (.lst vs)) (hb : F.b ≤ i) (h0 : 0 ≤ k) (hk : k < vs.length) (hz : vs.length ≤ 4096) (h : P (σ.hp.set i (.lst (vs.set k.toNat v)))) : AW F [.ref i, .int k, v] σ P := by
  intro ρ s us Q hF I hv K
  refine three (P := fun us => wpAny _ _ (store us) Q never s) hv fun a b c ha hb' hc => ?_
  cases ha with | ref ha => cases hb' with | int _ t =>
  obtain ⟨xs, n, l1, r1⟩ := I.list ha hi
  have z1 := r1.length
  refine ki_setAt (n := n) l1 h0 (by omega) (by simp; omega) ?_
  have ho := lst_upd (ρ := ρ) (f := fun ys => ys.setIfInBounds k.toNat c) (ws := xs.set k.toNat c) l1 (by simp) (r1.set hc k.toNat)
  obtain ⟨ob, _, _, hob, _⟩ := ho.seq
  exact K _ _ s.toks h (I.mut hF.env ha hb (Heap.SameBut.update ..) ho) (Ext.mut hob ha hb (Heap.SameBut.update ..))
theorem AW.last {P : List O → Prop} {i : Nat} {vs : List V} {v : V} (hi : σ.hp[i]? = some (.lst vs)) (hb : F.b ≤ i) (hn : 0 < vs.length) (hz : vs.length ≤ 4096) (h : P (σ.hp.set i (.lst (vs.set (vs.length - 1) v)))) : AW F [.ref i, .int (-1), v] σ P := by
  intro ρ s us Q hF I hv K
  refine three (P := fun us => wpAny _ _ (store us) Q never s) hv fun a b c ha hb' hc => ?_
  cases ha with | ref ha => cases hb' with | int _ t =>
  obtain ⟨xs, n, l1, r1⟩ := I.list ha hi
  have z1 := r1.length
  have e1 : ((-1 : Int) + (xs.toArray.size : Int)).toNat = vs.length - 1 := by simp; omega
  refine ki_setBack (n := n) l1 (by decide) (by simp; omega) (by decide) ?_
  rw [e1]
  have ho := lst_upd (ρ := ρ) (f := fun ys => ys.setIfInBounds (vs.length - 1) c) (ws := xs.set (vs.length - 1) c) l1 (by simp) (r1.set hc _)
  obtain ⟨ob, _, _, hob, _⟩ := ho.seq
  exact K _ _ s.toks h (I.mut hF.env ha hb (Heap.SameBut.update ..) ho) (Ext.mut hob ha hb (Heap.SameBut.update ..))

theorem AS.setItem {o i e : Expr} {tp pos : Pos} (h : AE F e σ (fun v hp => AE F o ⟨σ.loc, hp⟩ (fun a hp => AE F i ⟨σ.loc, hp⟩ (fun k hp => AW F [a, k, v] ⟨σ.loc, hp⟩ (fun hp => P .next ⟨σ.loc, hp⟩)))))
    (hs : swapsWith e (some (.Subscript o i tp)) pos.line F.env = pure false := by rfl) : AS F (.Assign [.Subscript o i tp] e pos) σ P := by
  intro ρ s Q hF I K
  refine wpAny_Assign_Subscript (h ρ s _ hF I fun v hp ρ₁ u h₁ tk₁ hv hu I₁ E₁ => ?_) hs
  refine hv ρ₁ { s with heap := h₁, toks := tk₁ } _ hF I₁ fun a hp₂ ρ₂ ua h₂ tk₂ ha hua I₂ E₂ => ?_
  refine ha ρ₂ { s with heap := h₂, toks := tk₂ } _ hF I₂ fun k hp₃ ρ₃ uk h₃ tk₃ hk huk I₃ E₃ => ?_
  exact hk ρ₃ { s with heap := h₃, toks := tk₃ } [ua, uk, u] _ hF I₃ (.cons (E₃.vr hua) (.cons huk (.cons ((E₂.trans E₃).vr hu) .nil))) fun hp₄ h₄ tk₄ hp I₄ E₄ => K .next _ ρ₃ .next h₄ tk₄ hp .next I₄ (((E₁.trans E₂).trans E₃).trans E₄).toS
theorem AG.sub {o i : Expr} {tp : Pos} {v : V} {P : St → Prop} (h : AE F o σ (fun a hp => AE F i ⟨σ.loc, hp⟩ (fun k hp => AW F [a, k, v] ⟨σ.loc, hp⟩ (fun hp => P ⟨σ.loc, hp⟩)))) : AG F (.Subscript o i tp) v σ P := by
  intro ρ s u Q hF I hu K
  refine kas_sub (h ρ s _ hF I fun a hp₂ ρ₂ ua h₂ tk₂ ha hua I₂ E₂ => ?_)
  refine ha ρ₂ { s with heap := h₂, toks := tk₂ } _ hF I₂ fun k hp₃ ρ₃ uk h₃ tk₃ hk huk I₃ E₃ => ?_
  exact hk ρ₃ { s with heap := h₃, toks := tk₃ } [ua, uk, u] _ hF I₃ (.cons (E₃.vr hua) (.cons huk (.cons ((E₂.trans E₃).vr hu) .nil))) fun hp₄ h₄ tk₄ hp I₄ E₄ => K _ ρ₃ h₄ tk₄ hp I₄ (((E₂.trans E₃)).trans E₄).toS
end

/-! ## part 8 -/

/-- an address that is none of ours -/
structure Off (g : Heap) (env : Env) (ρ : List Addr) (a : Addr) : Prop where
  g : g.get? a = none
  loc : a ≠ env.locals
  cell : ∀ x, env.cells.lookup x ≠ some a
  ρ : ∀ i : Nat, ρ[i]? ≠ some a
theorem Off.of_none {g : Heap} {env : Env} {ρ : List Addr} {b : Nat} {σ : St} {h : Heap} {a : Addr} (I : Inv g env ρ b σ h) (e : h.get? a = none) : Off g env ρ a := by
  refine ⟨?_, fun q => ?_, fun x q => ?_, fun i q => ?_⟩
  · cases z : g.get? a with
    | none => rfl
    | some o => have := I.keep a o z; rw [e] at this; cases this
  · obtain ⟨m, ⟨o, _, _, ho, _⟩, _⟩ := I.ns
    rw [q, ho] at e; cases e
  · obtain ⟨cv, ⟨o, ho, _⟩, _⟩ := I.cells x a q
    rw [ho] at e; cases e
  · obtain ⟨o, ho⟩ := I.there q
    rw [ho] at e; cases e
theorem Off.grow {g : Heap} {env : Env} {ρ t : List Addr} {h : Heap} {a : Addr} {o : Obj} (x : Off g env ρ a) (ha : h.get? a = some o) (ht : ∀ c ∈ t, h.get? c = none) : Off g env (ρ ++ t) a := by
  refine ⟨x.g, x.loc, x.cell, fun i q => ?_⟩
  by_cases hl : i < ρ.length
  · rw [List.getElem?_append_left hl] at q; exact x.ρ i q
  · rw [List.getElem?_append_right (Nat.le_of_not_lt hl)] at q
    have := ht a (List.mem_of_getElem? q)
    rw [ha] at this; cases this
theorem Inv.but {g : Heap} {env : Env} {ρ : List Addr} {b : Nat} {σ : St} {h h' : Heap} {wr : List Addr} (I : Inv g env ρ b σ h) (ho : ∀ a ∈ wr, Off g env ρ a) (hk : ∀ c o, c ∉ wr → h.get? c = some o → h'.get? c = some o) : Inv g env ρ b σ h' := by
  obtain ⟨m, hn, hm⟩ := I.ns
  refine ⟨fun a o e => hk a o (fun q => ?_) (I.keep a o e), ⟨m, ns_at hn fun o e => hk _ o (fun q => (ho _ q).loc rfl) e, hm⟩, fun x c e => ?_, fun i o e => ?_, I.len, I.nodup, I.own⟩
  · have := (ho a q).g; rw [e] at this; cases this
  · obtain ⟨cv, ⟨oc, hoc, hdc⟩, r⟩ := I.cells x c e
    exact ⟨cv, ⟨oc, hk c oc (fun q => (ho c q).cell x e) hoc, hdc⟩, r⟩
  · obtain ⟨a, ha, hoa⟩ := I.objs i o e
    exact ⟨a, ha, hoa.at fun ob e' => hk a ob (fun q => (ho a q).ρ i ha) e'⟩
theorem ExtS.but {env : Env} {ρ ρ' : List Addr} {b : Nat} {h₀ h h' : Heap} {wr : List Addr} (x : ExtS env ρ ρ' b h₀ h) (hw : ∀ a ∈ wr, h₀.get? a = none) (hk : ∀ c o, c ∉ wr → h.get? c = some o → h'.get? c = some o) : ExtS env ρ ρ' b h₀ h' := by
  have nw : ∀ a o, h₀.get? a = some o → a ∉ wr := fun a o e q => by rw [hw a q] at e; cases e
  refine ⟨x.pre, fun a o e => ?_, fun a o e k1 k2 k3 => hk a o (nw a o e) (x.kp a o e k1 k2 k3)⟩
  obtain ⟨o', e'⟩ := x.live a o e
  exact ⟨o', hk a o' (nw a o e) e'⟩
/-- an address that a statement keeps: none of ours, or one of ours that is frozen -/
def Still (env : Env) (ρ : List Addr) (b : Nat) (a : Addr) : Prop := a ≠ env.locals ∧ (∀ x, env.cells.lookup x ≠ some a) ∧ ∀ i : Nat, b ≤ i → ρ[i]? ≠ some a
theorem Still.grow {env : Env} {ρ t : List Addr} {b : Nat} {h : Heap} {a : Addr} {o : Obj} (x : Still env ρ b a) (ha : h.get? a = some o) (ht : ∀ c ∈ t, h.get? c = none) : Still env (ρ ++ t) b a := by
  refine ⟨x.1, x.2.1, fun i hi q => ?_⟩
  by_cases hl : i < ρ.length
  · rw [List.getElem?_append_left hl] at q; exact x.2.2 i hi q
  · rw [List.getElem?_append_right (Nat.le_of_not_lt hl)] at q
    have := ht a (List.mem_of_getElem? q)
    rw [ha] at this; cases this
theorem Off.still {g : Heap} {env : Env} {ρ : List Addr} {a : Addr} (x : Off g env ρ a) (b : Nat) : Still env ρ b a := ⟨x.loc, x.cell, fun i _ => x.ρ i⟩
theorem Inv.still {g : Heap} {env : Env} {ρ : List Addr} {b : Nat} {σ : St} {h : Heap} (I : Inv g env ρ b σ h) {j : Nat} {a : Addr} (e : ρ[j]? = some a) (hj : j < b) : Still env ρ b a := by
  have hl : j < σ.hp.length := I.len ▸ (List.getElem?_eq_some_iff.mp e).1
  obtain ⟨ob, its, n, hob, hd⟩ := (I.at e (List.getElem?_eq_getElem hl)).seq
  obtain ⟨m, hn, _⟩ := I.ns
  refine ⟨fun q => ns_not_seq hn ob its n (q ▸ hob) hd, fun x q => ?_, fun i hi q => ?_⟩
  · obtain ⟨cv, hc, _⟩ := I.cells x a q
    exact cell_not_seq hc ob its n hob hd
  · have := I.nodup i j a q e; omega

section
variable {F : Fm}

/-- how a turn takes its value -/
def TG (F : Fm) (t : Expr) (Pv : List Addr → Value → Heap → Prop) (σ : St) (P : St → Prop) : Prop :=
  ∀ (ρ : List Addr) (s : Shared) (u : Value) (Q : Unit → Shared → Prop), F.OK → Inv F.g F.env ρ F.b σ s.heap → Pv ρ u s.heap → KU F ρ s Q P → wpAny (model F.prog F.w) F.A (assign t F.env u) Q never s

def turnX (P : Fl → St → Prop) (J : St → Prop) : Fl → St → Prop
  | .next, σ => J σ
  | .cont, σ => J σ
  | .brk, σ => P .next σ
  | .ret v, σ => P (.ret v) σ

theorem for_core {target : Expr} {body : List Stmt} {I : Addr} {fp wr : List Addr} {n : Nat} {Pt Md : Nat → Value → Heap → Prop} {St' : Nat → Heap → Prop} {σ : St} {ρ : List Addr} {s₁ s₂ : Shared} {h₂ : Heap} {tk₂ : Nat} {P : Fl → St → Prop} {Q : Flow → Shared → Prop}
    (W : KTurns F.prog F.w F.A target I fp wr n Pt Md St') (Pv : Nat → List Addr → Value → Heap → Prop) (J : Nat → St → Prop)
    (hF : F.OK) (e₂ : s₂ = { s₁ with heap := h₂, toks := tk₂ }) (I₂ : Inv F.g F.env ρ F.b σ h₂) (E₂ : ExtS F.env ρ ρ F.b s₁.heap h₂)
    (hPv : ∀ i u (ρ' : List Addr) h', (∃ t, ρ' = ρ ++ t) → i < n → Pt i u h' → St' (i + 1) h' → Pv i ρ' u h')
    (hIo : ∀ i h', St' i h' → ∀ a ∈ fp, ∃ o, h'.get? a = some o) (hw : ∀ a ∈ wr, s₁.heap.get? a = none ∧ Off F.g F.env ρ a) (hfp : ∀ a ∈ fp, Still F.env ρ F.b a) (hst : St' 0 h₂)
    (h0 : J 0 σ) (turn : ∀ i σ', i < n → J i σ' → TG F target (Pv i) σ' (fun σ'' => AX F body σ'' (turnX P (J (i + 1))))) (done : ∀ σ', J n σ' → P .next σ') (K : KS F ρ s₁ Q P) :
    codeAny (model F.prog F.w) F.A (.forLoop target (.ref I) body [] F.env) (fun r s' => match r with | .ok f => Q f s' | .error e => cameBackBy (model F.prog F.w) F.A F.env never e s') s₂ := by
  subst e₂
  have hE : PassesOwn (model F.prog F.w) F.A F.env never := PassesOwn.never
  refine codeAny_forLoop_any (fun k s' => ∃ i ρ' σ' h' tk, s' = { s₁ with heap := h', toks := tk } ∧ Inv F.g F.env ρ' F.b σ' h' ∧ ExtS F.env ρ ρ' F.b s₁.heap h' ∧ (∀ a ∈ wr, Off F.g F.env ρ' a) ∧ (∀ a ∈ fp, Still F.env ρ' F.b a) ∧ St' i h' ∧ J i σ' ∧ i ≤ n ∧ k = n + 1 - i) ?_ (n + 1)
    ⟨0, ρ, σ, h₂, tk₂, rfl, I₂, E₂, fun a ha => (hw a ha).2, hfp, hst, h0, Nat.zero_le _, rfl⟩
  rintro k s' ⟨i, ρ', σ', h', tk, rfl, I', E', ow, os, st, hJ, hi, rfl⟩
  obtain ⟨t, rfl, ht⟩ := E'.pre
  by_cases hlt : i < n
  · refine W.item i _ _ _ hlt st fun v h₃ tk₃ hMd hk₃ => ?_
    refine wpAny_passesOwn hE (W.go i v _ _ _ hMd fun h₄ hP st₄ hk₄ => ?_)
    have hk : ∀ c o, c ∉ wr → h'.get? c = some o → h₄.get? c = some o := fun c o hc e => hk₄ c o hc (hk₃ c o hc e)
    have I₄ := I'.but ow hk
    have E₄ := E'.but (fun a ha => (hw a ha).1) hk
    refine wpAny_passesOwn hE (turn i σ' hlt hJ (ρ ++ t) { s₁ with heap := h₄, toks := tk₃ } v _ hF I₄ (hPv i v _ h₄ ⟨t, rfl⟩ hlt hP st₄) fun σ₅ ρ₅ h₅ tk₅ hX I₅ E₅ => ?_)
    refine wpAny_passesOwn hE (hX ρ₅ { s₁ with heap := h₅, toks := tk₅ } _ hF I₅ fun f σ₆ ρ₆ fl h₆ tk₆ hp₆ hf₆ I₆ E₆ => ?_)
    have E₅₆ := E₅.trans E₆
    have E₆' := E₄.trans E₅₆
    have again : J (i + 1) σ₆ → ∃ m, m < n + 1 - i ∧ ∃ i ρ' σ' h' tk, ({ s₁ with heap := h₆, toks := tk₆ } : Shared) = { s₁ with heap := h', toks := tk } ∧ Inv F.g F.env ρ' F.b σ' h' ∧ ExtS F.env ρ ρ' F.b s₁.heap h' ∧ (∀ a ∈ wr, Off F.g F.env ρ' a) ∧ (∀ a ∈ fp, Still F.env ρ' F.b a) ∧ St' i h' ∧ J i σ' ∧ i ≤ n ∧ m = n + 1 - i := by
      intro hJ'
      have alive : ∀ a ∈ fp, ∃ o, h₄.get? a = some o := hIo _ _ st₄
      obtain ⟨t₆, rfl, ht₆⟩ := E₅₆.pre
      refine ⟨n + 1 - (i + 1), by omega, i + 1, _, σ₆, h₆, tk₆, rfl, I₆, E₆', fun a ha => ?_, fun a ha => ?_, ?_, hJ', hlt, rfl⟩
      · obtain ⟨o, e⟩ := alive a (W.sub a ha)
        exact (ow a ha).grow e ht₆
      · obtain ⟨o, e⟩ := alive a ha
        exact (os a ha).grow e ht₆
      · exact W.frame _ _ _ st₄ fun a ha o e => E₅₆.kp a o e (os a ha).1 (os a ha).2.1 (os a ha).2.2
    cases hf₆ with
    | next => exact again hp₆
    | cont => exact again hp₆
    | brk => exact K .next σ₆ ρ₆ .next h₆ tk₆ hp₆ .next I₆ E₆'
    | ret hv => exact K _ σ₆ ρ₆ _ h₆ tk₆ hp₆ (.ret hv) I₆ E₆'
  · obtain rfl : i = n := by omega
    refine W.done _ _ _ st fun h₃ tk₃ hk₃ => wpAny_execs_nil ?_
    exact K .next σ' _ .next h₃ tk₃ (done σ' hJ) .next (I'.but ow hk₃) (E'.but (fun a ha => (hw a ha).1) hk₃)
end

/-! ## part 9 -/

theorem size_one {a : Int} (n : Nat) : Builtin.Range.rangeSize a (a + n) 1 = (n : Int) := by
  unfold Builtin.Range.rangeSize
  by_cases h : a < a + (n : Int)
  · simp [h]; omega
  · simp [h]; omega
theorem size_down {a : Int} (n : Nat) : Builtin.Range.rangeSize a (a - n) (-1) = (n : Int) := by
  unfold Builtin.Range.rangeSize
  by_cases h : a - (n : Int) < a
  · simp [h]; omega
  · simp [h]; omega
theorem fits_long {x : Int} (h0 : -(2 ^ 62) ≤ x) (h1 : x < 2 ^ 62) : Builtin.Range.rangeFitsLong x = true := by
  unfold Builtin.Range.rangeFitsLong
  simp; omega
theorem small_down {a : Int} {n : Nat} (h0 : -4096 ≤ a) (h1 : a ≤ 4096) (hn : n ≤ 4096) : Builtin.Range.small a (a - n) (-1) = true := by
  unfold Builtin.Range.small
  rw [size_down, fits_long (by omega) (by omega), fits_long (x := a - n) (by omega) (by omega), fits_long (x := (n : Int)) (by omega) (by omega), fits_long (x := a - n + (-1 + 1)) (by omega) (by omega)]
  simp [fits_long]

/-- range's arguments: start, end, step, count -/
inductive RangeOf : List V → Int → Int → Int → Nat → Prop
  | one (n : Nat) (h : n ≤ 4096) : RangeOf [.int n] 0 n 1 n
  | two (a : Int) (n : Nat) (h0 : -4096 ≤ a) (h1 : a ≤ 4096) (h : n ≤ 4096) {b : Int} (e : b = a + n) : RangeOf [.int a, .int b] a b 1 n
  | down (a : Int) (n : Nat) (h0 : -4096 ≤ a) (h1 : a ≤ 4096) (h : n ≤ 4096) {b : Int} (e : b = a - n) : RangeOf [.int a, .int b, .int (-1)] a b (-1) n

section
variable {F : Fm} {σ : St}

theorem range_call {vs : List V} {a b c : Int} {n : Nat} {ρ : List Addr} {s : Shared} {us : List Value} {Q : Value → Shared → Prop} (R : RangeOf vs a b c n) (hv : VRs ρ vs us)
    (h : ∀ t u v tk, Q (.ref s.heap.objs.size) { s with heap := s.heap.push { cls := .type "range", data := .fields #[.int a t, .int b u, .int c v] }, toks := tk }) : wpAny (model F.prog F.w) F.A (call (.type "range") us) Q never s := by
  cases R with
  | one n hn =>
    refine one (P := fun us => wpAny _ _ (call (.type "range") us) Q never s) hv fun a ha => ?_
    cases ha
    exact call_range_1 (h _ _ _ _)
  | two a n h0 h1 hn e =>
    refine two (P := fun us => wpAny _ _ (call (.type "range") us) Q never s) hv fun a b ha hb => ?_
    cases ha; cases hb
    exact call_range_2 (h _ _ _ _)
  | down a n h0 h1 hn e =>
    refine three (P := fun us => wpAny _ _ (call (.type "range") us) Q never s) hv fun a b c ha hb hc => ?_
    cases ha; cases hb; cases hc
    exact call_range_3 (by decide) (h _ _ _ _) (.inl (PyProof.noPylong_of_log2 (by decide +kernel)))
theorem RangeOf.size {vs : List V} {a b c : Int} {n : Nat} (R : RangeOf vs a b c n) : Builtin.Range.rangeSize a b c = (n : Int) ∧ Builtin.Range.small a b c = true ∧ n ≤ 4096 := by
  cases R with
  | one n hn =>
    have := size_one (a := 0) n
    rw [Int.zero_add] at this
    exact ⟨this, small_one (by decide) (by decide) (by omega) (by omega), hn⟩
  | two a n h0 h1 hn e => subst e; exact ⟨size_one n, small_one (by omega) (by omega) (by omega) (by omega), hn⟩
  | down a n h0 h1 hn e => subst e; exact ⟨size_down n, small_down h0 h1 hn, hn⟩

/-- the iterator of a range -/
abbrev rangeIter (a : Int) (n : Nat) (c : Int) : Obj := { cls := .type "range_iterator", data := .fields #[rawInt a, rawInt (n : Int), rawInt c] }
theorem range_src {args : List Expr} {np pos : Pos} {P : Int → Int → Nat → List O → Prop} {ρ : List Addr} {s : Shared} {Q : Value → Shared → Prop} (hx : F.env.kindOf (Str.ofString "range") = some .globalImplicit)
    (h : AEs F args σ (fun vs hp => ∃ a b c n, RangeOf vs a b c n ∧ P a c n hp)) (hne : ∃ e r, args = e :: r ∧ starEach (e :: r) F.env = (false, eval e F.env) :: starEach r F.env) (hp : (backTo pos (starEach args F.env)).any (·.1) = false)
    (hF : F.OK) (I : Inv F.g F.env ρ F.b σ s.heap)
    (K : ∀ a c n hp ρ' h₁ tk, P a c n hp → n ≤ 4096 → Inv F.g F.env ρ' F.b ⟨σ.loc, hp⟩ h₁ → Ext ρ ρ' F.b s.heap h₁ → Q (.ref h₁.objs.size) { s with heap := h₁.push (rangeIter a n c), toks := tk }) :
    wpAny (model F.prog F.w) F.A (eval (.Call (.Name (Str.ofString "range") np) args [] pos) F.env) (fun xv s₁ => wpAny (model F.prog F.w) F.A (pyIter xv) Q never s₁) never s := by
  refine wpAny_Call_ofName (gname hF I hx (by decide) PyProof.Rows.boot_range (by decide) ?_)
  refine PyProof.Rows.callWith_type hp (h.args hF I hne fun vs hp ρ₁ us h₁ tk₁ hv hus I₁ E₁ => ?_)
  obtain ⟨a, b, c, n, R, hP⟩ := hv
  obtain ⟨r1, r2, r3⟩ := R.size
  refine range_call R hus fun t u v tk => ?_
  refine wpAny_pyIter_range (IsRange.new h₁ a b c t u v) r2 ?_
  rw [r1]
  have k1 : ∀ e o, h₁.get? e = some o → (h₁.push { cls := .type "range", data := .fields #[.int a t, .int b u, .int c v] }).get? e = some o := fun e o z => Heap.get?_push_of_some _ z
  exact K a c n hp ρ₁ (h₁.push { cls := .type "range", data := .fields #[.int a t, .int b u, .int c v] }) tk hP r3 (I₁.keeps k1) (E₁.trans (Ext.keeps k1))

theorem letGo_name {I : Addr} {x : Str} {px : Pos} {v : Value} : letOwnedTupleGo (.Name x px) (.ref I) v = pure () := rfl
theorem keep_push {h : Heap} (o : Obj) : ∀ a ob, h.get? a = some ob → (h.push o).get? a = some ob := fun _ _ e => Heap.get?_push_of_some o e

theorem TG.name {x : Str} {px : Pos} {v : V} {Pv : List Addr → Value → Heap → Prop} {P : St → Prop} (h : AN F x v σ P) (hv : ∀ ρ u hh, Pv ρ u hh → VR ρ v u) : TG F (.Name x px) Pv σ P :=
  fun ρ s u Q hF I hu K => wpAny_assign_Name (h ρ s u Q hF I (hv ρ u s.heap hu) K)

/-- for x in range(..) -/
theorem AS.forRange {x : Str} {args : List Expr} {np px rp pos : Pos} {body : List Stmt} {P : Fl → St → Prop} (hx : F.env.kindOf (Str.ofString "range") = some .globalImplicit)
    (h : AEs F args σ (fun vs hp => ∃ a b c n, RangeOf vs a b c n ∧ ∃ J : Nat → St → Prop, J 0 ⟨σ.loc, hp⟩ ∧ (∀ i σ', i < n → J i σ' → AN F x (.int (a + (i : Int) * c)) σ' (fun σ'' => AX F body σ'' (turnX P (J (i + 1))))) ∧ ∀ σ', J n σ' → P .next σ'))
    (hne : ∃ e r, args = e :: r ∧ starEach (e :: r) F.env = (false, eval e F.env) :: starEach r F.env := by exact ⟨_, _, rfl, rfl⟩) (hp : (backTo rp (starEach args F.env)).any (·.1) = false := by rfl) :
    AS F (.For (.Name x px) (.Call (.Name (Str.ofString "range") np) args [] rp) body [] pos) σ P := by
  intro ρ s Q hF I K
  refine wpAny_For (range_src (P := fun a c n hp => ∃ J : Nat → St → Prop, J 0 ⟨σ.loc, hp⟩ ∧ (∀ i σ', i < n → J i σ' → AN F x (.int (a + (i : Int) * c)) σ' (fun σ'' => AX F body σ'' (turnX P (J (i + 1))))) ∧ ∀ σ', J n σ' → P .next σ') hx
    (fun ρ s pos Q hF I K => h ρ s pos Q hF I fun vs hp ρ' us h' tk ⟨a, b, c, n, R, q⟩ => K vs hp ρ' us h' tk ⟨a, b, c, n, R, q⟩) hne hp hF I fun a c n hp ρ' h₁ tk hP hn I₁ E₁ => ?_) (by intro _; rfl)
  obtain ⟨J, h0, turn, done⟩ := hP
  have W := Walks.range (prog := F.prog) (w := F.w) (A := F.A) hF.hh h₁.objs.size a c n
  have hnone : h₁.get? h₁.objs.size = none := Heap.get?_none_of_le (Nat.le_refl _)
  have ho := Off.of_none I₁ hnone
  refine for_core (s₁ := { s with heap := h₁, toks := tk }) (tk₂ := tk) (h₂ := h₁.push (rangeIter a n c)) (KTurns.ofWalks (target := .Name x px) W (fun i v s Q E _ hQ => wpAny_of_eq letGo_name hQ))
    (fun i ρ u _ => VR ρ (.int (a + (i : Int) * c)) u) J hF rfl (I₁.keeps (keep_push _)) (Ext.keeps (keep_push _)).toS (fun i u ρ' h' _ hi hu _ => ?_) (fun i h' st b hb => ?_) (fun b hb => ?_) (fun b hb => ?_) ?_ h0
    (fun i σ' hi hJ => TG.name (turn i σ' hi hJ) fun _ _ _ hu => hu) done (K.after E₁.toS)
  · obtain ⟨t, rfl⟩ := hu; exact .int _ _
  · rw [List.mem_singleton.mp hb]; exact ⟨_, st⟩
  · rw [List.mem_singleton.mp hb]; exact ⟨hnone, ho⟩
  · rw [List.mem_singleton.mp hb]; exact ho.still _
  · show IsRangeIter _ _ _ _ _
    have : IsRangeIter (h₁.push (rangeIter a n c)) h₁.objs.size a n c := Heap.get?_push_size _ rfl
    simpa using this

/-- for x in a frozen list -/
theorem AS.forList {x : Str} {it : Expr} {px pos : Pos} {body : List Stmt} {P : Fl → St → Prop}
    (h : AE F it σ (fun v hp => ∃ j vs, v = .ref j ∧ hp[j]? = some (.lst vs) ∧ j < F.b ∧ ∃ J : Nat → St → Prop, J 0 ⟨σ.loc, hp⟩ ∧ (∀ i σ' v, vs[i]? = some v → J i σ' → AN F x v σ' (fun σ'' => AX F body σ'' (turnX P (J (i + 1))))) ∧ ∀ σ', J vs.length σ' → P .next σ'))
    (hs : ∀ x, foldedSetIterable it F.env x = pure x := by intro _; rfl) :
    AS F (.For (.Name x px) it body [] pos) σ P := by
  intro ρ s Q hF I K
  refine wpAny_For (h ρ s _ hF I fun v hp ρ' u h₁ tk hP hu I₁ E₁ => ?_) hs
  obtain ⟨j, vs, rfl, hj, hb, J, h0, turn, done⟩ := hP
  cases hu with | ref ha =>
  rename_i l
  obtain ⟨xs, n, l1, r1⟩ := I₁.list ha hj
  have hlt : l < h₁.objs.size := Heap.lt_size l1
  refine wpAny_pyIter_list (isList_of l1) ?_
  have W := Walks.list (prog := F.prog) (w := F.w) (A := F.A) hF.hh h₁.objs.size l (Nat.ne_of_lt hlt) xs.toArray
  have hsz : xs.toArray.size = vs.length := by simp [r1.length]
  rw [hsz] at W
  have hnone : h₁.get? h₁.objs.size = none := Heap.get?_none_of_le (Nat.le_refl _)
  have ho := Off.of_none I₁ hnone
  refine for_core (s₁ := { s with heap := h₁, toks := tk }) (tk₂ := tk) (h₂ := h₁.push _) (KTurns.ofWalks (target := .Name x px) W (fun i v s Q E _ hQ => wpAny_of_eq letGo_name hQ))
    (fun i ρ u _ => ∃ v, vs[i]? = some v ∧ VR ρ v u) J hF rfl (I₁.keeps (keep_push _)) (Ext.keeps (keep_push _)).toS (fun i u ρ'' h' ht hi hu _ => ?_) (fun i h' st b hb => ?_) (fun b hb => ?_) (fun b hb => ?_) ?_ h0
    (fun i σ' hi hJ => ?_) done (K.after E₁.toS)
  · obtain ⟨t, rfl⟩ := ht
    obtain ⟨v, e1, e2⟩ := r1.get' (i := i) (u := u) (by simpa using hu)
    exact ⟨v, e1, e2.mono⟩
  · rcases List.mem_cons.mp hb with rfl | hb
    · obtain ⟨o, e, _⟩ := st.1; exact ⟨o, e⟩
    · rw [List.mem_singleton.mp hb]; obtain ⟨o, e, _⟩ := st.2; exact ⟨o, e⟩
  · rw [List.mem_singleton.mp hb]; exact ⟨hnone, ho⟩
  · rcases List.mem_cons.mp hb with rfl | hb
    · exact ho.still _
    · rw [List.mem_singleton.mp hb]; exact I₁.still ha (by assumption)
  · exact ⟨⟨_, Heap.get?_push_size _ rfl, rfl, rfl⟩, (isList_of l1).at fun o e => keep_push _ _ _ e⟩
  · obtain ⟨v, hv⟩ : ∃ v, vs[i]? = some v := ⟨vs[i], List.getElem?_eq_getElem hi⟩
    refine TG.name (turn i σ' v hv hJ) fun _ _ _ hu => ?_
    obtain ⟨v', e, hu⟩ := hu
    rw [hv] at e; cases e; exact hu
end

/-! ## part 10 -/

section
variable {F : Fm} {σ : St}

/-! in place -/
theorem AV.iadd {P : V → List O → Prop} {x y : Int} (h : P (.int (x + y)) σ.hp) : AV F [.int x, .int y] (iop .Add) σ P := by
  intro ρ s us Q hF I hv K
  refine two (P := fun us => wpAny _ _ (iop .Add us) Q never s) hv fun a b ha hb => ?_
  cases ha; cases hb
  exact PyProof.Rows.iadd_int (K.here I h (.int _ _))
theorem AV.isub {P : V → List O → Prop} {x y : Int} (h : P (.int (x - y)) σ.hp) : AV F [.int x, .int y] (iop .Sub) σ P := by
  intro ρ s us Q hF I hv K
  refine two (P := fun us => wpAny _ _ (iop .Sub us) Q never s) hv fun a b ha hb => ?_
  cases ha; cases hb
  exact PyProof.Rows.isub_int (K.here I h (.int _ _))
theorem AV.isubF {P : V → List O → Prop} {x : UInt64} {n : Int} (hn : Float64.isInf (Float64.ofInt n) = false) (h : P (.flt (Float64.sub x (Float64.ofInt n))) σ.hp) : AV F [.flt x, .int n] (iop .Sub) σ P := by
  intro ρ s us Q hF I hv K
  refine two (P := fun us => wpAny _ _ (iop .Sub us) Q never s) hv fun a b ha hb => ?_
  cases ha; cases hb
  exact PySem.Flt.isub_fi_1 (by rw [hn]; decide) (K.here I h (.flt _ _))

/-- an item read, for an item that is set in place -/
def gitem : List Value → Sem Value
  | [a, b] => getItem a b
  | _ => unsupported ""
theorem AV.gat {P : V → List O → Prop} {i : Nat} {vs : List V} {k : Int} {x : V} (hi : σ.hp[i]? = some (.lst vs)) (h0 : 0 ≤ k) (hk : k < 4096) (hx : vs[k.toNat]? = some x) (h : P x σ.hp) : AV F [.ref i, .int k] gitem σ P := by
  intro ρ s us Q hF I hv K
  refine two (P := fun us => wpAny _ _ (gitem us) Q never s) hv fun a b ha hb => ?_
  cases ha with | ref ha => cases hb with | int _ t =>
  obtain ⟨xs, n, l1, r1⟩ := I.list ha hi
  obtain ⟨u, e, hu⟩ := r1.get hx
  exact wpAny_getItem_list (isList_of l1) h0 (by omega) (by simpa using e) (K.here0 I h hu)
theorem AV.glast {P : V → List O → Prop} {i : Nat} {vs : List V} {x : V} (hi : σ.hp[i]? = some (.lst vs)) (hx : vs.getLast? = some x) (h : P x σ.hp) : AV F [.ref i, .int (-1)] gitem σ P := by
  intro ρ s us Q hF I hv K
  refine two (P := fun us => wpAny _ _ (gitem us) Q never s) hv fun a b ha hb => ?_
  cases ha with | ref ha => cases hb with | int _ t =>
  obtain ⟨xs, n, l1, r1⟩ := I.list ha hi
  have hx' : vs[vs.length - 1]? = some x := by rw [← List.getLast?_eq_getElem?]; exact hx
  have hpos : 0 < vs.length := by
    cases vs with
    | nil => simp at hx
    | cons => simp
  obtain ⟨u, e, hu⟩ := r1.get hx'
  have hl := r1.length
  refine wpAny_getItem_list_neg (x := u) (isList_of l1) (by decide) (by simp; omega) (by decide) ?_ (K.here0 I h hu)
  have : ((-1 : Int) + (xs.toArray.size : Int)).toNat = vs.length - 1 := by simp; omega
  rw [this]; simpa using e

theorem AS.augItem {P : Fl → St → Prop} {o i e : Expr} {tp pos : Pos} {op : Operator}
    (h : AE F o σ (fun a hp => AE F i ⟨σ.loc, hp⟩ (fun k hp => AV F [a, k] gitem ⟨σ.loc, hp⟩ (fun old hp => AE F e ⟨σ.loc, hp⟩ (fun v hp => AV F [old, v] (iop op) ⟨σ.loc, hp⟩ (fun w hp => AW F [a, k, w] ⟨σ.loc, hp⟩ (fun hp => P .next ⟨σ.loc, hp⟩)))))))
    (hi : ∀ ov iv new, augStore i ov iv new = (do holding [new, ov, iv] (PySem.setItem ov iv new); release [new, ov, iv] []; pure .next) := by intros; rfl) :
    AS F (.AugAssign (.Subscript o i tp) op e pos) σ P := by
  intro ρ s Q hF I K
  refine wpAny_AugAssign_SubscriptAny ?_ hi
  refine h ρ s _ hF I fun a hp₁ ρ₁ ua h₁ tk₁ ha hua I₁ E₁ => ?_
  refine ha ρ₁ { s with heap := h₁, toks := tk₁ } _ hF I₁ fun k hp₂ ρ₂ uk h₂ tk₂ hk huk I₂ E₂ => ?_
  refine hk ρ₂ { s with heap := h₂, toks := tk₂ } [ua, uk] _ hF I₂ (.cons (E₂.vr hua) (.cons huk .nil)) fun old hp₃ ρ₃ uo h₃ tk₃ ho huo I₃ E₃ => ?_
  refine ho ρ₃ { s with heap := h₃, toks := tk₃ } _ hF I₃ fun v hp₄ ρ₄ uv h₄ tk₄ hv huv I₄ E₄ => ?_
  refine hv ρ₄ { s with heap := h₄, toks := tk₄ } [uo, uv] _ hF I₄ (.cons (E₄.vr huo) (.cons huv .nil)) fun w hp₅ ρ₅ uw h₅ tk₅ hw huw I₅ E₅ => ?_
  have E35 := (E₃.trans E₄).trans E₅
  refine hw ρ₅ { s with heap := h₅, toks := tk₅ } [ua, uk, uw] _ hF I₅ (.cons ((E₂.trans E35).vr hua) (.cons (E35.vr huk) (.cons huw .nil))) fun hp₆ h₆ tk₆ hp I₆ E₆ => ?_
  exact K .next _ ρ₅ .next h₆ tk₆ hp .next I₆ (((E₁.trans E₂).trans E35).trans E₆).toS

/-! a while, by a measure -/
theorem AS.while {P : Fl → St → Prop} {test : Expr} {body : List Stmt} {pos : Pos} (J : Nat → St → Prop) (k : Nat) (h0 : J k σ)
    (turn : ∀ n σ', J n σ' → AT F test σ' (fun c hp => if c then AX F body ⟨σ'.loc, hp⟩ (turnX P (fun σ'' => ∃ m, m < n ∧ J m σ'')) else P .next ⟨σ'.loc, hp⟩)) : AS F (.While test body [] pos) σ P := by
  intro ρ s Q hF I K
  have hE : PassesOwn (model F.prog F.w) F.A F.env never := PassesOwn.never
  refine wpAny_While (codeAny_whileLoop (fun n s' => ∃ ρ' σ' h' tk, s' = { s with heap := h', toks := tk } ∧ Inv F.g F.env ρ' F.b σ' h' ∧ ExtS F.env ρ ρ' F.b s.heap h' ∧ J n σ') ?_ k ⟨ρ, σ, s.heap, s.toks, rfl, I, ExtS.refl .., h0⟩)
  rintro n s' ⟨ρ', σ', h', tk, rfl, I', E', hJ⟩
  refine wpAny_passesOwn hE (turn n σ' hJ ρ' { s with heap := h', toks := tk } _ hF I' fun c hp ρ₁ h₁ tk₁ hc I₁ E₁ => ?_)
  cases c with
  | true =>
    refine wpAny_passesOwn hE (hc ρ₁ { s with heap := h₁, toks := tk₁ } _ hF I₁ fun f σ₂ ρ₂ fl h₂ tk₂ hp₂ hf₂ I₂ E₂ => ?_)
    have E := (E'.trans E₁.toS).trans E₂
    cases hf₂ with
    | next => obtain ⟨m, hm, hJ'⟩ := hp₂; exact ⟨m, hm, ρ₂, σ₂, h₂, tk₂, rfl, I₂, E, hJ'⟩
    | cont => obtain ⟨m, hm, hJ'⟩ := hp₂; exact ⟨m, hm, ρ₂, σ₂, h₂, tk₂, rfl, I₂, E, hJ'⟩
    | brk => exact K .next σ₂ ρ₂ .next h₂ tk₂ hp₂ .next I₂ E
    | ret hv => exact K _ σ₂ ρ₂ _ h₂ tk₂ hp₂ (.ret hv) I₂ E
  | false => exact wpAny_execs_nil (K .next _ ρ₁ .next h₁ tk₁ hc .next I₁ (E'.trans E₁.toS))

/-! tuples taken apart -/
theorem vrs2 {ρ : List Addr} {v w : V} {us : List Value} (h : VRs ρ [v, w] us) : ∃ a b, us = [a, b] ∧ VR ρ v a ∧ VR ρ w b := by
  cases h with | cons h1 r => cases r with | cons h2 r => cases r; exact ⟨_, _, rfl, h1, h2⟩
/-- a tuple that is not ours, to two targets -/
theorem TG.pair {t₁ t₂ : Expr} {k : Nat} {tp : Pos} {v w : V} {P : St → Prop} (h : AG F t₁ v σ (fun σ' => AG F t₂ w σ' P)) (hl : assignEach [t₁, t₂] F.env = [(false, PySem.assign t₁ F.env), (false, PySem.assign t₂ F.env)] := by rfl) :
    TG F (.Tuple [t₁, t₂] k tp) (fun ρ u h => ∃ T us, u = .ref T ∧ h.IsTuple T us.toArray ∧ VRs ρ [v, w] us) σ P := by
  intro ρ s u Q hF I hu K
  obtain ⟨T, us, rfl, hT, hr⟩ := hu
  obtain ⟨a, b, rfl, h1, h2⟩ := vrs2 hr
  refine wpAny_assign_Tuple hF.hh hT (by rw [hl]; rfl) (by rw [hl]; rfl) fun h' hk => ?_
  rw [hl]
  have hk' : ∀ c o, s.heap.get? c = some o → h'.get? c = some o := fun c o e => hk c o (Nat.ne_of_lt (Heap.lt_size e)) e
  refine assignInOrder_cons (h ρ { s with heap := h' } a _ hF (I.keeps hk') h1 fun σ₁ ρ₁ h₁ tk₁ hσ I₁ E₁ => ?_)
  refine assignInOrder_cons (hσ ρ₁ { s with heap := h₁, toks := tk₁ } b _ hF I₁ (E₁.vr h2) fun σ₂ ρ₂ h₂ tk₂ hσ₂ I₂ E₂ => ?_)
  exact assignInOrder_nil (K σ₂ ρ₂ h₂ tk₂ hσ₂ I₂ (((Ext.keeps hk').toS.trans E₁).trans E₂))
/-- x, y = a tuple of ours -/
theorem AS.unpack {P : Fl → St → Prop} {t₁ t₂ e : Expr} {k : Nat} {tp pos : Pos} (h : AE F e σ (fun u hp => ∃ i v w, u = .ref i ∧ hp[i]? = some (.tup [v, w]) ∧ AG F t₁ v ⟨σ.loc, hp⟩ (fun σ' => AG F t₂ w σ' (P .next))))
    (hsw : swapsWithSole [.Tuple [t₁, t₂] k tp] e pos.line F.env = pure false := by rfl) (hst : swappedStores [.Tuple [t₁, t₂] k tp] e F.env = pure none := by rfl)
    (hl : assignEach [t₁, t₂] F.env = [(false, PySem.assign t₁ F.env), (false, PySem.assign t₂ F.env)] := by rfl) : AS F (.Assign [.Tuple [t₁, t₂] k tp] e pos) σ P := by
  intro ρ s Q hF I K
  refine Assign_Tuple (h ρ s _ hF I fun u hp ρ₁ uu h₁ tk₁ hu huu I₁ E₁ => ?_) hsw hst
  obtain ⟨i, v, w, rfl, hi, hg⟩ := hu
  cases huu with | ref ha =>
  obtain ⟨xs, n, l1, r1⟩ := I₁.tup ha hi
  exact TG.pair hg hl ρ₁ { s with heap := h₁, toks := tk₁ } _ _ hF I₁ ⟨_, xs, rfl, ⟨_, l1, rfl, n, rfl⟩, r1⟩ fun σ' ρ₂ h₂ tk₂ hσ I₂ E₂ => K .next σ' ρ₂ .next h₂ tk₂ hσ .next I₂ (E₁.toS.trans E₂)
/-- x, y = e1, e2 for targets that are no names: the tuple is not noted -/
theorem AS.pairs {P : Fl → St → Prop} {t₁ t₂ : Expr} {es : List Expr} {k k' : Nat} {tp ep pos : Pos} (h : AEs F es σ (fun us hp => ∃ v w, us = [v, w] ∧ AG F t₁ v ⟨σ.loc, hp⟩ (fun σ' => AG F t₂ w σ' (P .next))))
    (hsw : swapsWithSole [.Tuple [t₁, t₂] k tp] (.Tuple es k' ep) pos.line F.env = pure false := by rfl) (hst : swappedStores [.Tuple [t₁, t₂] k tp] (.Tuple es k' ep) F.env = pure none := by rfl)
    (hl : assignEach [t₁, t₂] F.env = [(false, PySem.assign t₁ F.env), (false, PySem.assign t₂ F.env)] := by rfl) : AS F (.Assign [.Tuple [t₁, t₂] k tp] (.Tuple es k' ep) pos) σ P := by
  intro ρ s Q hF I K
  refine Assign_Tuple (wpAny_Tuple_spliced (h ρ s ep _ hF I fun us hp ρ₁ xs h₁ tk₁ hu hxs I₁ E₁ => ?_)) hsw hst
  obtain ⟨v, w, rfl, hg⟩ := hu
  refine ⟨by rw [hxs.length]; show 2 ≤ sizeLine; decide, ?_⟩
  exact TG.pair hg hl ρ₁ { s with heap := h₁.push _, toks := tk₁ } _ _ hF (I₁.keeps (keep_push _)) ⟨_, xs, rfl, ⟨_, Heap.get?_push_size _ rfl, rfl, 0, rfl⟩, hxs⟩ fun σ' ρ₂ h₂ tk₂ hσ I₂ E₂ => K .next σ' ρ₂ .next h₂ tk₂ hσ .next I₂ ((E₁.toS.trans (Ext.keeps (keep_push _)).toS).trans E₂)
/-- x, y = e1, e2 for two names: stored from behind -/
theorem AS.swap {P : Fl → St → Prop} {x y : Str} {px py : Pos} {es : List Expr} {k k' : Nat} {tp ep pos : Pos} (h : AEs F es σ (fun us hp => ∃ v w, us = [v, w] ∧ AN F y w ⟨σ.loc, hp⟩ (fun σ' => AN F x v σ' (P .next))))
    (hsw : swapsWithSole [.Tuple [.Name x px, .Name y py] k tp] (.Tuple es k' ep) pos.line F.env = pure false := by rfl) (hst : swappedStores [.Tuple [.Name x px, .Name y py] k tp] (.Tuple es k' ep) F.env = pure (some [x, y])) :
    AS F (.Assign [.Tuple [.Name x px, .Name y py] k tp] (.Tuple es k' ep) pos) σ P := by
  intro ρ s Q hF I K
  rw [exec_Assign_arm]
  refine wpAny_bind (wpAny_standAt ?_)
  rw [hsw]
  refine wpAny_bind (wpAny_pure ?_)
  rw [if_neg (by decide)]
  refine wpAny_bind (wpAny_Tuple_spliced (h ρ s ep _ hF I fun us hp ρ₁ xs h₁ tk₁ hu hxs I₁ E₁ => ?_))
  obtain ⟨v, w, rfl, hg⟩ := hu
  obtain ⟨a, b, rfl, h1, h2⟩ := vrs2 hxs
  refine ⟨(by show 2 ≤ sizeLine; decide), ?_⟩
  rw [hst]
  refine wpAny_bind (wpAny_pure ?_)
  unfold assignStores
  refine wpAny_bind (wpAny_rule ?_)
  have hT : (h₁.push { cls := .type "tuple", data := .seq [a, b].toArray }).IsTuple h₁.objs.size #[a, b] := ⟨_, Heap.get?_push_size _ rfl, rfl, 0, rfl⟩
  refine wpAny_bind (wpAny_unpackItems_tuple (s := { s with heap := h₁.push _, toks := tk₁ }) (items := #[a, b]) hF.hh hT fun h' hk => ?_)
  have hk' : ∀ c o, h₁.get? c = some o → h'.get? c = some o := fun c o e => hk c o (Nat.ne_of_lt (Heap.lt_size (keep_push _ _ _ e))) (keep_push _ _ _ e)
  show wpAny _ _ (assignInOrder [fun u => bindName F.env y u, fun u => bindName F.env x u] [b, a] >>= fun _ => pure Flow.next) _ _ _
  refine wpAny_bind (assignInOrder_cons (wpAny_bindName (hg ρ₁ { s with heap := h', toks := tk₁ } b _ hF (I₁.keeps hk') h2 fun σ₁ ρ₂ h₂ tk₂ hσ I₂ E₂ => ?_)))
  refine assignInOrder_cons (wpAny_bindName (hσ ρ₂ { s with heap := h₂, toks := tk₂ } a _ hF I₂ (E₂.vr h1) fun σ₂ ρ₃ h₃ tk₃ hσ₂ I₃ E₃ => ?_))
  exact assignInOrder_nil (wpAny_pure (K .next σ₂ ρ₃ .next h₃ tk₃ hσ₂ .next I₃ (((E₁.toS.trans (Ext.keeps hk').toS).trans E₂).trans E₃)))

/-! for i, c in enumerate(a frozen list) -/
theorem AS.forEnum {x y : Str} {e : Expr} {k : Nat} {px py tp np rp pos : Pos} {body : List Stmt} {P : Fl → St → Prop} (hx : F.env.kindOf (Str.ofString "enumerate") = some .globalImplicit)
    (h : AE F e σ (fun v hp => ∃ j vs, v = .ref j ∧ hp[j]? = some (.lst vs) ∧ j < F.b ∧ ∃ J : Nat → St → Prop, J 0 ⟨σ.loc, hp⟩ ∧ (∀ i σ' v, vs[i]? = some v → J i σ' → AN F x (.int i) σ' (fun σ'' => AN F y v σ'' (fun σ''' => AX F body σ''' (turnX P (J (i + 1)))))) ∧ ∀ σ', J vs.length σ' → P .next σ'))
    (hs : starEach [e] F.env = [(false, eval e F.env)] := by rfl) (hp : (backTo rp (starEach [e] F.env)).any (·.1) = false := by rfl)
    (hl : assignEach [.Name x px, .Name y py] F.env = [(false, PySem.assign (.Name x px) F.env), (false, PySem.assign (.Name y py) F.env)] := by rfl) :
    AS F (.For (.Tuple [.Name x px, .Name y py] k tp) (.Call (.Name (Str.ofString "enumerate") np) [e] [] rp) body [] pos) σ P := by
  intro ρ s Q hF I K
  refine wpAny_For (wpAny_Call_ofName (gname hF I hx (by decide) PyProof.Rows.boot_enumerate (by decide) ?_)) (by intro _; rfl)
  refine PyProof.Rows.callWith_type hp ?_
  rw [hs]
  refine Calls.evalArgs_plain (x := eval e F.env) (Calls.spliced_cons (h ρ s _ hF I fun v hp₁ ρ' u h₁ tk hP hu I₁ E₁ => Calls.spliced_nil ?_))
  obtain ⟨j, vs, rfl, hj, hb, J, h0, turn, done⟩ := hP
  cases hu with | ref ha =>
  rename_i l
  obtain ⟨xs, n, l1, r1⟩ := I₁.list ha hj
  have hlt : l < h₁.objs.size := Heap.lt_size l1
  refine call_enumerate_list (isList_of l1) fun h₂ he hit hsz hk => ?_
  refine wpAny_pyIter_enum he ?_
  have W := (WalksT.enumerate (prog := F.prog) (w := F.w) (A := F.A) hF.hh (h₁.objs.size + 1) h₁.objs.size l (Nat.ne_of_gt (Nat.lt_succ_self _)) (Nat.ne_of_lt (Nat.lt_succ_of_lt hlt)) (Nat.ne_of_lt hlt) xs.toArray).toU
  have hsz' : xs.toArray.size = vs.length := by simp [r1.length]
  rw [hsz'] at W
  have n0 : h₁.get? h₁.objs.size = none := Heap.get?_none_of_le (Nat.le_refl _)
  have n1 : h₁.get? (h₁.objs.size + 1) = none := Heap.get?_none_of_le (Nat.le_succ _)
  have o0 := Off.of_none I₁ n0
  have o1 := Off.of_none I₁ n1
  refine for_core (s₁ := { s with heap := h₁, toks := tk }) (tk₂ := tk) (h₂ := h₂) (KTurns.ofWalksU W)
    (fun i ρ u h => ∃ v, vs[i]? = some v ∧ ∃ T us, u = .ref T ∧ h.IsTuple T us.toArray ∧ VRs ρ [.int i, v] us) J hF rfl (I₁.keeps hk) (Ext.keeps hk).toS (fun i u ρ'' h' ht hi hu _ => ?_) (fun i h' st b hb => ?_) (fun b hb => ?_) (fun b hb => ?_) ?_ h0
    (fun i σ' hi hJ => ?_) done (K.after E₁.toS)
  · obtain ⟨t, rfl⟩ := ht
    obtain ⟨T, vals, rfl, ⟨t', x', hx', rfl⟩, hT⟩ := hu
    obtain ⟨v, e1, e2⟩ := r1.get' (i := i) (u := x') (by simpa using hx')
    exact ⟨v, e1, T, [.int i t', x'], rfl, hT, .cons (.int _ _) (.cons e2.mono .nil)⟩
  · obtain ⟨⟨old, z1⟩, z2, z3⟩ := st
    rcases List.mem_cons.mp hb with rfl | hb
    · exact ⟨_, z1⟩
    · rcases List.mem_cons.mp hb with rfl | hb
      · obtain ⟨o, e, _⟩ := z2; exact ⟨o, e⟩
      · rw [List.mem_singleton.mp hb]; obtain ⟨o, e, _⟩ := z3; exact ⟨o, e⟩
  · rcases List.mem_cons.mp hb with rfl | hb
    · exact ⟨n1, o1⟩
    · rw [List.mem_singleton.mp hb]; exact ⟨n0, o0⟩
  · rcases List.mem_cons.mp hb with rfl | hb
    · exact o1.still _
    · rcases List.mem_cons.mp hb with rfl | hb
      · exact o0.still _
      · rw [List.mem_singleton.mp hb]; exact I₁.still ha (by assumption)
  · exact ⟨⟨_, he⟩, hit, (isList_of l1).at fun o e => hk _ _ e⟩
  · obtain ⟨v, hv⟩ : ∃ v, vs[i]? = some v := ⟨vs[i], List.getElem?_eq_getElem hi⟩
    intro ρ s u Q hF I hu K
    obtain ⟨v', e, hu⟩ := hu
    rw [hv] at e; cases e
    exact TG.pair (AG.name (fun ρ s u Q hF I hv' K => turn i σ' v hv hJ ρ s u Q hF I hv' fun σ'' ρ' h' tk hσ I' E' => K σ'' ρ' h' tk (AG.name hσ) I' E')) hl ρ s u Q hF I hu K
end

/-! ## part 11 -/

/-! cells -/
theorem cellsFrom_append : ∀ (names : List (Str × NameKind)) (n : Nat) (acc : List (Str × Addr)), cellsFrom n names acc = cellsFrom n names [] ++ acc
  | [], _, _ => rfl
  | (x, k) :: r, n, acc => by
    unfold cellsFrom
    split
    · rw [cellsFrom_append r (n + 1) ((x, n) :: acc), cellsFrom_append r (n + 1) [(x, n)]]; simp
    · exact cellsFrom_append r n acc
theorem cellsFrom_mem : ∀ (names : List (Str × NameKind)) (n : Nat) (acc : List (Str × Addr)) (x : Str) (c : Addr), (x, c) ∈ cellsFrom n names acc → (x, c) ∈ acc ∨ (n ≤ c ∧ (x, NameKind.cell) ∈ names)
  | [], _, _, _, _, h => .inl h
  | (y, k) :: r, n, acc, x, c, h => by
    unfold cellsFrom at h
    split at h
    · rename_i hk
      have hk : k = .cell := by cases k <;> first | rfl | cases hk
      subst hk
      rcases cellsFrom_mem r _ _ x c h with h | ⟨h1, h2⟩
      · rcases List.mem_cons.mp h with e | h
        · cases e; exact .inr ⟨Nat.le_refl _, List.mem_cons_self⟩
        · exact .inl h
      · exact .inr ⟨by omega, List.mem_cons_of_mem _ h2⟩
    · rcases cellsFrom_mem r _ _ x c h with h | ⟨h1, h2⟩
      · exact .inl h
      · exact .inr ⟨h1, List.mem_cons_of_mem _ h2⟩
theorem isSome_mem {α : Type} : ∀ {l : List (Str × α)} {x : Str} {c : α}, (x, c) ∈ l → (l.lookup x).isSome = true
  | (y, d) :: r, x, c, h => by
    rw [List.lookup_cons]
    cases q : x == y with
    | true => rfl
    | false =>
      rcases List.mem_cons.mp h with e | h
      · cases e; rw [beq_self_eq_true] at q; cases q
      · exact isSome_mem h
theorem cellsFrom_own : ∀ (names : List (Str × NameKind)) (n : Nat) (acc : List (Str × Addr)) (x : Str), (x, NameKind.cell) ∈ names ∨ (∃ c, (x, c) ∈ acc) → ∃ c, (x, c) ∈ cellsFrom n names acc
  | [], _, _, _, h => by rcases h with h | h; · cases h
                         · exact h
  | (y, k) :: r, n, acc, x, h => by
    unfold cellsFrom
    split
    · refine cellsFrom_own r _ _ x ?_
      rcases h with h | ⟨c, h⟩
      · rcases List.mem_cons.mp h with e | h
        · cases e; exact .inr ⟨n, List.mem_cons_self⟩
        · exact .inl h
      · exact .inr ⟨c, List.mem_cons_of_mem _ h⟩
    · rename_i hk
      refine cellsFrom_own r _ _ x ?_
      rcases h with h | h
      · rcases List.mem_cons.mp h with e | h
        · cases e; exact absurd rfl hk
        · exact .inl h
      · exact .inr h

theorem closure_ok {env : Env} : ∀ (names : List (Str × NameKind)) (acc : List (Str × Addr)) (f : Str × NameKind → List (Str × Addr) → Sem (ForInStep (List (Str × Addr)))),
    (∀ n k cs, f (n, k) cs = if k == .free then (do let c ← cellOf env n; pure (.yield ((n, c) :: cs))) else pure (.yield cs)) →
    (∀ y ∈ names, y.2 = .free → (env.cells.lookup y.1).isSome = true) →
    ∃ cl, forIn names acc f = pure cl ∧ (∀ x c, (x, c) ∈ cl → (x, c) ∈ acc ∨ (env.cells.lookup x = some c ∧ (x, NameKind.free) ∈ names)) ∧ (∀ x, (x, NameKind.free) ∈ names ∨ (∃ c, (x, c) ∈ acc) → ∃ c, (x, c) ∈ cl)
  | [], acc, f, _, _ => ⟨acc, by simp, fun x c h => .inl h, fun x h => by rcases h with h | h; · cases h
                                                                          · exact h⟩
  | (n, k) :: r, acc, f, hf, hs => by
    rw [List.forIn_cons, hf]
    by_cases hk : k = .free
    · subst hk
      obtain ⟨c, hc⟩ := Option.isSome_iff_exists.mp (hs (n, .free) List.mem_cons_self rfl)
      have e1 : cellOf env n = pure c := by unfold cellOf; rw [hc]
      obtain ⟨cl, h1, h2, h3⟩ := closure_ok r ((n, c) :: acc) f hf fun y hy => hs y (List.mem_cons_of_mem _ hy)
      refine ⟨cl, ?_, fun x d h => ?_, fun x h => h3 x ?_⟩
      · simp only [beq_self_eq_true, if_true, e1, pure_bind]; exact h1
      · rcases h2 x d h with h | ⟨h, h'⟩
        · rcases List.mem_cons.mp h with e | h
          · cases e; exact .inr ⟨hc, List.mem_cons_self⟩
          · exact .inl h
        · exact .inr ⟨h, List.mem_cons_of_mem _ h'⟩
      · rcases h with h | ⟨d, h⟩
        · rcases List.mem_cons.mp h with e | h
          · cases e; exact .inr ⟨c, List.mem_cons_self⟩
          · exact .inl h
        · exact .inr ⟨d, List.mem_cons_of_mem _ h⟩
    · obtain ⟨cl, h1, h2, h3⟩ := closure_ok r acc f hf fun y hy => hs y (List.mem_cons_of_mem _ hy)
      refine ⟨cl, ?_, fun x d h => ?_, fun x h => h3 x ?_⟩
      · have : (k == NameKind.free) = false := by cases k <;> first | rfl | exact absurd rfl hk
        simp only [this, Bool.false_eq_true, if_false, pure_bind]; exact h1
      · rcases h2 x d h with h | ⟨h, h'⟩
        · exact .inl h
        · exact .inr ⟨h, List.mem_cons_of_mem _ h'⟩
      · rcases h with h | h
        · rcases List.mem_cons.mp h with e | h
          · cases e; exact absurd rfl hk
          · exact .inl h
        · exact .inr h
theorem closureFor_ok {env : Env} {scope : Scope} (hs : ∀ y ∈ scope.names, y.2 = .free → (env.cells.lookup y.1).isSome = true) :
    ∃ cl, closureFor scope env = pure cl ∧ (∀ x c, (x, c) ∈ cl → env.cells.lookup x = some c ∧ (x, NameKind.free) ∈ scope.names) ∧ (∀ x, (x, NameKind.free) ∈ scope.names → ∃ c, (x, c) ∈ cl) := by
  obtain ⟨cl, h1, h2, h3⟩ := closure_ok (env := env) scope.names [] (fun x cs => if x.2 == .free then (do let c ← cellOf env x.1; pure (.yield ((x.1, c) :: cs))) else pure (.yield cs)) (fun _ _ _ => rfl) hs
  refine ⟨cl, ?_, fun x c h => (h2 x c h).resolve_left (by simp), fun x h => h3 x (.inl h)⟩
  simp only [closureFor, bind_pure]
  rw [← h1]

/-- an object that stood in the heap is noted -/
theorem Inv.record {g : Heap} {env : Env} {ρ : List Addr} {b : Nat} {σ : St} {h : Heap} (I : Inv g env ρ b σ h) {a : Addr} {o : O} (ha : Off g env ρ a) (ho : ObjAt ρ h a o) :
    Inv g env (ρ ++ [a]) b ⟨σ.loc, σ.hp ++ [o]⟩ h := by
  obtain ⟨m, hn, hm⟩ := I.ns
  refine ⟨I.keep, ⟨m, hn, fun x v e k => ?_⟩, fun x c e => ?_, fun i o' e => ?_, by simp [I.len], fun i j a' e1 e2 => ?_, fun i a' hi e => ?_⟩
  · obtain ⟨u, e1, e2⟩ := hm x v e k; exact ⟨u, e1, e2.mono⟩
  · obtain ⟨cv, hc, r⟩ := I.cells x c e
    exact ⟨cv, hc, fun v e => by obtain ⟨u, e1, e2⟩ := r v e; exact ⟨u, e1, e2.mono⟩⟩
  · dsimp only at e
    by_cases hl : i < σ.hp.length
    · rw [List.getElem?_append_left hl] at e
      obtain ⟨a', e1, e2⟩ := I.objs i o' e
      exact ⟨a', getElem?_pre e1, e2.mono⟩
    · rw [List.getElem?_append_right (Nat.le_of_not_lt hl)] at e
      have hi : i - σ.hp.length = 0 := by
        by_cases q : i - σ.hp.length = 0
        · exact q
        · have : (i - σ.hp.length) < [o].length := (List.getElem?_eq_some_iff.mp e).1
          simp at this; exact absurd this q
      rw [hi] at e
      simp at e; subst e
      refine ⟨a, ?_, ho.mono⟩
      have : i = ρ.length := by rw [I.len]; omega
      rw [this]; simp
  · by_cases h1 : i < ρ.length <;> by_cases h2 : j < ρ.length
    · rw [List.getElem?_append_left h1] at e1; rw [List.getElem?_append_left h2] at e2; exact I.nodup i j a' e1 e2
    · rw [List.getElem?_append_left h1] at e1; rw [List.getElem?_append_right (Nat.le_of_not_lt h2)] at e2
      have q := List.mem_of_getElem? e2; simp at q; subst q
      exact absurd e1 (ha.ρ i)
    · rw [List.getElem?_append_left h2] at e2; rw [List.getElem?_append_right (Nat.le_of_not_lt h1)] at e1
      have q := List.mem_of_getElem? e1; simp at q; subst q
      exact absurd e2 (ha.ρ j)
    · have l1 := (List.getElem?_eq_some_iff.mp e1).1
      have l2 := (List.getElem?_eq_some_iff.mp e2).1
      simp at l1 l2; omega
  · by_cases h1 : i < ρ.length
    · rw [List.getElem?_append_left h1] at e; exact I.own i a' hi e
    · rw [List.getElem?_append_right (Nat.le_of_not_lt h1)] at e
      have q := List.mem_of_getElem? e; simp at q; subst q
      exact ha.g

/-! the comprehension's frame -/
def Fm.comp (F : Fm) (scope : Scope) (cells : List (Str × Addr)) (C : Addr) (b : Nat) : Fm := { F with env := compEnvC scope cells C F.env, b := b }
def freeLoc (scope : Scope) (loc : Str → Option V) : Str → Option V := fun y => if scope.names.lookup y = some .free then loc y else none

/-- what is known of a comprehension's names -/
structure ScopeOK (scope : Scope) (env : Env) (x : Str) : Prop where
  kind : scope.kind = .function
  names : ∀ y ∈ scope.names, scope.names.lookup y.1 = some y.2
  free : ∀ y ∈ scope.names, y.2 = .free → (env.cells.lookup y.1).isSome = true
  x : scope.names.lookup x = some .local ∨ scope.names.lookup x = some .cell

/-- a namespace pushed, and a scope's own cells behind it -/
theorem laid (names : List (Str × NameKind)) (h : Heap) (o : Obj) : (h.push o).objs.size = h.objs.size + 1 ∧ (∀ a ob, h.get? a = some ob → (pushCells (h.push o) names).get? a = some ob) ∧
    CellsOk (pushCells (h.push o) names) (h.objs.size + 1) (cellsFrom (h.objs.size + 1) names []) := by
  have z : (h.push o).objs.size = h.objs.size + 1 := Heap.size_push _ _
  have none : CellsOk (h.push o) (h.objs.size + 1) [] := by
    constructor
    · intro n c m; cases m
    · constructor
  have q := cellsFrom_ok names (h.push o) (h.objs.size + 1) [] none (by omega)
  rw [z] at q
  exact ⟨z, fun a ob e => pushCells_keeps names _ a ob (Heap.get?_push_of_some o e), q⟩

theorem newEnv_comp {M : Model} {A : Around} {E : Value → Shared → Prop} {scope : Scope} {env : Env} {cl : List (Str × Addr)} {s : Shared} {Q : Env → Shared → Prop}
    (h : ∀ h', (∀ a o, s.heap.get? a = some o → h'.get? a = some o) → h'.Ns s.heap.objs.size (fun _ => none) → CellsOk h' (s.heap.objs.size + 1) (cellsFrom (s.heap.objs.size + 1) scope.names []) →
      Q { scope, locals := s.heap.objs.size, globals := env.globals, cells := cellsFrom (s.heap.objs.size + 1) scope.names [] ++ cl, qual := env.qual, func := none, code := env.code, frame := env.frame, builtins := env.builtins } { s with heap := h' }) :
    wpAny M A (newFunctionEnv scope env.globals cl [] env.qual none .none (some env)) Q E s := by
  obtain ⟨z, keep, ok⟩ := laid scope.names s.heap { cls := .type "dict", data := .dict #[] }
  have ns := (Heap.Ns.new s.heap (.type "dict")).keeps (pushCells_keeps scope.names _)
  have k := h _ keep ns ok
  simp only [newFunctionEnv, Option.isSome_some, if_true]
  apply wpAny_bind
  apply wpAny_alloc
  apply wpAny_bind
  apply wpAny_layCells
  · intro x kind cs
    cases kind <;> rfl
  · apply wpAny_bind
    rw [List.forIn_nil]
    dsimp only
    rw [z, cellsFrom_append]
    exact wpAny_pure (wpAny_pure k)


/-! ## part 12 -/

/-- a name looked up in a list whose second parts were turned over -/
theorem lookup_turned {α β : Type} (g : Str → α → β) (y : Str) (l : List (Str × α)) : (l.map fun p => (p.1, g p.1 p.2)).lookup y = (l.lookup y).map (g y) := by
  induction l with
  | nil => rfl
  | cons p r ih =>
    rw [List.map_cons, List.lookup_cons, List.lookup_cons]
    cases e : y == p.1 with
    | true => rw [eq_of_beq e]; rfl
    | false => exact ih
/-- how a comprehension sees one of the names around it -/
def seen (env : Env) (n : Str) (k : NameKind) : NameKind := if (k == NameKind.free && env.scope.kind == .function && env.kindOf n == some .cell) then NameKind.cell else k
theorem relabel_lookup {scope : Scope} {env : Env} {y : Str} : (relabel scope env).names.lookup y = (scope.names.lookup y).map (seen env y) := by
  rw [← lookup_turned]
  unfold relabel
  congr 1
  apply List.map_congr_left
  intro p _
  exact (apply_ite (Prod.mk p.1) _ _ _).symm

/-- what holds of a comprehension's frame -/
structure CompOK (F : Fm) (scope : Scope) (x : Str) (h₁ : Heap) (ρ₁ : List Addr) (cells : List (Str × Addr)) (C : Addr) : Prop where
  ok : (F.comp scope cells C ρ₁.length).OK
  off : ∀ a, h₁.get? a = none → a < C → Off F.g (compEnvC scope cells C F.env) ρ₁ a
  above : h₁.get? C = none
  look : ∀ y, scope.names.lookup y = some .free ∨ scope.names.lookup y = some .cell → (cells.lookup y).isSome = true
  tgt : ∃ a₀, h₁.get? a₀ = none ∧ (((compEnvC scope cells C F.env).kindOf x = some .local ∧ cells.lookup x = none ∧ a₀ = C) ∨ ((compEnvC scope cells C F.env).kindOf x = some .cell ∧ cells.lookup x = some a₀))

theorem comp_ok {F : Fm} {scope : Scope} {x : Str} {ρ₁ : List Addr} {σ : St} {h₁ h₂ : Heap} {cl : List (Str × Addr)} {L : Addr} (S : ScopeOK scope F.env x) (hF : F.OK) (I : Inv F.g F.env ρ₁ F.b σ h₁)
    (c1 : ∀ x c, (x, c) ∈ cl → F.env.cells.lookup x = some c ∧ (x, NameKind.free) ∈ scope.names) (c2 : ∀ x, (x, NameKind.free) ∈ scope.names → ∃ c, (x, c) ∈ cl)
    (hL : h₁.objs.size ≤ L) (hk : ∀ a o, h₁.get? a = some o → h₂.get? a = some o) (hn : h₂.Ns L (fun _ => none)) (ok : CellsOk h₂ (L + 1) (cellsFrom (L + 1) scope.names [])) :
    CompOK F scope x h₁ ρ₁ (cellsFrom (L + 1) scope.names [] ++ cl) L ∧ Inv F.g (compEnvC scope (cellsFrom (L + 1) scope.names [] ++ cl) L F.env) ρ₁ ρ₁.length ⟨freeLoc scope σ.loc, σ.hp⟩ h₂ := by
  have fresh : ∀ a, h₁.objs.size ≤ a → h₁.get? a = none := fun a ha => Heap.get?_none_of_le ha
  have gnone : ∀ a, h₁.get? a = none → F.g.get? a = none := fun a ha => by
    cases e : F.g.get? a with
    | none => rfl
    | some o => have := I.keep a o e; rw [ha] at this; cases this
  -- the cells looked up
  have look : ∀ y c, (cellsFrom (L + 1) scope.names [] ++ cl).lookup y = some c → ((y, c) ∈ cellsFrom (L + 1) scope.names [] ∧ (y, NameKind.cell) ∈ scope.names ∧ L + 1 ≤ c) ∨ (F.env.cells.lookup y = some c ∧ (y, NameKind.free) ∈ scope.names) := by
    intro y c e
    rcases List.mem_append.mp (mem_of_lookup e) with m | m
    · rcases cellsFrom_mem _ _ _ _ _ m with q | ⟨q1, q2⟩
      · cases q
      · exact .inl ⟨m, q2, q1⟩
    · exact .inr (c1 y c m)
  have old : ∀ y c, F.env.cells.lookup y = some c → ∃ o, h₁.get? c = some o := fun y c e => by
    obtain ⟨cv, ⟨o, ho, _⟩, _⟩ := I.cells y c e; exact ⟨o, ho⟩
  have oldlt : ∀ y c, F.env.cells.lookup y = some c → c < L := fun y c e => by
    obtain ⟨o, ho⟩ := old y c e; exact Nat.lt_of_lt_of_le (Heap.lt_size ho) hL
  have E : EnvOK F.g (compEnvC scope (cellsFrom (L + 1) scope.names [] ++ cl) L F.env) := by
    refine ⟨?_, hF.env.globals, hF.env.builtins, gnone _ (fresh _ hL), fun y c e => ?_, fun y z c e1 e2 => ?_⟩
    · show (relabel scope F.env).kind = .function
      exact S.kind
    · rcases look y c e with ⟨_, _, q⟩ | ⟨q, _⟩
      · exact gnone _ (fresh _ (Nat.le_trans hL (Nat.le_of_succ_le q)))
      · exact hF.env.cell y c q
    · rcases look y c e1 with ⟨p1, p2, p3⟩ | ⟨p1, p2⟩ <;> rcases look z c e2 with ⟨q1, q2, q3⟩ | ⟨q1, q2⟩
      · exact name_of_addr ok.apart p1 q1
      · exact absurd (oldlt z c q1) (Nat.not_lt.mpr (Nat.le_of_succ_le p3))
      · exact absurd (oldlt y c p1) (Nat.not_lt.mpr (Nat.le_of_succ_le q3))
      · exact hF.env.inj y z c p1 q1
  refine ⟨⟨⟨E, hF.gl, hF.hh, hF.depth, hF.units⟩, fun a ha hlt => ?_, fresh _ hL, fun y hy => ?_, ?_⟩, ?_⟩
  · have o₁ := Off.of_none I ha
    refine ⟨o₁.g, Nat.ne_of_lt hlt, fun y q => ?_, o₁.ρ⟩
    rcases look y a q with ⟨_, _, z⟩ | ⟨z, _⟩
    · exact absurd hlt (Nat.not_lt.mpr (Nat.le_of_succ_le z))
    · exact o₁.cell y z
  · rcases hy with hy | hy
    · obtain ⟨c, hc⟩ := c2 y (mem_of_lookup hy)
      exact isSome_mem (List.mem_append_right _ hc)
    · obtain ⟨c, hc⟩ := cellsFrom_own scope.names (L + 1) [] y (.inl (mem_of_lookup hy))
      exact isSome_mem (List.mem_append_left _ hc)
  · rcases S.x with hx | hx
    · refine ⟨L, fresh _ hL, .inl ⟨?_, ?_, rfl⟩⟩
      · exact lookup_relabel_local hx
      · cases e : (cellsFrom (L + 1) scope.names [] ++ cl).lookup x with
        | none => rfl
        | some c =>
          rcases look x c e with ⟨_, q, _⟩ | ⟨_, q⟩
          · have := S.names _ q; dsimp only at this; rw [hx] at this; cases this
          · have := S.names _ q; dsimp only at this; rw [hx] at this; cases this
    · obtain ⟨c, hc⟩ := cellsFrom_own scope.names (L + 1) [] x (.inl (mem_of_lookup hx))
      obtain ⟨c, hc⟩ := Option.isSome_iff_exists.mp (isSome_mem (List.mem_append_left cl hc))
      refine ⟨c, ?_, .inr ⟨?_, hc⟩⟩
      · rcases look x c hc with ⟨_, _, q⟩ | ⟨_, q⟩
        · exact fresh _ (Nat.le_trans hL (Nat.le_of_succ_le q))
        · have := S.names _ q; dsimp only at this; rw [hx] at this; cases this
      · show (relabel scope F.env).names.lookup x = _
        rw [relabel_lookup, hx]; rfl
  · refine ⟨fun a o e => hk a o (I.keep a o e), ⟨_, hn, fun y v e k => ?_⟩, fun y c e => ?_, fun i o e => ?_, I.len, I.nodup, fun i a hi e => ?_⟩
    · dsimp only [freeLoc] at e
      split at e
      · rename_i hf
        have k : (relabel scope F.env).names.lookup y = some .local := k
        rw [relabel_lookup, hf] at k
        dsimp only [Option.map_some, seen] at k
        split at k <;> cases k
      · cases e
    · rcases look y c e with ⟨q1, q2, q3⟩ | ⟨q1, q2⟩
      · refine ⟨none, (ok.empty y c q1).1, fun v e => ?_⟩
        dsimp only [freeLoc] at e
        have := S.names _ q2; dsimp only at this
        rw [if_neg (by rw [this]; decide)] at e; cases e
      · obtain ⟨cv, hc, r⟩ := I.cells y c q1
        refine ⟨cv, hc.keeps hk, fun v e => r v ?_⟩
        dsimp only [freeLoc] at e
        split at e
        · exact e
        · cases e
    · obtain ⟨a, ha, ho⟩ := I.objs i o e
      exact ⟨a, ha, ho.at fun ob => hk a ob⟩
    · have := (List.getElem?_eq_some_iff.mp e).1; omega

/-- a comprehension's target is given a value -/
theorem store_comp {F : Fm} {x : Str} {v : V} {σ : St} {ρ : List Addr} {s : Shared} {u : Value} {a₀ : Addr} {Q : Unit → Shared → Prop} (hF : F.OK) (I : Inv F.g F.env ρ F.b σ s.heap) (hv : VR ρ v u)
    (hc : (F.env.kindOf x = some .local ∧ F.env.cells.lookup x = none ∧ a₀ = F.env.locals) ∨ (F.env.kindOf x = some .cell ∧ F.env.cells.lookup x = some a₀))
    (K : ∀ h' tk, Inv F.g F.env ρ F.b ⟨upd σ.loc x v, σ.hp⟩ h' → Heap.SameBut a₀ s.heap h' → Q () { s with heap := h', toks := tk }) : wpAny (model F.prog F.w) F.A (storeName F.env x u) Q never s := by
  rcases hc with ⟨hx, hc, rfl⟩ | ⟨hx, hc⟩
  · obtain ⟨m, hn, hm⟩ := I.ns
    exact wpAny_storeName_local hx hn (fun h' hn' hs => K h' _ (I.setLocal hF.env hx hc hv hm hn hn' hs) hs) (by rw [hF.env.kind]; rfl)
  · obtain ⟨cv, hcv, _⟩ := I.cells x a₀ hc
    exact wpAny_storeName_cell hF.env.kind hx hc hcv fun h' hc' hs => K h' s.toks (I.setCell hF.env hx hc hv hc' hs) hs


/-! ## part 13 -/

def ATs (F : Fm) : List Expr → St → (Bool → List O → Prop) → Prop
  | [], σ, P => P true σ.hp
  | [c], σ, P => AT F c σ P
  | _, _, _ => False
theorem wp_tests {F : Fm} {ifs : List Expr} {σ : St} {P : Bool → List O → Prop} {ρ : List Addr} {s : Shared} {Q : Bool → Shared → Prop} (h : ATs F ifs σ P) (hF : F.OK) (I : Inv F.g F.env ρ F.b σ s.heap) (K : KB F σ.loc ρ s Q P) :
    wpAny (model F.prog F.w) F.A (forIn ifs true fun c r => if r = true then do let ok ← isTrue c F.env (eval c F.env); pure (ForInStep.yield ok) else pure (ForInStep.yield r)) Q never s := by
  match ifs, h with
  | [], h => exact wpAny_tests_nil (K.here0 I h)
  | [c], h => exact wpAny_tests_one (h ρ s Q hF I K)

theorem comp_core {F : Fm} {elt iter : Expr} {x : Str} {px : Pos} {ifs : List Expr} {scope : Scope} {pos : Pos} {fp wr : List Addr} {n : Nat} {P : Nat → Value → Prop} {St' : Nat → Heap → Prop} {ob : Obj} {σ : St} {ρ₁ : List Addr} {h₁ : Heap} {s₁ : Shared} {tk₁ : Nat}
    {cl : List (Str × Addr)} (RR : Value → Addr → Result → Shared → Prop) (W : Walks F.prog F.w F.A h₁.objs.size fp wr n P St') (hn : n ≤ 4096) (S : ScopeOK scope F.env x) (hF : F.OK) (I₁ : Inv F.g F.env ρ₁ F.b σ h₁)
    (c1 : ∀ x c, (x, c) ∈ cl → F.env.cells.lookup x = some c ∧ (x, NameKind.free) ∈ scope.names) (c2 : ∀ x, (x, NameKind.free) ∈ scope.names → ∃ c, (x, c) ∈ cl)
    (val : Nat → V) (hval : ∀ i u, i < n → P i u → VR ρ₁ (val i) u) (hIo : ∀ i h', St' i h' → ∀ a ∈ fp, ∃ o, h'.get? a = some o) (hw : ∀ a ∈ wr, a = h₁.objs.size) (hfp : ∀ a ∈ fp, a = h₁.objs.size ∨ ∃ i : Nat, ρ₁[i]? = some a) (hst : St' 0 (h₁.push ob))
    (J : Nat → List V → List O → Prop) (h0 : J 0 [] σ.hp)
    (turn : ∀ cells C i acc hp, (∀ y, scope.names.lookup y = some .free ∨ scope.names.lookup y = some .cell → (cells.lookup y).isSome = true) → i < n → J i acc hp →
      ATs (F.comp scope cells C σ.hp.length) ifs ⟨upd (freeLoc scope σ.loc) x (val i), hp⟩ (fun c hp' => if c then AE (F.comp scope cells C σ.hp.length) elt ⟨upd (freeLoc scope σ.loc) x (val i), hp'⟩ (fun v hp'' => J (i + 1) (acc ++ [v]) hp'') else J (i + 1) acc hp'))
    (fin : ∀ C D ρ' hp' h' tk acc, J n acc hp' → Inv F.g F.env (ρ' ++ [D]) F.b ⟨σ.loc, hp' ++ [.lst acc]⟩ h' → Ext ρ₁ (ρ' ++ [D]) F.b h₁ h' → ρ'.length = hp'.length → (∃ m, h'.Ns C m) → Off F.g F.env (ρ' ++ [D]) C → h₁.get? C = none → RR (.ref D) C (.ok .next) { s₁ with heap := h', toks := tk }) :
    wpAny (model F.prog F.w) F.A (newList []) (fun acc s₃ => wpAny (model F.prog F.w) F.A (newFunctionEnv scope F.env.globals cl [] F.env.qual none .none (some F.env)) (fun cenv s₄ =>
      codeAny (model F.prog F.w) F.A (.compStart (.ListComp elt [⟨.Name x px, iter, ifs, 0⟩] scope pos) 0 (.ref h₁.objs.size) acc { cenv with scope := relabel scope F.env }) (RR acc cenv.locals) s₄) never s₃) never { s₁ with heap := h₁.push ob, toks := tk₁ } := by
  refine wpAny_newObj_type (newEnv_comp fun h₂ hk₂ hn₂ ok₂ => ?_)
  dsimp only at hk₂ hn₂ ok₂ ⊢
  have kp : ∀ a o, h₁.get? a = some o → h₂.get? a = some o := fun a o e => hk₂ a o (Heap.get?_push_of_some _ (Heap.get?_push_of_some _ e))
  have kp' : ∀ a o, (h₁.push ob).get? a = some o → h₂.get? a = some o := fun a o e => hk₂ a o (Heap.get?_push_of_some _ e)
  have hD₂ : h₂.get? (h₁.push ob).objs.size = some { cls := .type "list", data := .seq ([] : List Value).toArray } := hk₂ _ _ (Heap.get?_push_size _ rfl)
  have lD : (h₁.push ob).objs.size = h₁.objs.size + 1 := Heap.size_push ..
  have lL : ((h₁.push ob).push { cls := .type "list", dict := none, data := .seq ([] : List Value).toArray }).objs.size = h₁.objs.size + 2 := by rw [Heap.size_push, lD]
  generalize (h₁.push ob).objs.size = D at *
  generalize ((h₁.push ob).push { cls := .type "list", dict := none, data := .seq ([] : List Value).toArray }).objs.size = L at *
  obtain ⟨CO, I₂⟩ := comp_ok S hF I₁ c1 c2 (by rw [lL]; exact Nat.le_add_right _ _) kp hn₂ ok₂
  generalize cellsFrom (L + 1) scope.names [] ++ cl = cells at *
  have eb : ρ₁.length = σ.hp.length := I₁.len
  have hFc := CO.ok
  obtain ⟨a₀, ha₀, htgt⟩ := CO.tgt
  have noneI : h₁.get? h₁.objs.size = none := Heap.get?_none_of_le (Nat.le_refl _)
  have noneD : h₁.get? D = none := Heap.get?_none_of_le (by rw [lD]; exact Nat.le_succ _)
  have offI : Off F.g (compEnvC scope cells L F.env) ρ₁ h₁.objs.size := CO.off _ noneI (by rw [lL]; exact Nat.lt_add_of_pos_right (by decide))
  have offD : Off F.g (compEnvC scope cells L F.env) ρ₁ D := CO.off _ noneD (by rw [lL, lD]; exact Nat.lt_succ_self _)
  have DneI : D ≠ h₁.objs.size := by rw [lD]; exact Nat.succ_ne_self _
  have st₂ : St' 0 h₂ := W.frame _ _ _ hst fun b _ o e => kp' b o e
  have Dfp : ∀ a ∈ fp, a ≠ D := fun a ha q => by
    rcases hfp a ha with e | ⟨i, e⟩
    · exact DneI (q.symm.trans e)
    · exact offD.ρ i (q ▸ e)
  have stillfp : ∀ a ∈ fp, Still (compEnvC scope cells L F.env) ρ₁ ρ₁.length a := fun a ha => by
    rcases hfp a ha with rfl | ⟨i, e⟩
    · exact offI.still _
    · exact I₂.still e (List.getElem?_eq_some_iff.mp e).1
  -- the loop
  have loop : codeAny (model F.prog F.w) F.A (.compLoop (.ListComp elt [⟨.Name x px, iter, ifs, 0⟩] scope pos) 0 (.ref h₁.objs.size) (.ref D) (compEnvC scope cells L F.env)) (RR (.ref D) L) { s₁ with heap := h₂, toks := tk₁ } := by
    refine codeAny_compLoop_tests (fun k s' => ∃ i t loc hp h' tk acc us cnt, s' = { s₁ with heap := h', toks := tk } ∧ Inv F.g (compEnvC scope cells L F.env) (ρ₁ ++ t) ρ₁.length ⟨loc, hp⟩ h' ∧ (∀ v, upd loc x v = upd (freeLoc scope σ.loc) x v) ∧
        (∀ a ∈ t, h₁.get? a = none) ∧ (∀ a o, h₁.get? a = some o → h'.get? a = some o) ∧ h'.get? D = some { cls := .type "list", data := .seq (List.toArray us) cnt } ∧ VRs (ρ₁ ++ t) acc us ∧ Off F.g (compEnvC scope cells L F.env) (ρ₁ ++ t) D ∧
        (∀ a ∈ wr, Off F.g (compEnvC scope cells L F.env) (ρ₁ ++ t) a) ∧ (∀ a ∈ fp, Still (compEnvC scope cells L F.env) (ρ₁ ++ t) ρ₁.length a) ∧ St' i h' ∧ J i acc hp ∧ acc.length ≤ i ∧ i ≤ n ∧ k = n + 1 - i) ?_ (n + 1)
      ⟨0, [], freeLoc scope σ.loc, σ.hp, h₂, tk₁, [], [], 0, rfl, by simpa using I₂, fun _ => rfl, by simp, kp, hD₂, .nil, by simpa using offD, fun a ha => by rw [hw a ha]; simpa using offI, fun a ha => by simpa using stillfp a ha, st₂, h0, Nat.le_refl _, Nat.zero_le _, rfl⟩
    rintro k s' ⟨i, t, loc, hp, h', tk, acc, us, cnt, rfl, I', hloc, ht, hk', hD', hacc, oD, ow, os, st, hJ, hlen, hi, rfl⟩
    have Dw : D ∉ wr := fun q => Dfp D (W.sub _ q) rfl
    by_cases hlt : i < n
    · refine W.item i _ _ _ hlt st fun u h₃ tk₃ hP st₃ hk₃ => ?_
      have hv : VR (ρ₁ ++ t) (val i) u := (hval i u hlt hP).mono
      have I₃ := I'.but ow hk₃
      refine wpAny_assign_Name (wpAny_mono (store_comp (F := F.comp scope cells L ρ₁.length) (s := { s₁ with heap := h₃, toks := tk₃ }) hFc I₃ hv htgt fun h₄ tk₄ I₄ hs₄ => ?_) (fun _ _ y => y) (fun _ _ f => f.elim))
      have a₀D : D ≠ a₀ := by
        rcases htgt with ⟨_, _, rfl⟩ | ⟨_, e⟩
        · exact oD.loc
        · exact fun q => oD.cell x (q ▸ e)
      have a₀fp : ∀ a ∈ fp, a ≠ a₀ := fun a ha => by
        rcases htgt with ⟨_, _, rfl⟩ | ⟨_, e⟩
        · exact (os a ha).1
        · exact fun q => (os a ha).2.1 x (q ▸ e)
      have a₀h : ∀ a o, h₁.get? a = some o → a ≠ a₀ := fun a o e q => by rw [q, ha₀] at e; cases e
      have wh : ∀ a o, h₁.get? a = some o → a ∉ wr := fun a o e q => by rw [hw a q, noneI] at e; cases e
      rw [show upd loc x (val i) = _ from hloc (val i)] at I₄
      have k₄ : ∀ a o, h₁.get? a = some o → h₄.get? a = some o := fun a o e => (hs₄.2 a (a₀h a o e)).trans (hk₃ a o (wh a o e) (hk' a o e))
      have D₄ := (hs₄.2 D a₀D).trans (hk₃ D _ Dw hD')
      have st₄ : St' (i + 1) h₄ := W.frame _ _ _ st₃ fun b hb o e => (hs₄.2 b (a₀fp b hb)).trans e
      have T := turn cells L i acc hp CO.look hlt hJ
      rw [← eb] at T
      -- what is kept by what an expression does
      have keepE : ∀ {ρa ρb : List Addr} {ha hb : Heap}, Ext ρa ρb ρ₁.length ha hb → (∃ t, ρa = ρ₁ ++ t ∧ ∀ a ∈ t, h₁.get? a = none) → (∀ a o, h₁.get? a = some o → ha.get? a = some o) →
          (∃ t, ρb = ρ₁ ++ t ∧ ∀ a ∈ t, h₁.get? a = none) ∧ (∀ a o, h₁.get? a = some o → hb.get? a = some o) := by
        rintro ρa ρb ha hb E ⟨ta, rfl, hta⟩ hka
        obtain ⟨tb, rfl, htb⟩ := E.pre
        refine ⟨⟨ta ++ tb, by rw [List.append_assoc], fun a m => ?_⟩, fun a o e => E.kp a o (hka a o e) fun j hj q => ?_⟩
        · rcases List.mem_append.mp m with m | m
          · exact hta a m
          · cases e : h₁.get? a with
            | none => rfl
            | some o => have := hka a o e; rw [htb a m] at this; cases this
        · rw [List.getElem?_append_right hj] at q
          have := hta a (List.mem_of_getElem? q)
          rw [e] at this; cases this
      have offE : ∀ {ρa ρb : List Addr} {ha hb : Heap} {a : Addr} {o : Obj}, Ext ρa ρb ρ₁.length ha hb → Off F.g (compEnvC scope cells L F.env) ρa a → ha.get? a = some o → Off F.g (compEnvC scope cells L F.env) ρb a ∧ hb.get? a = some o := by
        intro ρa ρb ha hb a o E oa e
        have e' := E.kp a o e fun j _ => oa.ρ j
        obtain ⟨tb, rfl, htb⟩ := E.pre
        exact ⟨oa.grow e htb, e'⟩
      have stillE : ∀ {ρa ρb : List Addr} {ha hb : Heap} {a : Addr} {o : Obj}, Ext ρa ρb ρ₁.length ha hb → Still (compEnvC scope cells L F.env) ρa ρ₁.length a → ha.get? a = some o → Still (compEnvC scope cells L F.env) ρb ρ₁.length a ∧ hb.get? a = some o := by
        intro ρa ρb ha hb a o E oa e
        have e' := E.kp a o e oa.2.2
        obtain ⟨tb, rfl, htb⟩ := E.pre
        exact ⟨oa.grow e htb, e'⟩
      have wthere : ∀ a ∈ wr, ∃ o, h₄.get? a = some o := fun a ha => hIo _ _ st₄ a (W.sub a ha)
      have fthere : ∀ a ∈ fp, ∃ o, h₄.get? a = some o := fun a ha => hIo _ _ st₄ a ha
      refine wpAny_mono (wp_tests (F := F.comp scope cells L ρ₁.length) (s := { s₁ with heap := h₄, toks := tk₄ }) T hFc I₄ fun c hp₅ ρ₅ h₅ tk₅ hc I₅ E₅ => ?_) (fun _ _ y => y) (fun _ _ f => f.elim)
      have K₅ := keepE E₅ ⟨t, rfl, ht⟩ k₄
      have D₅ := offE E₅ oD D₄
      have st₅ : St' (i + 1) h₅ := W.frame _ _ _ st₄ fun b hb o e => (stillE E₅ (os b hb) e).2
      cases c with
      | false =>
        obtain ⟨⟨t₅, e₅, ht₅⟩, k₅⟩ := K₅
        have hacc' := E₅.vrs hacc
        rw [if_neg (by decide)]
        subst e₅
        exact ⟨n + 1 - (i + 1), by omega, i + 1, t₅, _, hp₅, h₅, tk₅, acc, us, cnt, rfl, I₅, fun v => by funext y; simp only [upd]; split <;> rfl, ht₅, k₅, D₅.2, hacc', D₅.1, fun a ha => by obtain ⟨o, e⟩ := wthere a ha; exact (offE E₅ (ow a ha) e).1,
          fun a ha => by obtain ⟨o, e⟩ := fthere a ha; exact (stillE E₅ (os a ha) e).1, st₅, hc, by omega, hlt, rfl⟩
      | true =>
        rw [if_pos rfl]
        refine wpAny_mono (hc ρ₅ { s₁ with heap := h₅, toks := tk₅ } _ hFc I₅ fun v hp₆ ρ₆ u' h₆ tk₆ hv₆ hu' I₆ E₆ => ?_) (fun _ _ y => y) (fun _ _ f => f.elim)
        have E₄₆ : Ext (ρ₁ ++ t) ρ₆ ρ₁.length h₄ h₆ := Ext.trans E₅ E₆
        obtain ⟨⟨t₆, e₆, ht₆⟩, k₆⟩ := keepE E₄₆ ⟨t, rfl, ht⟩ k₄
        have D₆ := offE E₄₆ oD D₄
        have hacc₆ := E₄₆.vrs hacc
        have hus := hacc₆.length
        subst e₆
        refine wpAny_list_append_plain ⟨cnt, D₆.2⟩ (fun h₇ hp₇ hs₇ => ?_) (line_big (by simp; omega))
        obtain ⟨cnt', D₇⟩ := hp₇
        have e₇ : us.toArray.push u' = (us ++ [u']).toArray := by simp
        rw [e₇] at D₇
        have b₇ : ∀ c o, c ∉ [D] → h₆.get? c = some o → h₇.get? c = some o := fun c o hc e => (hs₇.2 c (by simpa using hc)).trans e
        have I₇ := I₆.but (wr := [D]) (fun a ha => by rw [List.mem_singleton.mp ha]; exact D₆.1) b₇
        have nD : ∀ a o, h₁.get? a = some o → a ∉ [D] := fun a o e q => by rw [List.mem_singleton.mp q, noneD] at e; cases e
        exact ⟨n + 1 - (i + 1), by omega, i + 1, t₆, _, hp₆, h₇, tk₆, acc ++ [v], us ++ [u'], cnt', rfl, I₇, fun v => by funext y; simp only [upd]; split <;> rfl, ht₆, fun a o e => b₇ a o (nD a o e) (k₆ a o e), D₇, hacc₆.append (.one hu'), D₆.1,
          fun a ha => by obtain ⟨o, e⟩ := wthere a ha; exact (offE E₄₆ (ow a ha) e).1, fun a ha => by obtain ⟨o, e⟩ := fthere a ha; exact (stillE E₄₆ (os a ha) e).1,
          W.frame _ _ _ st₄ fun b hb o e => b₇ b o (fun q => Dfp b hb (List.mem_singleton.mp q)) (stillE E₄₆ (os b hb) e).2, hv₆, by simp; omega, hlt, rfl⟩
    · obtain rfl : i = n := by omega
      refine W.done _ _ _ st fun h₃ tk₃ hk₃ => ?_
      have I₃ := I'.but ow hk₃
      have wh : ∀ a o, h₁.get? a = some o → a ∉ wr := fun a o e q => by rw [hw a q, noneI] at e; cases e
      have k₃ : ∀ a o, h₁.get? a = some o → h₃.get? a = some o := fun a o e => hk₃ a o (wh a o e) (hk' a o e)
      have D₃ := hk₃ D _ Dw hD'
      -- the outer frame again
      have IO : Inv F.g F.env (ρ₁ ++ t) F.b ⟨σ.loc, hp⟩ h₃ := by
        obtain ⟨m, hm, hr⟩ := I₁.ns
        refine ⟨I₃.keep, ⟨m, ns_at hm fun o e => k₃ _ o e, fun y v e k => ?_⟩, fun y c e => ?_, I₃.objs, I₃.len, I₃.nodup, fun j a hj e => ?_⟩
        · obtain ⟨u, e1, e2⟩ := hr y v e k; exact ⟨u, e1, e2.mono⟩
        · obtain ⟨cv, hc, r⟩ := I₁.cells y c e
          exact ⟨cv, hc.keeps k₃, fun v e => by obtain ⟨u, e1, e2⟩ := r v e; exact ⟨u, e1, e2.mono⟩⟩
        · by_cases h1 : j < ρ₁.length
          · rw [List.getElem?_append_left h1] at e; exact I₁.own j a hj e
          · rw [List.getElem?_append_right (Nat.le_of_not_lt h1)] at e
            have q := ht a (List.mem_of_getElem? e)
            cases z : F.g.get? a with
            | none => rfl
            | some o => have := I₁.keep _ _ z; rw [q] at this; cases this
      have oD₁ := Off.of_none I₁ noneD
      have oDo : Off F.g F.env (ρ₁ ++ t) D := ⟨oD₁.g, oD₁.loc, oD₁.cell, oD.ρ⟩
      have IR := IO.record oDo (show ObjAt (ρ₁ ++ t) h₃ D (.lst acc) from ⟨us, cnt, D₃, hacc⟩)
      have oC₁ := Off.of_none I₁ CO.above
      obtain ⟨mC, hC, _⟩ := I₃.ns
      refine fin L D (ρ₁ ++ t) hp h₃ tk₃ acc hJ IR ⟨⟨t ++ [D], by rw [List.append_assoc], fun a ha => ?_⟩, fun a o e => ⟨o, k₃ a o e⟩, fun a o e _ => k₃ a o e⟩ IO.len ⟨mC, hC⟩ ⟨oC₁.g, oC₁.loc, oC₁.cell, fun j q => ?_⟩ CO.above
      · rcases List.mem_append.mp ha with ha | ha
        · exact ht a ha
        · rw [List.mem_singleton.mp ha]; exact noneD
      · by_cases h1 : j < (ρ₁ ++ t).length
        · rw [List.getElem?_append_left h1] at q
          have hj : j < hp.length := IO.len ▸ h1
          obtain ⟨ob', its, n', hob, hd⟩ := (IO.at q (List.getElem?_eq_getElem hj)).seq
          exact ns_not_seq hC ob' its n' hob hd
        · rw [List.getElem?_append_right (Nat.le_of_not_lt h1)] at q
          have := List.mem_of_getElem? q; simp at this
          exact oD.loc this.symm
  exact codeAny_compStart_list loop (W.self 0 _ _ _ st₂ loop)

/-! ## part 14 -/

/-- one turn of a comprehension -/
def CompTurn (F : Fm) (scope : Scope) (x : Str) (ifs : List Expr) (elt : Expr) (loc : Str → Option V) (b n : Nat) (val : Nat → V) (J : Nat → List V → List O → Prop) : Prop :=
  ∀ cells C i acc hp, (∀ y, scope.names.lookup y = some .free ∨ scope.names.lookup y = some .cell → (cells.lookup y).isSome = true) → i < n → J i acc hp →
    ATs (F.comp scope cells C b) ifs ⟨upd (freeLoc scope loc) x (val i), hp⟩ (fun c hp' => if c then AE (F.comp scope cells C b) elt ⟨upd (freeLoc scope loc) x (val i), hp'⟩ (fun v hp'' => J (i + 1) (acc ++ [v]) hp'') else J (i + 1) acc hp')

/-- the source of a comprehension: a range or a list -/
inductive Src (F : Fm) (iter : Expr) (σ : St) (P : List O → (n : Nat) → (Nat → V) → Prop) : Prop
  | range {args : List Expr} {np pos : Pos} (e : iter = .Call (.Name (Str.ofString "range") np) args [] pos) (hx : F.env.kindOf (Str.ofString "range") = some .globalImplicit)
      (h : AEs F args σ (fun vs hp => ∃ a b c n, RangeOf vs a b c n ∧ P hp n (fun i => .int (a + (i : Int) * c))))
      (hne : ∃ e r, args = e :: r ∧ starEach (e :: r) F.env = (false, eval e F.env) :: starEach r F.env) (hp : (backTo pos (starEach args F.env)).any (·.1) = false) : Src F iter σ P
  | list (h : AE F iter σ (fun v hp => ∃ j vs, v = .ref j ∧ hp[j]? = some (.lst vs) ∧ vs.length ≤ 4096 ∧ P hp vs.length (fun i => (vs[i]?).getD .none))) : Src F iter σ P

theorem comp_src {F : Fm} {iter elt : Expr} {x : Str} {px : Pos} {ifs : List Expr} {scope : Scope} {pos : Pos} {σ : St} {ρ : List Addr} {s : Shared} {cl : List (Str × Addr)} {P : List O → List V → Prop} (RR : Value → Addr → Result → Shared → Prop)
    (S : ScopeOK scope F.env x) (hF : F.OK) (I : Inv F.g F.env ρ F.b σ s.heap)
    (c1 : ∀ x c, (x, c) ∈ cl → F.env.cells.lookup x = some c ∧ (x, NameKind.free) ∈ scope.names) (c2 : ∀ x, (x, NameKind.free) ∈ scope.names → ∃ c, (x, c) ∈ cl)
    (h : Src F iter σ (fun hp n val => ∃ J, J 0 [] hp ∧ CompTurn F scope x ifs elt σ.loc hp.length n val J ∧ ∀ acc hp', J n acc hp' → P hp' acc))
    (fin : ∀ C D ρ' hp' h' tk acc, P hp' acc → Inv F.g F.env (ρ' ++ [D]) F.b ⟨σ.loc, hp' ++ [.lst acc]⟩ h' → Ext ρ (ρ' ++ [D]) F.b s.heap h' → ρ'.length = hp'.length → (∃ m, h'.Ns C m) → Off F.g F.env (ρ' ++ [D]) C → s.heap.get? C = none → RR (.ref D) C (.ok .next) { s with heap := h', toks := tk }) :
    wpAny (model F.prog F.w) F.A (eval iter F.env) (fun xv s₁ => wpAny (model F.prog F.w) F.A (pyIter xv) (fun it s₂ => wpAny (model F.prog F.w) F.A (newList []) (fun acc s₃ =>
      wpAny (model F.prog F.w) F.A (newFunctionEnv scope F.env.globals cl [] F.env.qual none .none (some F.env)) (fun cenv s₄ =>
        codeAny (model F.prog F.w) F.A (.compStart (.ListComp elt [⟨.Name x px, iter, ifs, 0⟩] scope pos) 0 it acc { cenv with scope := relabel scope F.env }) (RR acc cenv.locals) s₄) never s₃) never s₂) never s₁) never s := by
  have off : ∀ {ρ₁ : List Addr} {h₁ : Heap} {C : Addr}, Ext ρ ρ₁ F.b s.heap h₁ → h₁.get? C = none → s.heap.get? C = none := fun E e => by
    rename_i ρ₁ h₁ C
    cases q : s.heap.get? C with
    | none => rfl
    | some o => obtain ⟨o', e'⟩ := E.live _ _ q; rw [e] at e'; cases e'
  cases h with
  | range e hx h hne hp =>
    subst e
    refine range_src (P := fun a c n hp => ∃ J : Nat → List V → List O → Prop, J 0 [] hp ∧ CompTurn F scope x ifs elt σ.loc hp.length n (fun i => .int (a + (i : Int) * c)) J ∧ ∀ acc hp', J n acc hp' → P hp' acc) hx
      (fun ρ s pos Q hF I K => h ρ s pos Q hF I fun vs hp ρ' us h' tk ⟨a, b, c, n, R, q⟩ => K vs hp ρ' us h' tk ⟨a, b, c, n, R, q⟩) hne hp hF I fun a c n hp ρ' h₁ tk hP hn I₁ E₁ => ?_
    obtain ⟨J, h0, turn, done⟩ := hP
    have W := Walks.range (prog := F.prog) (w := F.w) (A := F.A) hF.hh h₁.objs.size a c n
    refine comp_core (σ := ⟨σ.loc, hp⟩) (s₁ := s) RR W hn S hF I₁ c1 c2 (fun i => .int (a + (i : Int) * c)) (fun i u _ hu => ?_) (fun i h' st b hb => ?_) (fun b hb => List.mem_singleton.mp hb) (fun b hb => .inl (List.mem_singleton.mp hb)) ?_ J h0 turn
      fun C D ρ₂ hp₂ h₂ tk₂ acc hJ I₂ E₂ hl hC oC nC => fin C D ρ₂ hp₂ h₂ tk₂ acc (done acc hp₂ hJ) I₂ (E₁.trans E₂) hl hC oC (off E₁ nC)
    · obtain ⟨t, rfl⟩ := hu; exact .int _ _
    · rw [List.mem_singleton.mp hb]; exact ⟨_, st⟩
    · show IsRangeIter _ _ _ _ _
      have : IsRangeIter (h₁.push (rangeIter a n c)) h₁.objs.size a n c := Heap.get?_push_size _ rfl
      simpa using this
  | list h =>
    refine h ρ s _ hF I fun v hp ρ' u h₁ tk hP hu I₁ E₁ => ?_
    obtain ⟨j, vs, rfl, hj, hz, J, h0, turn, done⟩ := hP
    cases hu with | ref ha =>
    rename_i l
    obtain ⟨xs, n, l1, r1⟩ := I₁.list ha hj
    have hlt : l < h₁.objs.size := Heap.lt_size l1
    refine wpAny_pyIter_list (isList_of l1) ?_
    have W := Walks.list (prog := F.prog) (w := F.w) (A := F.A) hF.hh h₁.objs.size l (Nat.ne_of_lt hlt) xs.toArray
    have hsz : xs.toArray.size = vs.length := by simp [r1.length]
    rw [hsz] at W
    refine comp_core (σ := ⟨σ.loc, hp⟩) (s₁ := s) RR W hz S hF I₁ c1 c2 (fun i => (vs[i]?).getD .none) (fun i u hi hu => ?_) (fun i h' st b hb => ?_) (fun b hb => List.mem_singleton.mp hb) (fun b hb => ?_) ?_ J h0 turn
      fun C D ρ₂ hp₂ h₂ tk₂ acc hJ I₂ E₂ hl hC oC nC => fin C D ρ₂ hp₂ h₂ tk₂ acc (done acc hp₂ hJ) I₂ (E₁.trans E₂) hl hC oC (off E₁ nC)
    · obtain ⟨v, e1, e2⟩ := r1.get' (i := i) (u := u) (by simpa using hu)
      rw [e1]; exact e2
    · rcases List.mem_cons.mp hb with rfl | hb
      · obtain ⟨o, e, _⟩ := st.1; exact ⟨o, e⟩
      · rw [List.mem_singleton.mp hb]; obtain ⟨o, e, _⟩ := st.2; exact ⟨o, e⟩
    · rcases List.mem_cons.mp hb with rfl | hb
      · exact .inl rfl
      · exact .inr ⟨j, by rw [List.mem_singleton.mp hb]; exact ha⟩
    · exact ⟨⟨_, Heap.get?_push_size _ rfl, rfl, rfl⟩, (isList_of l1).at fun o e => keep_push _ _ _ e⟩

section
variable {F : Fm} {σ : St}
theorem refAt {ρ : List Addr} {hp : List O} {D : Addr} (e : ρ.length = hp.length) : VR (ρ ++ [D]) (.ref hp.length) (.ref D) := .ref (by rw [← e]; simp)

theorem AE.comp {P : V → List O → Prop} {iter elt : Expr} {x : Str} {px : Pos} {ifs : List Expr} {scope : Scope} {pos : Pos} (S : ScopeOK scope F.env x)
    (h : Src F iter σ (fun hp n val => ∃ J, J 0 [] hp ∧ CompTurn F scope x ifs elt σ.loc hp.length n val J ∧ ∀ acc hp', J n acc hp' → P (.ref hp'.length) (hp' ++ [.lst acc])))
    (hs : ∀ x, foldedSetIterable iter F.env x = pure x := by intro _; rfl) : AE F (.ListComp elt [⟨.Name x px, iter, ifs, 0⟩] scope pos) σ P := by
  intro ρ s Q hF I K
  obtain ⟨cl, h1, c1, c2⟩ := closureFor_ok S.free
  rw [eval_ListComp]
  refine wpAny_comprehension_free (use := none) rfl hs h1 S.kind (fun y hy hl => by rw [S.names y hy, hl]) ?_
  refine comp_src (P := fun hp' acc => P (.ref hp'.length) (hp' ++ [.lst acc])) (fun acc C => compPost (model F.prog F.w) F.A never none Q acc C) S hF I c1 c2 h fun C D ρ' hp' h' tk acc hP I' E hl ⟨m, hC⟩ oC nC => ?_
  refine ⟨m, hC, fun h'' hs => ?_⟩
  have b' : ∀ c o, c ∉ [C] → h'.get? c = some o → h''.get? c = some o := fun c o hc e => (hs.2 c (by simpa using hc)).trans e
  have nC' : ∀ a o, s.heap.get? a = some o → a ∉ [C] := fun a o e q => by rw [List.mem_singleton.mp q, nC] at e; cases e
  refine K (.ref hp'.length) _ (ρ' ++ [D]) _ h'' tk hP (refAt hl) (I'.but (wr := [C]) (fun a ha => by rw [List.mem_singleton.mp ha]; exact oC) b') ⟨E.pre, fun a o e => ?_, fun a o e k => b' a o (nC' a o e) (E.kp a o e k)⟩
  obtain ⟨o', e'⟩ := E.live a o e
  exact ⟨o', b' a o' (nC' a o e) e'⟩

/-- y = a comprehension, stored before its variables go -/
theorem AS.comp {P : Fl → St → Prop} {iter elt : Expr} {x y : Str} {px py : Pos} {ifs : List Expr} {scope : Scope} {pos spos : Pos} (S : ScopeOK scope F.env x)
    (h : Src F iter σ (fun hp n val => ∃ J, J 0 [] hp ∧ CompTurn F scope x ifs elt σ.loc hp.length n val J ∧ ∀ acc hp', J n acc hp' → AN F y (.ref hp'.length) ⟨σ.loc, hp' ++ [.lst acc]⟩ (P .next)))
    (hsw : swapsWith (.ListComp elt [⟨.Name x px, iter, ifs, 0⟩] scope pos) (some (.Name y py)) spos.line F.env = pure true := by rfl)
    (hs : ∀ x, foldedSetIterable iter F.env x = pure x := by intro _; rfl) : AS F (.Assign [.Name y py] (.ListComp elt [⟨.Name x px, iter, ifs, 0⟩] scope pos) spos) σ P := by
  intro ρ s Q hF I K
  obtain ⟨cl, h1, c1, c2⟩ := closureFor_ok S.free
  rw [exec_Assign_Name_used _ _ _ _ hsw]
  refine wpAny_bind (wpAny_standAt (wpAny_bind ?_))
  show wpAny _ _ (do let _ ← comprehension (.ListComp elt [⟨.Name x px, iter, ifs, 0⟩] scope pos) scope F.env _ (newList []) false (eval iter F.env) (some (PySem.assign (.Name y py) F.env))) _ _ s
  refine wpAny_bind (wpAny_mono (wpAny_comprehension_free (use := some (PySem.assign (.Name y py) F.env)) (Q := fun _ s' => Q .next s') rfl hs h1 S.kind (fun y hy hl => by rw [S.names y hy, hl]) ?_) (fun _ s' hq => wpAny_pure (wpAny_pure hq)) fun _ _ e => e)
  refine comp_src (P := fun hp' acc => AN F y (.ref hp'.length) ⟨σ.loc, hp' ++ [.lst acc]⟩ (P .next)) (fun acc C => compPost (model F.prog F.w) F.A never (some (PySem.assign (.Name y py) F.env)) (fun _ s' => Q .next s') acc C) S hF I c1 c2 h fun C D ρ' hp' h' tk acc hP I' E hl ⟨m, hC⟩ oC nC => ?_
  show wpAny _ _ (PySem.assign (.Name y py) F.env (.ref D)) _ _ _
  refine wpAny_assign_Name (hP (ρ' ++ [D]) { s with heap := h', toks := tk } (.ref D) _ hF I' (refAt hl) fun σ₂ ρ₂ h₂ tk₂ hp₂ I₂ E₂ => ?_)
  obtain ⟨oc, es, ep, hoc, r⟩ := hC
  have C₂ := E₂.kp C oc hoc oC.loc oC.cell fun i _ => oC.ρ i
  refine ⟨m, ⟨oc, es, ep, C₂, r⟩, fun h'' hs => ?_⟩
  have b' : ∀ c o, c ∉ [C] → h₂.get? c = some o → h''.get? c = some o := fun c o hc e => (hs.2 c (by simpa using hc)).trans e
  have nC' : ∀ a o, s.heap.get? a = some o → a ∉ [C] := fun a o e q => by rw [List.mem_singleton.mp q, nC] at e; cases e
  have E₃ := E.toS.trans E₂
  have oC₂ : Off F.g F.env ρ₂ C := by
    obtain ⟨t, rfl, ht⟩ := E₂.pre
    exact oC.grow hoc ht
  refine K .next σ₂ ρ₂ .next h'' tk₂ hp₂ .next (I₂.but (wr := [C]) (fun a ha => by rw [List.mem_singleton.mp ha]; exact oC₂) b') ⟨E₃.pre, fun a o e => ?_, fun a o e k1 k2 k3 => b' a o (nC' a o e) (E₃.kp a o e k1 k2 k3)⟩
  obtain ⟨o', e'⟩ := E₃.live a o e
  exact ⟨o', b' a o' (nC' a o e) e'⟩
end

/-! ## part 15 -/

/-- parameters bound -/
def locOf : List (Str × V) → (Str → Option V) → Str → Option V
  | [], l => l
  | (x, v) :: r, l => locOf r (upd l x v)
inductive BR (ρ : List Addr) : List (Str × V) → List (Str × Value) → Prop
  | nil : BR ρ [] []
  | cons {x : Str} {v : V} {u : Value} {zs : List (Str × V)} {bs : List (Str × Value)} (h : VR ρ v u) (r : BR ρ zs bs) : BR ρ ((x, v) :: zs) ((x, u) :: bs)
theorem BR.loc {ρ : List Addr} {kd : Str → Option NameKind} {zs : List (Str × V)} {bs : List (Str × Value)} (h : BR ρ zs bs) : ∀ {l : Str → Option V} {m : Str → Option Value},
    (∀ x v, l x = some v → kd x = some .local → ∃ u, m x = some u ∧ VR ρ v u) → ∀ x v, locOf zs l x = some v → kd x = some .local → ∃ u, bindL kd bs m x = some u ∧ VR ρ v u := by
  induction h with
  | nil => intro l m h; exact h
  | cons h _ ih =>
    rename_i x v u zs bs _
    intro l m hlm y w e k
    unfold locOf at e
    unfold bindL
    refine ih (fun z w e k => ?_) y w e k
    simp only [upd] at e
    by_cases q : z = x
    · subst q; rw [if_pos rfl] at e; cases e
      rw [if_pos k, if_pos rfl]; exact ⟨u, rfl, h⟩
    · rw [if_neg q] at e
      obtain ⟨u', e1, e2⟩ := hlm z w e k
      refine ⟨u', ?_, e2⟩
      split
      · exact (if_neg q).trans e1
      · exact e1
theorem BR.cell {ρ : List Addr} {kd : Str → Option NameKind} {zs : List (Str × V)} {bs : List (Str × Value)} (h : BR ρ zs bs) : ∀ {l : Str → Option V} {m : Str → Option Value},
    (∀ x v, l x = some v → kd x ≠ some .local → ∃ u, m x = some u ∧ VR ρ v u) → ∀ x v, locOf zs l x = some v → kd x ≠ some .local → ∃ u, bindC kd bs m x = some u ∧ VR ρ v u := by
  induction h with
  | nil => intro l m h; exact h
  | cons h _ ih =>
    rename_i x v u zs bs _
    intro l m hlm y w e k
    unfold locOf at e
    unfold bindC
    refine ih (fun z w e k => ?_) y w e k
    simp only [upd] at e
    by_cases q : z = x
    · subst q; rw [if_pos rfl] at e; cases e
      rw [if_neg k, if_pos rfl]; exact ⟨u, rfl, h⟩
    · rw [if_neg q] at e
      obtain ⟨u', e1, e2⟩ := hlm z w e k
      refine ⟨u', ?_, e2⟩
      split
      · exact e1
      · exact (if_neg q).trans e1
theorem BR.names {ρ : List Addr} {zs : List (Str × V)} {bs : List (Str × Value)} (h : BR ρ zs bs) : ∀ y ∈ bs, ∃ v, (y.1, v) ∈ zs := by
  induction h with
  | nil => intro y hy; cases hy
  | cons h _ ih =>
    intro y hy
    rcases List.mem_cons.mp hy with rfl | hy
    · exact ⟨_, List.mem_cons_self⟩
    · obtain ⟨v, hv⟩ := ih y hy; exact ⟨v, List.mem_cons_of_mem _ hv⟩

/-- the frame of a def of ours -/
def Fm.fn (g : Heap) (prog : Program) (w : World) (A : Around) (f : FnD) (L a : Addr) (cdv : Value) (b n : Nat) (fs : List FnD) : Fm := ⟨g, prog, w, A, envOfC f.name f.scope L a cdv, b, n, fs⟩
/-- what a def's body does, from bound parameters, a heap; k calls deep at most -/
def Meets (fs : List FnD) (k : Nat) (f : FnD) (zs : List (Str × V)) (hp : List O) (P : V → List O → Prop) : Prop :=
  ∀ g prog w A L a cdv n, k ≤ n → AX (Fm.fn g prog w A f L a cdv hp.length n fs) f.body ⟨locOf zs fun _ => none, hp⟩ (fun fl σ' => ∃ v, fl = .ret v ∧ P v σ'.hp)

/-- a frame again, after another frame wrote its own -/
theorem Inv.back {g : Heap} {env env' : Env} {ρ₁ t : List Addr} {b b' : Nat} {σ σ' : St} {h₁ h₃ : Heap} (I₁ : Inv g env ρ₁ b σ h₁) (I₃ : Inv g env' (ρ₁ ++ t) b' σ' h₃) (ht : ∀ a ∈ t, h₁.get? a = none) (k₃ : ∀ a o, h₁.get? a = some o → h₃.get? a = some o) :
    Inv g env (ρ₁ ++ t) b ⟨σ.loc, σ'.hp⟩ h₃ := by
  obtain ⟨m, hm, hr⟩ := I₁.ns
  refine ⟨I₃.keep, ⟨m, ns_at hm fun o e => k₃ _ o e, fun y v e k => ?_⟩, fun y c e => ?_, I₃.objs, I₃.len, I₃.nodup, fun j a hj e => ?_⟩
  · obtain ⟨u, e1, e2⟩ := hr y v e k; exact ⟨u, e1, e2.mono⟩
  · obtain ⟨cv, hc, r⟩ := I₁.cells y c e
    exact ⟨cv, hc.keeps k₃, fun v e => by obtain ⟨u, e1, e2⟩ := r v e; exact ⟨u, e1, e2.mono⟩⟩
  · by_cases h1 : j < ρ₁.length
    · rw [List.getElem?_append_left h1] at e; exact I₁.own j a hj e
    · rw [List.getElem?_append_right (Nat.le_of_not_lt h1)] at e
      have q := ht a (List.mem_of_getElem? e)
      cases z : g.get? a with
      | none => rfl
      | some o => have := I₁.keep _ _ z; rw [q] at this; cases this

structure FnOK (f : FnD) (zs : List (Str × V)) : Prop where
  kind : f.scope.kind = .function
  gen : f.scope.isGenerator = false
  co : f.scope.isCoroutine = false
  names : ∀ y ∈ f.scope.names, f.scope.names.lookup y.1 = some y.2
  kinds : ∀ n, ∀ x ∈ zs, f.scope.names.lookup x.1 = some .local ∨ (f.scope.names.lookup x.1 = some .cell ∧ ((cellsFrom n f.scope.names []).lookup x.1).isSome = true)

theorem call_fn {F : Fm} {σ : St} {P : V → List O → Prop} {f : FnD} {ρ : List Addr} {s : Shared} {Q : Value → Shared → Prop} {a : Addr} {o : Obj} {dV doc pm cdv ct : Value} {an : Option Addr} {args : List Value} {kw : List (Str × Value)} {bs : List (Str × Value)} {zs : List (Str × V)} {k : Nat}
    (hF : F.OK) (I : Inv F.g F.env ρ F.b σ s.heap) (ho : F.g.get? a = some o) (hd : o.data = .func (fnOf f.name f.name f.params f.body f.scope dV .none doc pm an cdv ct)) (hcd : F.g.CodeRec cdv f.name)
    (hb : BindsTo s (fnOf f.name f.name f.params f.body f.scope dV .none doc pm an cdv ct) ⟨args, kw⟩ bs) (rel : BR ρ zs bs) (ok : FnOK f zs) (hn : k + 1 ≤ F.n) (M : Meets F.fs k f zs σ.hp P) (K : KV F σ.loc ρ s Q P) :
    wpAny (model F.prog F.w) F.A (call (.ref a) args kw) Q never s := by
  have hdep := hF.depth
  have hun := hF.units
  refine wpAny_call (codeAny_call_function (by omega) (I.keep _ _ ho) hd ok.co ok.gen rfl (hcd.keeps I.keep) (hb _ _ _ _ ?_))
  refine wpAny_newFunctionEnv_cells ok.kind (fun x hx => ?_) fun env' he s' x => ?_
  · obtain ⟨v, hv⟩ := rel.names x hx
    exact ok.kinds _ _ hv
  subst he
  obtain ⟨h₁, tk, rfl, hk₁⟩ := x.done
  refine ⟨(hF.gl.nolimit.keeps I.keep).keeps hk₁, codeAny_func ?_⟩
  generalize hL : s.heap.objs.size = L at *
  have env_eq : newEnv f.scope L mainGlobals (cellsFrom (L + 1) f.scope.names []) (f.name ++ ".<locals>.") (some a) cdv none builtinsNs = envOfC f.name f.scope L a cdv := rfl
  have fresh : ∀ c, L ≤ c → s.heap.get? c = none := fun c hc => Heap.get?_none_of_le (by rw [hL]; exact hc)
  have gfresh : ∀ c, L ≤ c → F.g.get? c = none := fun c hc => by
    cases e : F.g.get? c with
    | none => rfl
    | some o => have := I.keep c o e; rw [fresh c hc] at this; cases this
  have above : ∀ y c, (cellsFrom (L + 1) f.scope.names []).lookup y = some c → L < c := fun y c e => x.above y c (mem_of_lookup e)
  have OK' : (Fm.fn F.g F.prog F.w (F.A.deeper (envOfC f.name f.scope L a cdv)) f L a cdv σ.hp.length (F.n - 1) F.fs).OK := by
    refine ⟨⟨ok.kind, rfl, rfl, gfresh _ (Nat.le_refl _), fun y c e => gfresh _ (Nat.le_of_lt (above y c e)), fun y z c e1 e2 => name_of_addr x.apart (mem_of_lookup e1) (mem_of_lookup e2)⟩, hF.gl, hF.hh, ?_, ?_⟩
    · show F.A.depth + 1 + (F.n - 1) < _; omega
    · show F.A.units + 3 + 100 * (F.n - 1) + 100 < _; omega
  have I' : Inv F.g (envOfC f.name f.scope L a cdv) ρ σ.hp.length ⟨locOf zs fun _ => none, σ.hp⟩ h₁ := by
    refine ⟨fun c o e => hk₁ c o (I.keep c o e), ⟨_, x.toInCall.ns, rel.loc (l := fun _ => none) (m := fun _ => none) (fun _ _ e => by cases e)⟩, fun y c e => ?_, fun i o e => ?_, I.len, I.nodup, fun i c hi e => ?_⟩
    · refine ⟨_, x.cell y c e, fun v ev => ?_⟩
      refine rel.cell (l := fun _ => none) (m := fun _ => none) (fun _ _ e => by cases e) y v ev ?_
      rcases cellsFrom_mem _ _ _ _ _ (mem_of_lookup e) with q | ⟨_, q⟩
      · cases q
      · have := ok.names _ q
        show f.scope.names.lookup y ≠ _
        dsimp only at this; rw [this]; decide
    · obtain ⟨c, hc, hoc⟩ := I.objs i o e
      exact ⟨c, hc, hoc.at fun ob => hk₁ c ob⟩
    · have := (List.getElem?_eq_some_iff.mp e).1
      have := I.len; omega
  refine wpAny_mono (M F.g F.prog F.w _ L a cdv (F.n - 1) (by omega) ρ { s with heap := h₁, toks := tk } _ OK' I' fun fl σ' ρ' fl' h' tk' hp hf I₃ E₃ => ?_) (fun _ _ y => y) (fun _ _ q => q.elim)
  obtain ⟨v, rfl, hP⟩ := hp
  cases hf with | ret hv =>
  obtain ⟨t, rfl, ht⟩ := E₃.pre
  have ht' : ∀ c ∈ t, s.heap.get? c = none := fun c hc => by
    cases q : s.heap.get? c with
    | none => rfl
    | some o => have := hk₁ c o q; rw [show h₁.get? c = none from ht c hc] at this; cases this
  have k₃ : ∀ c o, s.heap.get? c = some o → h'.get? c = some o := fun c o e => by
    have hlt : c < L := hL ▸ Heap.lt_size e
    refine E₃.kp c o (hk₁ c o e) (Nat.ne_of_lt hlt) (fun y q => ?_) fun i hi q => ?_
    · exact Nat.lt_irrefl _ (Nat.lt_trans hlt (above y c q))
    · have := (List.getElem?_eq_some_iff.mp q).1
      have := I.len
      have hi : σ.hp.length ≤ i := hi
      omega
  exact K v σ'.hp _ _ h' tk' hP hv (I.back I₃ ht' k₃) ⟨⟨t, rfl, ht'⟩, fun c o e => ⟨o, k₃ c o e⟩, fun c o e _ => k₃ c o e⟩

/-! ## part 16 -/

theorem vrs1 {ρ : List Addr} {v : V} {us : List Value} (h : VRs ρ [v] us) : ∃ a, us = [a] ∧ VR ρ v a := by
  cases h with | cons h1 r => cases r; exact ⟨_, rfl, h1⟩
theorem vrs3 {ρ : List Addr} {v w x : V} {us : List Value} (h : VRs ρ [v, w, x] us) : ∃ a b c, us = [a, b, c] ∧ VR ρ v a ∧ VR ρ w b ∧ VR ρ x c := by
  cases h with | cons h1 r => cases r with | cons h2 r => cases r with | cons h3 r => cases r; exact ⟨_, _, _, rfl, h1, h2, h3⟩
theorem br1 {ρ : List Addr} {y : Str} {v : V} {us : List (Str × Value)} (h : BR ρ [(y, v)] us) : ∃ a, us = [(y, a)] ∧ VR ρ v a := by
  cases h with | cons h1 r => cases r; exact ⟨_, rfl, h1⟩
/-- how arguments go to parameters -/
def Binds (f : FnD) (vs : List V) (kw : List (Str × V)) (zs : List (Str × V)) : Prop :=
  ∀ (ρ : List Addr) (s : Shared) (us : List Value) (ks : List (Str × Value)) (dV doc pm : Value) (an : Option Addr) (cdv ct : Value), DvOK s.heap f.dflt dV → VRs ρ vs us → BR ρ kw ks →
    ∃ bs, BindsTo s (fnOf f.name f.name f.params f.body f.scope dV .none doc pm an cdv ct) ⟨us, ks⟩ bs ∧ BR ρ zs bs
theorem Binds.one {f : FnD} {x : Str} {v : V} (hd : f.dflt = []) (h : ∀ (doc pm : Value) (an : Option Addr) (cdv ct u : Value), bindArgs (fnOf f.name f.name f.params f.body f.scope .none .none doc pm an cdv ct) ⟨[u], []⟩ = pure [(x, u)]) : Binds f [v] [] [(x, v)] := by
  intro ρ s us ks dV doc pm an cdv ct hD hv hk
  rw [hd] at hD
  have hD : dV = .none := hD
  subst hD
  cases hk
  obtain ⟨u, rfl, h1⟩ := vrs1 hv
  exact ⟨_, BindsTo.of_eq (h ..), .cons h1 .nil⟩
theorem Binds.two {f : FnD} {x y : Str} {v w : V} (hd : f.dflt = []) (h : ∀ (doc pm : Value) (an : Option Addr) (cdv ct u u' : Value), bindArgs (fnOf f.name f.name f.params f.body f.scope .none .none doc pm an cdv ct) ⟨[u, u'], []⟩ = pure [(x, u), (y, u')]) : Binds f [v, w] [] [(x, v), (y, w)] := by
  intro ρ s us ks dV doc pm an cdv ct hD hv hk
  rw [hd] at hD
  have hD : dV = .none := hD
  subst hD
  cases hk
  obtain ⟨a, b, rfl, h1, h2⟩ := vrs2 hv
  exact ⟨_, BindsTo.of_eq (h ..), .cons h1 (.cons h2 .nil)⟩
theorem Binds.three {f : FnD} {x y z : Str} {v w q : V} (hd : f.dflt = []) (h : ∀ (doc pm : Value) (an : Option Addr) (cdv ct u u' u'' : Value), bindArgs (fnOf f.name f.name f.params f.body f.scope .none .none doc pm an cdv ct) ⟨[u, u', u''], []⟩ = pure [(x, u), (y, u'), (z, u'')]) : Binds f [v, w, q] [] [(x, v), (y, w), (z, q)] := by
  intro ρ s us ks dV doc pm an cdv ct hD hv hk
  rw [hd] at hD
  have hD : dV = .none := hD
  subst hD
  cases hk
  obtain ⟨a, b, c, rfl, h1, h2, h3⟩ := vrs3 hv
  exact ⟨_, BindsTo.of_eq (h ..), .cons h1 (.cons h2 (.cons h3 .nil))⟩
/-- one argument, the second by its default -/
theorem Binds.dflt {f : FnD} {x y : Str} {v : V} {b : Bool} (hd : f.dflt = [.bool b])
    (h : ∀ (dV doc pm : Value) (an : Option Addr) (cdv ct u : Value), ∃ k : Option (Array Value) → Sem (List (Str × Value)), bindArgs (fnOf f.name f.name f.params f.body f.scope dV .none doc pm an cdv ct) ⟨[u], []⟩ = seqItems? dV >>= k ∧ k (some #[.bool b]) = pure [(x, u), (y, .bool b)]) :
    Binds f [v] [] [(x, v), (y, .bool b)] := by
  intro ρ s us ks dV doc pm an cdv ct hD hv hk
  rw [hd] at hD
  obtain ⟨t, o, n, rfl, ho, hs⟩ := hD
  cases hk
  obtain ⟨u, rfl, h1⟩ := vrs1 hv
  obtain ⟨k, e1, e2⟩ := h (.ref t) doc pm an cdv ct _
  exact ⟨_, BindsTo.of_defaults rfl ho hs e1 e2, .cons h1 (.cons (.bool _) .nil)⟩
/-- one argument, the second by its keyword -/
theorem Binds.kw {f : FnD} {x y : Str} {v w : V} {b : Bool} (hd : f.dflt = [.bool b])
    (h : ∀ (dV doc pm : Value) (an : Option Addr) (cdv ct u u' : Value), ∃ k : Option (Array Value) → Sem (List (Str × Value)), bindArgs (fnOf f.name f.name f.params f.body f.scope dV .none doc pm an cdv ct) ⟨[u], [(y, u')]⟩ = seqItems? dV >>= k ∧ k (some #[.bool b]) = pure [(x, u), (y, u')]) :
    Binds f [v] [(y, w)] [(x, v), (y, w)] := by
  intro ρ s us ks dV doc pm an cdv ct hD hv hk
  rw [hd] at hD
  obtain ⟨t, o, n, rfl, ho, hs⟩ := hD
  obtain ⟨u', rfl, hk1⟩ := br1 hk
  obtain ⟨u, rfl, h1⟩ := vrs1 hv
  obtain ⟨k, e1, e2⟩ := h (.ref t) doc pm an cdv ct _ _
  exact ⟨_, BindsTo.of_defaults rfl ho hs e1 e2, .cons h1 (.cons hk1 .nil)⟩

theorem DvOK.keeps {g h : Heap} {vs : List Value} {dV : Value} (x : DvOK g vs dV) (hk : ∀ a o, g.get? a = some o → h.get? a = some o) : DvOK h vs dV := by
  cases vs with
  | nil => exact x
  | cons v vs => obtain ⟨t, o, n, e, ho, hs⟩ := x; exact ⟨t, o, n, e, hk _ _ ho, hs⟩

section
variable {F : Fm} {σ : St}
theorem fname {ρ : List Addr} {s : Shared} {Q : Value → Shared → Prop} {f : FnD} {pos : Pos} (hF : F.OK) (I : Inv F.g F.env ρ F.b σ s.heap) (hx : F.env.kindOf f.name = some .globalImplicit) (hm : f ∈ F.fs)
    (hd : (f.name == ("__debug__" : Str)) = false) (h : ∀ a, FnAt F.g a f → Q (.ref a) s) : wpAny (model F.prog F.w) F.A (eval (.Name f.name pos) F.env) Q never s := by
  obtain ⟨mg, mb, hg, hb, _, hfs⟩ := hF.gl.ex
  obtain ⟨a, h1, h2⟩ := hfs f hm
  have g1 : s.heap.Ns F.env.globals mg := by rw [hF.env.globals]; exact ns_at hg fun o => I.keep _ o
  exact Name_function_global hF.env.kind hx (loadGlobal_global g1 h1 (h a h2)) hd

/-- a def of ours called -/
theorem AE.callF {P : V → List O → Prop} {k : Nat} (f : FnD) {np pos : Pos} {e : Expr} {es : List Expr} (hm : f ∈ F.fs) (hx : F.env.kindOf f.name = some .globalImplicit) (hn : k + 1 ≤ F.n)
    (h : AEs F (e :: es) σ (fun vs hp => ∃ zs, Binds f vs [] zs ∧ FnOK f zs ∧ Meets F.fs k f zs hp P))
    (hs : starEach (e :: es) F.env = (false, eval e F.env) :: starEach es F.env := by rfl) (hd : (f.name == ("__debug__" : Str)) = false := by decide) :
    AE F (.Call (.Name f.name np) (e :: es) [] pos) σ P := by
  intro ρ s Q hF I K
  refine wpAny_Call_ofName (fname hF I hx hm hd fun a hfn => ?_)
  obtain ⟨o, dV, doc, pm, an, cdv, ct, ho, hod, hcd, hdv⟩ := hfn
  refine Calls.callWith_function (a := a) (o := o) (fd := fnOf f.name f.name f.params f.body f.scope dV .none doc pm an cdv ct) (h.args hF I ⟨e, es, rfl, hs⟩ fun vs hp ρ₁ us h₁ tk₁ hv hus I₁ E₁ => ?_)
  obtain ⟨zs, hb, ok, M⟩ := hv
  obtain ⟨bs, hbs, rel⟩ := hb ρ₁ { s with heap := h₁, toks := tk₁ } us [] dV doc pm an cdv ct (hdv.keeps I₁.keep) hus .nil
  exact ⟨⟨I₁.keep _ _ ho, hod⟩, call_fn (σ := ⟨σ.loc, hp⟩) (s := { s with heap := h₁, toks := tk₁ }) hF I₁ ho hod hcd hbs rel ok hn M (K.after E₁)⟩
/-- a value-position and of comparisons that give a bool -/
theorem AE.andB {P : V → List O → Prop} {e e' : Expr} {pos : Pos} (h : AE F e σ (fun v hp => ∃ c, v = .bool c ∧ if c then AE F e' ⟨σ.loc, hp⟩ P else P (.bool false) hp)) : AE F (.BoolOp .And [e, e'] pos) σ P := by
  intro ρ s Q hF I K
  refine PyProof.Rows.BoolOp_and (h ρ s _ hF I fun v hp ρ₁ u h₁ tk₁ hv hu I₁ E₁ => ?_)
  obtain ⟨c, rfl, hv⟩ := hv
  cases hu
  refine wpAny_truthy_bool ?_
  cases c with
  | true => exact PyProof.Rows.BoolOp_one (hv ρ₁ { s with heap := h₁, toks := tk₁ } Q hF I₁ (K.after E₁))
  | false => exact K _ hp ρ₁ _ h₁ tk₁ hv (.bool _) I₁ E₁
end

/-! ## part 17 -/
theorem itT {a b : Prop} (h : a) : if true = true then a else b := by rw [if_pos rfl]; exact h
theorem itF {a b : Prop} (h : b) : if false = true then a else b := by rw [if_neg (by decide)]; exact h
theorem ATs_nil {F : Fm} {σ : St} {P : Bool → List O → Prop} (h : P true σ.hp) : ATs F [] σ P := h
theorem ATs_one {F : Fm} {c : Expr} {σ : St} {P : Bool → List O → Prop} (h : AT F c σ P) : ATs F [c] σ P := h
theorem upd_same {l : Str → Option V} {x : Str} {v : V} : upd l x v x = some v := if_pos rfl
theorem upd_ne {l : Str → Option V} {x y : Str} {v : V} (h : (y == x) = false) : upd l x v y = l y := if_neg (by simpa using h)
theorem upd_other {l : Str → Option V} {x y : Str} {v w : V} (h : (y == x) = false) (k : l y = some w) : upd l x v y = some w := (if_neg (by simpa using h)).trans k
/-- the defs of the text -/
def fnd (n : Nat) (dflt : List Value) : FnD :=
  match PySem.Challenge.pw_aq6046_01.main.body[n]? with
  | some (.FunctionDef name params body _ _ _ scope _ _ _) => ⟨name, params, body, scope, dflt⟩
  | _ => ⟨"", ⟨[], [], none, [], [], none, []⟩, [], PySem.Challenge.pw_aq6046_01.main.scope, []⟩
def fU : FnD := fnd 1 []
def fG : FnD := fnd 2 []
def fD : FnD := fnd 3 []
def fP : FnD := fnd 4 []
def fB : FnD := fnd 5 [.bool true]
def fN : FnD := fnd 7 []
def fR : FnD := fnd 8 []
def fW : FnD := fnd 9 []
def fX : FnD := fnd 10 []
def fE : FnD := fnd 11 []
def fL : FnD := fnd 12 []
def fns : List FnD := [fU, fG, fD, fP, fB, fN, fR, fW, fX, fE]

/-- a letter -/
def chr (b : Bool) : Str := if b then Str.ofString "d" else Str.ofString "i"
def strV (b : Bool) : V := .str (chr b)
def rowV (l : List Int) : O := .lst (l.map V.int)

/-! mirrors of loops: a step that may fail, over a list, over numbers -/
def walkO {α S : Type} (cs : List α) (f : Nat → α → S → Option S) (s : S) : Nat → Option S
  | 0 => some s
  | i + 1 => match walkO cs f s i, cs[i]? with
    | some x, some c => f i c x
    | _, _ => none
theorem walkO_succ {α S : Type} {cs : List α} {f : Nat → α → S → Option S} {s x : S} {c : α} {i : Nat} (h : walkO cs f s i = some x) (hc : cs[i]? = some c) : walkO cs f s (i + 1) = f i c x := by
  show (match walkO cs f s i, cs[i]? with | some x, some c => f i c x | _, _ => none) = _
  rw [h, hc]
theorem walkO_pre {α S : Type} {cs : List α} {f : Nat → α → S → Option S} {s : S} : ∀ {i : Nat} {y : S}, walkO cs f s (i + 1) = some y → ∃ x c, walkO cs f s i = some x ∧ cs[i]? = some c ∧ f i c x = some y := by
  intro i y h
  have h : (match walkO cs f s i, cs[i]? with | some x, some c => f i c x | _, _ => none) = some y := h
  split at h
  · exact ⟨_, _, by assumption, by assumption, h⟩
  · cases h
theorem walkO_le {α S : Type} {cs : List α} {f : Nat → α → S → Option S} {s y : S} : ∀ {n : Nat}, walkO cs f s n = some y → ∀ i ≤ n, ∃ x, walkO cs f s i = some x := by
  intro n
  induction n generalizing y with
  | zero => intro h i hi; rw [Nat.le_zero.mp hi]; exact ⟨y, h⟩
  | succ n ih =>
    intro h i hi
    by_cases q : i = n + 1
    · subst q; exact ⟨y, h⟩
    · obtain ⟨x, _, hx, _⟩ := walkO_pre h
      exact ih hx i (by omega)
/-- one step of a loop that is known to end -/
theorem walkO_step {α S : Type} {cs : List α} {f : Nat → α → S → Option S} {s y x : S} {c : α} {n i : Nat} (h : walkO cs f s n = some y) (hi : i < n) (hx : walkO cs f s i = some x) (hc : cs[i]? = some c) : ∃ z, f i c x = some z ∧ walkO cs f s (i + 1) = some z := by
  obtain ⟨z, hz⟩ := walkO_le h (i + 1) hi
  exact ⟨z, (walkO_succ hx hc).symm.trans hz, hz⟩
def loopO {S : Type} (f : Nat → S → Option S) (s : S) : Nat → Option S
  | 0 => some s
  | i + 1 => match loopO f s i with
    | some x => f i x
    | none => none
theorem loopO_succ {S : Type} {f : Nat → S → Option S} {s x : S} {i : Nat} (h : loopO f s i = some x) : loopO f s (i + 1) = f i x := by
  show (match loopO f s i with | some x => f i x | none => none) = _
  rw [h]
theorem loopO_le {S : Type} {f : Nat → S → Option S} {s y : S} : ∀ {n : Nat}, loopO f s n = some y → ∀ i ≤ n, ∃ x, loopO f s i = some x := by
  intro n
  induction n generalizing y with
  | zero => intro h i hi; rw [Nat.le_zero.mp hi]; exact ⟨y, h⟩
  | succ n ih =>
    intro h i hi
    by_cases q : i = n + 1
    · subst q; exact ⟨y, h⟩
    · have h : (match loopO f s n with | some x => f n x | none => none) = some y := h
      split at h
      · exact ih (by assumption) i (by omega)
      · cases h
theorem loopO_step {S : Type} {f : Nat → S → Option S} {s y x : S} {n i : Nat} (h : loopO f s n = some y) (hi : i < n) (hx : loopO f s i = some x) : ∃ z, f i x = some z ∧ loopO f s (i + 1) = some z := by
  obtain ⟨z, hz⟩ := loopO_le h (i + 1) hi
  exact ⟨z, (loopO_succ hx).symm.trans hz, hz⟩

/-! degree_sequence -/
def degStep (i : Nat) (c : Bool) (st : Int × List Int) : Option (Int × List Int) := if c then some (st.1 - 1, st.2 ++ [st.1 - 1 + i]) else some (st.1, st.2 ++ [st.1])
def cntD (cs : List Bool) : Int := ((cs.filter id).length : Nat)
def degSeq (cs : List Bool) : Option (Int × List Int) := walkO cs degStep (cntD cs, []) cs.length

theorem strs_eq (cs : List Bool) : cs.map strV = (cs.map chr).map V.str := by rw [List.map_map]; rfl
theorem count_eq (cs : List Bool) : Spec.countIn (PyData.str (Str.ofString "d")) ((cs.map chr).map PyData.str) = cntD cs := by
  induction cs with
  | nil => rfl
  | cons c cs ih =>
    rw [List.map_cons, List.map_cons]
    show (if Spec.same (PyData.str (chr c)) (PyData.str (Str.ofString "d")) then (1 : Int) else 0) + Spec.countIn (PyData.str (Str.ofString "d")) ((cs.map chr).map PyData.str) = _
    rw [ih]
    cases c with
    | true =>
      have : Spec.same (PyData.str (chr true)) (PyData.str (Str.ofString "d")) = true := by simp [Spec.same, chr]
      rw [if_pos this]; simp [cntD]; omega
    | false =>
      have : ¬ Spec.same (PyData.str (chr false)) (PyData.str (Str.ofString "d")) = true := by
        simp [Spec.same, chr]; decide
      rw [if_neg this]; simp [cntD]
theorem isD (c : Bool) : ((chr c).cps.toList == (Str.ofString "d").cps.toList) = c := by cases c <;> decide

theorem AV.eqD {F : Fm} {σ : St} {P : V → List O → Prop} {c : Bool} (h : P (.bool c) σ.hp) : AV F [strV c, .str (Str.ofString "d")] (cop .Eq) σ P :=
  AV.eqS (by rw [isD]; exact h)

/-! ## part 18 -/
section
local macro_rules | `(tactic| walk_at "lk1") => `(tactic| first | with_reducible assumption | with_reducible exact upd_same | ((with_reducible refine (upd_ne (by decide)).trans ?_); walk_at "lk1") | ((with_reducible refine (freeLoc_eq (by with_unfolding_all rfl)).trans ?_); walk_at "lk1"))
local macro_rules | `(tactic| walk_at "lk") => `(tactic| ((try dsimp only); walk_at "lk1"))
local macro_rules | `(tactic| walk_at "d") => `(tactic| try dsimp only [thenX, turnX, locOf])
local macro_rules | `(tactic| walk_at "st1") => `(tactic| (first
  | with_reducible refine AX.cons ?_
  | with_reducible refine AX.nil ?_
  | (with_reducible (show AE _ _ _ _); first | with_reducible refine AE.name (by walk_at "lk") ?_ (by with_unfolding_all rfl) (by decide) | with_reducible refine AE.cell (by walk_at "lk") ?_ (by with_unfolding_all rfl) (by first | with_unfolding_all rfl | with_unfolding_all exact looked (by assumption) (Or.inl rfl) | with_unfolding_all exact looked (by assumption) (Or.inr rfl)) (by decide) | with_reducible refine AE.int ?_ | with_reducible refine AE.flt ?_ | with_reducible refine AE.str ?_ | with_reducible refine AE.bool ?_ | with_reducible refine AE.binop ?_ | with_reducible refine AE.item ?_ | with_reducible refine AE.cmp ?_ (by with_unfolding_all rfl) | with_reducible refine AE.neg ⟨_, rfl, ?_⟩ | with_reducible refine AE.cLen (by with_unfolding_all rfl) ?_ (by with_unfolding_all rfl) (by with_unfolding_all rfl) | with_reducible refine AE.cSum (by with_unfolding_all rfl) ?_ (by with_unfolding_all rfl) (by with_unfolding_all rfl) | with_reducible refine AE.cAbs (by with_unfolding_all rfl) ?_ (by with_unfolding_all rfl) (by with_unfolding_all rfl) | with_reducible refine AE.cMax (by with_unfolding_all rfl) ?_ (by with_unfolding_all rfl) (by with_unfolding_all rfl) | with_reducible refine AE.cFloat (by with_unfolding_all rfl) ?_ (by with_unfolding_all rfl) (by with_unfolding_all rfl) | with_reducible refine AE.cList (by with_unfolding_all rfl) ?_ (by with_unfolding_all rfl) (by with_unfolding_all rfl) | with_reducible refine AE.iStr (by with_unfolding_all rfl) (by with_unfolding_all rfl) ?_ (by with_unfolding_all rfl) (by with_unfolding_all rfl) | with_reducible refine AE.iTup (by with_unfolding_all rfl) (by with_unfolding_all rfl) ?_ (by with_unfolding_all rfl) (by with_unfolding_all rfl) | with_reducible refine AE.iInt (by with_unfolding_all rfl) (by with_unfolding_all rfl) ?_ (by with_unfolding_all rfl) (by with_unfolding_all rfl) | with_reducible refine AE.iList (by with_unfolding_all rfl) (by with_unfolding_all rfl) ?_ (by with_unfolding_all rfl) (by with_unfolding_all rfl) | with_reducible refine AE.mCount ?_ (by with_unfolding_all rfl) (by with_unfolding_all rfl) (by with_unfolding_all rfl) (by with_unfolding_all rfl) (by with_unfolding_all rfl) | with_reducible refine AE.mAppend ?_ (by with_unfolding_all rfl) (by with_unfolding_all rfl) (by with_unfolding_all rfl) (by with_unfolding_all rfl) (by with_unfolding_all rfl) | with_reducible refine AE.mExtend ?_ (by with_unfolding_all rfl) (by with_unfolding_all rfl) (by with_unfolding_all rfl) (by with_unfolding_all rfl) (by with_unfolding_all rfl) | with_reducible refine AE.mPop ?_ (by with_unfolding_all rfl) (by with_unfolding_all rfl) (by with_unfolding_all rfl) (by with_unfolding_all rfl) (by with_unfolding_all rfl) | with_reducible refine AE.mIndex ?_ (by with_unfolding_all rfl) (by with_unfolding_all rfl) (by with_unfolding_all rfl) (by with_unfolding_all rfl) (by with_unfolding_all rfl) | with_reducible refine AE.ifexp ?_)
  | (with_reducible (show AN _ _ _ _ _); first | with_reducible refine AN.loc ?_ (by with_unfolding_all rfl) (by with_unfolding_all rfl) | with_reducible refine AN.cell ?_ (by with_unfolding_all rfl) (by with_unfolding_all rfl))
  | (with_reducible (show AEs _ _ _ _); first | with_reducible refine AEs.cons ?_ (by with_unfolding_all rfl) | with_reducible refine AEs.nil ?_)
  | (with_reducible (show AT _ _ _ _); first | with_reducible refine AT.cmp ?_ (by with_unfolding_all rfl) | with_reducible refine AT.not ?_ | with_reducible refine AT.andNil ?_ | with_reducible refine AT.and ?_ | with_reducible refine AT.orNil ?_ | with_reducible refine AT.or ?_ | with_reducible refine AT.val ?_ (by with_unfolding_all rfl))
  | (with_reducible (show AV _ _ _ _ _); first | with_reducible refine AV.isiStr_str ?_ | with_reducible refine AV.isiInt_str ?_ | with_reducible refine AV.isiInt_tuple ?_ | with_reducible refine AV.isiInt_int ?_ | with_reducible refine AV.isiStr_list ?_ | with_reducible refine AV.absF ?_ | with_reducible refine AV.floatF ?_ | with_reducible refine AV.fadd ?_ | with_reducible refine AV.fmul ?_ | with_reducible refine AV.ltFI ?_ | with_reducible refine AV.add ?_ | with_reducible refine AV.sub ?_ | with_reducible refine AV.eqI ?_ | with_reducible refine AV.neI ?_ | with_reducible refine AV.ltI ?_ | with_reducible refine AV.gtI ?_ | with_reducible refine AV.eqD ?_ | with_reducible refine AV.eqS ?_ | with_reducible refine AV.iadd ?_ | with_reducible refine AV.isub ?_)
  | (with_reducible (show AG _ _ _ _ _); first | with_reducible refine AG.name ?_)
  | (with_reducible (show AS _ _ _ _); first | with_reducible refine AS.ret ?_ | with_reducible refine AS.ite ?_ | with_reducible refine AS.brk ?_ | with_reducible refine AS.assign ?_ (by with_unfolding_all rfl) | with_reducible refine AS.aug (by walk_at "lk") ?_ (by with_unfolding_all rfl) | with_reducible refine AS.expr ?_ (by with_unfolding_all rfl) (by with_unfolding_all rfl))
  | (with_reducible (show AB _ _ _ _); first | with_reducible refine AB.bool ?_)
  | with_reducible refine itT ?_
  | with_reducible refine itF ?_
  | with_reducible refine ATs_nil ?_
  | with_reducible refine ⟨_, rfl, ?_⟩))
local macro_rules | `(tactic| walk_at "st") => `(tactic| (walk_at "st1"; walk_at "d"))
local macro_rules | `(tactic| walk_at "go") => `(tactic| repeat (first
  | dsimp only [thenX, turnX, locOf]
  | with_reducible refine AX.cons ?_
  | with_reducible refine AX.nil ?_
  | (with_reducible (show AE _ _ _ _); first | with_reducible refine AE.name (by walk_at "lk") ?_ (by with_unfolding_all rfl) (by decide) | with_reducible refine AE.cell (by walk_at "lk") ?_ (by with_unfolding_all rfl) (by first | with_unfolding_all rfl | with_unfolding_all exact looked (by assumption) (Or.inl rfl) | with_unfolding_all exact looked (by assumption) (Or.inr rfl)) (by decide) | with_reducible refine AE.int ?_ | with_reducible refine AE.flt ?_ | with_reducible refine AE.str ?_ | with_reducible refine AE.bool ?_ | with_reducible refine AE.binop ?_ | with_reducible refine AE.item ?_ | with_reducible refine AE.cmp ?_ (by with_unfolding_all rfl) | with_reducible refine AE.neg ⟨_, rfl, ?_⟩ | with_reducible refine AE.cLen (by with_unfolding_all rfl) ?_ (by with_unfolding_all rfl) (by with_unfolding_all rfl) | with_reducible refine AE.cSum (by with_unfolding_all rfl) ?_ (by with_unfolding_all rfl) (by with_unfolding_all rfl) | with_reducible refine AE.cAbs (by with_unfolding_all rfl) ?_ (by with_unfolding_all rfl) (by with_unfolding_all rfl) | with_reducible refine AE.cMax (by with_unfolding_all rfl) ?_ (by with_unfolding_all rfl) (by with_unfolding_all rfl) | with_reducible refine AE.cFloat (by with_unfolding_all rfl) ?_ (by with_unfolding_all rfl) (by with_unfolding_all rfl) | with_reducible refine AE.cList (by with_unfolding_all rfl) ?_ (by with_unfolding_all rfl) (by with_unfolding_all rfl) | with_reducible refine AE.iStr (by with_unfolding_all rfl) (by with_unfolding_all rfl) ?_ (by with_unfolding_all rfl) (by with_unfolding_all rfl) | with_reducible refine AE.iTup (by with_unfolding_all rfl) (by with_unfolding_all rfl) ?_ (by with_unfolding_all rfl) (by with_unfolding_all rfl) | with_reducible refine AE.iInt (by with_unfolding_all rfl) (by with_unfolding_all rfl) ?_ (by with_unfolding_all rfl) (by with_unfolding_all rfl) | with_reducible refine AE.iList (by with_unfolding_all rfl) (by with_unfolding_all rfl) ?_ (by with_unfolding_all rfl) (by with_unfolding_all rfl) | with_reducible refine AE.mCount ?_ (by with_unfolding_all rfl) (by with_unfolding_all rfl) (by with_unfolding_all rfl) (by with_unfolding_all rfl) (by with_unfolding_all rfl) | with_reducible refine AE.mAppend ?_ (by with_unfolding_all rfl) (by with_unfolding_all rfl) (by with_unfolding_all rfl) (by with_unfolding_all rfl) (by with_unfolding_all rfl) | with_reducible refine AE.mExtend ?_ (by with_unfolding_all rfl) (by with_unfolding_all rfl) (by with_unfolding_all rfl) (by with_unfolding_all rfl) (by with_unfolding_all rfl) | with_reducible refine AE.mPop ?_ (by with_unfolding_all rfl) (by with_unfolding_all rfl) (by with_unfolding_all rfl) (by with_unfolding_all rfl) (by with_unfolding_all rfl) | with_reducible refine AE.mIndex ?_ (by with_unfolding_all rfl) (by with_unfolding_all rfl) (by with_unfolding_all rfl) (by with_unfolding_all rfl) (by with_unfolding_all rfl) | with_reducible refine AE.ifexp ?_)
  | (with_reducible (show AN _ _ _ _ _); first | with_reducible refine AN.loc ?_ (by with_unfolding_all rfl) (by with_unfolding_all rfl) | with_reducible refine AN.cell ?_ (by with_unfolding_all rfl) (by with_unfolding_all rfl))
  | (with_reducible (show AEs _ _ _ _); first | with_reducible refine AEs.cons ?_ (by with_unfolding_all rfl) | with_reducible refine AEs.nil ?_)
  | (with_reducible (show AT _ _ _ _); first | with_reducible refine AT.cmp ?_ (by with_unfolding_all rfl) | with_reducible refine AT.not ?_ | with_reducible refine AT.andNil ?_ | with_reducible refine AT.and ?_ | with_reducible refine AT.orNil ?_ | with_reducible refine AT.or ?_ | with_reducible refine AT.val ?_ (by with_unfolding_all rfl))
  | (with_reducible (show AV _ _ _ _ _); first | with_reducible refine AV.isiStr_str ?_ | with_reducible refine AV.isiInt_str ?_ | with_reducible refine AV.isiInt_tuple ?_ | with_reducible refine AV.isiInt_int ?_ | with_reducible refine AV.isiStr_list ?_ | with_reducible refine AV.absF ?_ | with_reducible refine AV.floatF ?_ | with_reducible refine AV.fadd ?_ | with_reducible refine AV.fmul ?_ | with_reducible refine AV.ltFI ?_ | with_reducible refine AV.add ?_ | with_reducible refine AV.sub ?_ | with_reducible refine AV.eqI ?_ | with_reducible refine AV.neI ?_ | with_reducible refine AV.ltI ?_ | with_reducible refine AV.gtI ?_ | with_reducible refine AV.eqD ?_ | with_reducible refine AV.eqS ?_ | with_reducible refine AV.iadd ?_ | with_reducible refine AV.isub ?_)
  | (with_reducible (show AG _ _ _ _ _); first | with_reducible refine AG.name ?_)
  | (with_reducible (show AS _ _ _ _); first | with_reducible refine AS.ret ?_ | with_reducible refine AS.ite ?_ | with_reducible refine AS.brk ?_ | with_reducible refine AS.assign ?_ (by with_unfolding_all rfl) | with_reducible refine AS.aug (by walk_at "lk") ?_ (by with_unfolding_all rfl) | with_reducible refine AS.expr ?_ (by with_unfolding_all rfl) (by with_unfolding_all rfl))
  | (with_reducible (show AB _ _ _ _); first | with_reducible refine AB.bool ?_)
  | with_reducible refine itT ?_
  | with_reducible refine itF ?_
  | with_reducible refine ATs_nil ?_
  | with_reducible refine ⟨_, rfl, ?_⟩))
theorem hp_new {hp : List O} {o : O} : (hp ++ [o])[hp.length]? = some o := by simp
theorem hp_old {hp t : List O} {o : O} {i : Nat} (h : hp[i]? = some o) : (hp ++ t)[i]? = some o := by
  rw [List.getElem?_append_left (List.getElem?_eq_some_iff.mp h).1]; exact h
theorem hp_set {hp : List O} {o o' : O} : (hp ++ [o]).set hp.length o' = hp ++ [o'] := by simp
theorem row_snoc (l : List Int) (x : Int) : O.lst (l.map V.int ++ [V.int x]) = rowV (l ++ [x]) := by simp [rowV]

theorem okG {v : V} : FnOK fG [(Str.ofString "creation_sequence", v)] := ⟨rfl, rfl, rfl, by decide +kernel, fun n x hx => by rw [List.mem_singleton.mp hx]; exact .inl rfl⟩
theorem bindG {v : V} : Binds fG [v] [] [(Str.ofString "creation_sequence", v)] := Binds.one rfl fun _ _ _ _ _ _ => rfl

theorem degs_len {cs : List Bool} {st : Int × List Int} : ∀ {i : Nat} {y : Int × List Int}, walkO cs degStep st i = some y → y.2.length = st.2.length + i := by
  intro i
  induction i with
  | zero => intro y h; cases h; rfl
  | succ i ih =>
    intro y h
    obtain ⟨x, c, h1, h2, h3⟩ := walkO_pre h
    have := ih h1
    unfold degStep at h3
    split at h3 <;> cases h3 <;> simp [this] <;> omega

theorem meetG {r : Nat} {cs : List Bool} {hp : List O} {P : V → List O → Prop} {y : Int × List Int} (h0 : hp[r]? = some (.lst (cs.map strV))) (hz : cs.length ≤ 7) (hy : degSeq cs = some y) (h : P (.ref hp.length) (hp ++ [rowV y.2])) :
    Meets fns 0 fG [(Str.ofString "creation_sequence", .ref r)] hp P := by
  intro g prog w A L a cdv n hn
  have hr : r < hp.length := (List.getElem?_eq_some_iff.mp h0).1
  refine AX.cons ?_
  walk_at "go"
  refine AE.list (AEs.nil ⟨Nat.zero_le _, ?_⟩)
  walk_at "go"
  refine AE.meth (id := "list.count") PySem.F.slot_list_count PySem.F.type_list_count ?_
  walk_at "st"
  refine ⟨⟨_, _, rfl, hp_old h0⟩, ?_⟩
  walk_at "go"
  refine AV.countS (ss := cs.map chr) (by rw [← strs_eq]; exact hp_old h0) ?_
  rw [count_eq]
  walk_at "go"
  refine AS.forEnum rfl ?_
  walk_at "go"
  refine ⟨_, _, rfl, hp_old h0, hr, fun i σ' => ∃ x, walkO cs degStep (cntD cs, []) i = some x ∧ σ'.loc (Str.ofString "seq") = some (.ref hp.length) ∧ σ'.loc (Str.ofString "rd") = some (.int x.1) ∧ σ'.hp = hp ++ [rowV x.2],
    ⟨_, rfl, by walk_at "lk", by walk_at "lk", rfl⟩, ?_, ?_⟩
  · rintro i ⟨loc, hp'⟩ v hv ⟨x, hx, hseq, hrd, rfl⟩
    dsimp only at hseq hrd ⊢
    rw [List.getElem?_map] at hv
    cases hc : cs[i]? with
    | none => rw [hc] at hv; cases hv
    | some c =>
      rw [hc] at hv; cases hv
      have hi : i < cs.length := (List.getElem?_eq_some_iff.mp hc).1
      obtain ⟨z, hz1, hz2⟩ := walkO_step hy hi hx hc
      walk_at "go"
      unfold degStep at hz1
      have hl := degs_len hx
      have hzz : (List.map V.int x.2).length ≤ 4096 := by simp [hl]; omega
      cases c with
      | true =>
        rw [if_pos rfl] at hz1 ⊢
        walk_at "go"
        refine AE.meth (id := "list.append") PySem.F.slot_list_append PySem.F.type_list_append ?_
        walk_at "st"
        refine ⟨⟨_, _, rfl, hp_new⟩, ?_⟩
        walk_at "go"
        refine AV.append hp_new (Nat.le_refl _) hzz ?_
        rw [hp_set, row_snoc]
        walk_at "go"
        cases hz1
        exact ⟨_, hz2, by walk_at "lk", by walk_at "lk", rfl⟩
      | false =>
        rw [if_neg (by decide)] at hz1 ⊢
        walk_at "go"
        refine AE.meth (id := "list.append") PySem.F.slot_list_append PySem.F.type_list_append ?_
        walk_at "st"
        refine ⟨⟨_, _, rfl, hp_new⟩, ?_⟩
        walk_at "go"
        refine AV.append hp_new (Nat.le_refl _) hzz ?_
        rw [hp_set, row_snoc]
        walk_at "go"
        cases hz1
        exact ⟨_, hz2, by walk_at "lk", by walk_at "lk", rfl⟩
  · rintro ⟨loc, hp'⟩ ⟨x, hx, hseq, hrd, rfl⟩
    rw [List.length_map] at hx
    have : x = y := Option.some.inj (hx.symm.trans hy)
    subst this
    dsimp only at hseq hrd ⊢
    walk_at "go"
    exact h


end

/-! ## part 19 -/
section
local macro_rules | `(tactic| walk_at "lk1") => `(tactic| first | with_reducible assumption | with_reducible exact upd_same | ((with_reducible refine (upd_ne (by decide)).trans ?_); walk_at "lk1") | ((with_reducible refine (freeLoc_eq (by with_unfolding_all rfl)).trans ?_); walk_at "lk1"))
local macro_rules | `(tactic| walk_at "lk") => `(tactic| ((try dsimp only); walk_at "lk1"))
local macro_rules | `(tactic| walk_at "d") => `(tactic| try dsimp only [thenX, turnX, locOf])
local macro_rules | `(tactic| walk_at "st1") => `(tactic| (first
  | with_reducible refine AX.cons ?_
  | with_reducible refine AX.nil ?_
  | (with_reducible (show AE _ _ _ _); first | with_reducible refine AE.name (by walk_at "lk") ?_ (by with_unfolding_all rfl) (by decide) | with_reducible refine AE.cell (by walk_at "lk") ?_ (by with_unfolding_all rfl) (by first | with_unfolding_all rfl | with_unfolding_all exact looked (by assumption) (Or.inl rfl) | with_unfolding_all exact looked (by assumption) (Or.inr rfl)) (by decide) | with_reducible refine AE.int ?_ | with_reducible refine AE.flt ?_ | with_reducible refine AE.str ?_ | with_reducible refine AE.bool ?_ | with_reducible refine AE.binop ?_ | with_reducible refine AE.item ?_ | with_reducible refine AE.cmp ?_ (by with_unfolding_all rfl) | with_reducible refine AE.neg ⟨_, rfl, ?_⟩ | with_reducible refine AE.cLen (by with_unfolding_all rfl) ?_ (by with_unfolding_all rfl) (by with_unfolding_all rfl) | with_reducible refine AE.cSum (by with_unfolding_all rfl) ?_ (by with_unfolding_all rfl) (by with_unfolding_all rfl) | with_reducible refine AE.cAbs (by with_unfolding_all rfl) ?_ (by with_unfolding_all rfl) (by with_unfolding_all rfl) | with_reducible refine AE.cMax (by with_unfolding_all rfl) ?_ (by with_unfolding_all rfl) (by with_unfolding_all rfl) | with_reducible refine AE.cFloat (by with_unfolding_all rfl) ?_ (by with_unfolding_all rfl) (by with_unfolding_all rfl) | with_reducible refine AE.cList (by with_unfolding_all rfl) ?_ (by with_unfolding_all rfl) (by with_unfolding_all rfl) | with_reducible refine AE.iStr (by with_unfolding_all rfl) (by with_unfolding_all rfl) ?_ (by with_unfolding_all rfl) (by with_unfolding_all rfl) | with_reducible refine AE.iTup (by with_unfolding_all rfl) (by with_unfolding_all rfl) ?_ (by with_unfolding_all rfl) (by with_unfolding_all rfl) | with_reducible refine AE.iInt (by with_unfolding_all rfl) (by with_unfolding_all rfl) ?_ (by with_unfolding_all rfl) (by with_unfolding_all rfl) | with_reducible refine AE.iList (by with_unfolding_all rfl) (by with_unfolding_all rfl) ?_ (by with_unfolding_all rfl) (by with_unfolding_all rfl) | with_reducible refine AE.mCount ?_ (by with_unfolding_all rfl) (by with_unfolding_all rfl) (by with_unfolding_all rfl) (by with_unfolding_all rfl) (by with_unfolding_all rfl) | with_reducible refine AE.mAppend ?_ (by with_unfolding_all rfl) (by with_unfolding_all rfl) (by with_unfolding_all rfl) (by with_unfolding_all rfl) (by with_unfolding_all rfl) | with_reducible refine AE.mExtend ?_ (by with_unfolding_all rfl) (by with_unfolding_all rfl) (by with_unfolding_all rfl) (by with_unfolding_all rfl) (by with_unfolding_all rfl) | with_reducible refine AE.mPop ?_ (by with_unfolding_all rfl) (by with_unfolding_all rfl) (by with_unfolding_all rfl) (by with_unfolding_all rfl) (by with_unfolding_all rfl) | with_reducible refine AE.mIndex ?_ (by with_unfolding_all rfl) (by with_unfolding_all rfl) (by with_unfolding_all rfl) (by with_unfolding_all rfl) (by with_unfolding_all rfl) | with_reducible refine AE.ifexp ?_)
  | (with_reducible (show AN _ _ _ _ _); first | with_reducible refine AN.loc ?_ (by with_unfolding_all rfl) (by with_unfolding_all rfl) | with_reducible refine AN.cell ?_ (by with_unfolding_all rfl) (by with_unfolding_all rfl))
  | (with_reducible (show AEs _ _ _ _); first | with_reducible refine AEs.cons ?_ (by with_unfolding_all rfl) | with_reducible refine AEs.nil ?_)
  | (with_reducible (show AT _ _ _ _); first | with_reducible refine AT.cmp ?_ (by with_unfolding_all rfl) | with_reducible refine AT.not ?_ | with_reducible refine AT.andNil ?_ | with_reducible refine AT.and ?_ | with_reducible refine AT.orNil ?_ | with_reducible refine AT.or ?_ | with_reducible refine AT.val ?_ (by with_unfolding_all rfl))
  | (with_reducible (show AV _ _ _ _ _); first | with_reducible refine AV.isiStr_str ?_ | with_reducible refine AV.isiInt_str ?_ | with_reducible refine AV.isiInt_tuple ?_ | with_reducible refine AV.isiInt_int ?_ | with_reducible refine AV.isiStr_list ?_ | with_reducible refine AV.absF ?_ | with_reducible refine AV.floatF ?_ | with_reducible refine AV.fadd ?_ | with_reducible refine AV.fmul ?_ | with_reducible refine AV.ltFI ?_ | with_reducible refine AV.add ?_ | with_reducible refine AV.sub ?_ | with_reducible refine AV.eqI ?_ | with_reducible refine AV.neI ?_ | with_reducible refine AV.ltI ?_ | with_reducible refine AV.gtI ?_ | with_reducible refine AV.eqD ?_ | with_reducible refine AV.eqS ?_ | with_reducible refine AV.iadd ?_ | with_reducible refine AV.isub ?_)
  | (with_reducible (show AG _ _ _ _ _); first | with_reducible refine AG.name ?_)
  | (with_reducible (show AS _ _ _ _); first | with_reducible refine AS.ret ?_ | with_reducible refine AS.ite ?_ | with_reducible refine AS.brk ?_ | with_reducible refine AS.assign ?_ (by with_unfolding_all rfl) | with_reducible refine AS.aug (by walk_at "lk") ?_ (by with_unfolding_all rfl) | with_reducible refine AS.expr ?_ (by with_unfolding_all rfl) (by with_unfolding_all rfl))
  | (with_reducible (show AB _ _ _ _); first | with_reducible refine AB.bool ?_)
  | with_reducible refine itT ?_
  | with_reducible refine itF ?_
  | with_reducible refine ATs_nil ?_
  | with_reducible refine ⟨_, rfl, ?_⟩))
local macro_rules | `(tactic| walk_at "st") => `(tactic| (walk_at "st1"; walk_at "d"))
local macro_rules | `(tactic| walk_at "go") => `(tactic| repeat (first
  | dsimp only [thenX, turnX, locOf]
  | with_reducible refine AX.cons ?_
  | with_reducible refine AX.nil ?_
  | (with_reducible (show AE _ _ _ _); first | with_reducible refine AE.name (by walk_at "lk") ?_ (by with_unfolding_all rfl) (by decide) | with_reducible refine AE.cell (by walk_at "lk") ?_ (by with_unfolding_all rfl) (by first | with_unfolding_all rfl | with_unfolding_all exact looked (by assumption) (Or.inl rfl) | with_unfolding_all exact looked (by assumption) (Or.inr rfl)) (by decide) | with_reducible refine AE.int ?_ | with_reducible refine AE.flt ?_ | with_reducible refine AE.str ?_ | with_reducible refine AE.bool ?_ | with_reducible refine AE.binop ?_ | with_reducible refine AE.item ?_ | with_reducible refine AE.cmp ?_ (by with_unfolding_all rfl) | with_reducible refine AE.neg ⟨_, rfl, ?_⟩ | with_reducible refine AE.cLen (by with_unfolding_all rfl) ?_ (by with_unfolding_all rfl) (by with_unfolding_all rfl) | with_reducible refine AE.cSum (by with_unfolding_all rfl) ?_ (by with_unfolding_all rfl) (by with_unfolding_all rfl) | with_reducible refine AE.cAbs (by with_unfolding_all rfl) ?_ (by with_unfolding_all rfl) (by with_unfolding_all rfl) | with_reducible refine AE.cMax (by with_unfolding_all rfl) ?_ (by with_unfolding_all rfl) (by with_unfolding_all rfl) | with_reducible refine AE.cFloat (by with_unfolding_all rfl) ?_ (by with_unfolding_all rfl) (by with_unfolding_all rfl) | with_reducible refine AE.cList (by with_unfolding_all rfl) ?_ (by with_unfolding_all rfl) (by with_unfolding_all rfl) | with_reducible refine AE.iStr (by with_unfolding_all rfl) (by with_unfolding_all rfl) ?_ (by with_unfolding_all rfl) (by with_unfolding_all rfl) | with_reducible refine AE.iTup (by with_unfolding_all rfl) (by with_unfolding_all rfl) ?_ (by with_unfolding_all rfl) (by with_unfolding_all rfl) | with_reducible refine AE.iInt (by with_unfolding_all rfl) (by with_unfolding_all rfl) ?_ (by with_unfolding_all rfl) (by with_unfolding_all rfl) | with_reducible refine AE.iList (by with_unfolding_all rfl) (by with_unfolding_all rfl) ?_ (by with_unfolding_all rfl) (by with_unfolding_all rfl) | with_reducible refine AE.mCount ?_ (by with_unfolding_all rfl) (by with_unfolding_all rfl) (by with_unfolding_all rfl) (by with_unfolding_all rfl) (by with_unfolding_all rfl) | with_reducible refine AE.mAppend ?_ (by with_unfolding_all rfl) (by with_unfolding_all rfl) (by with_unfolding_all rfl) (by with_unfolding_all rfl) (by with_unfolding_all rfl) | with_reducible refine AE.mExtend ?_ (by with_unfolding_all rfl) (by with_unfolding_all rfl) (by with_unfolding_all rfl) (by with_unfolding_all rfl) (by with_unfolding_all rfl) | with_reducible refine AE.mPop ?_ (by with_unfolding_all rfl) (by with_unfolding_all rfl) (by with_unfolding_all rfl) (by with_unfolding_all rfl) (by with_unfolding_all rfl) | with_reducible refine AE.mIndex ?_ (by with_unfolding_all rfl) (by with_unfolding_all rfl) (by with_unfolding_all rfl) (by with_unfolding_all rfl) (by with_unfolding_all rfl) | with_reducible refine AE.ifexp ?_)
  | (with_reducible (show AN _ _ _ _ _); first | with_reducible refine AN.loc ?_ (by with_unfolding_all rfl) (by with_unfolding_all rfl) | with_reducible refine AN.cell ?_ (by with_unfolding_all rfl) (by with_unfolding_all rfl))
  | (with_reducible (show AEs _ _ _ _); first | with_reducible refine AEs.cons ?_ (by with_unfolding_all rfl) | with_reducible refine AEs.nil ?_)
  | (with_reducible (show AT _ _ _ _); first | with_reducible refine AT.cmp ?_ (by with_unfolding_all rfl) | with_reducible refine AT.not ?_ | with_reducible refine AT.andNil ?_ | with_reducible refine AT.and ?_ | with_reducible refine AT.orNil ?_ | with_reducible refine AT.or ?_ | with_reducible refine AT.val ?_ (by with_unfolding_all rfl))
  | (with_reducible (show AV _ _ _ _ _); first | with_reducible refine AV.isiStr_str ?_ | with_reducible refine AV.isiInt_str ?_ | with_reducible refine AV.isiInt_tuple ?_ | with_reducible refine AV.isiInt_int ?_ | with_reducible refine AV.isiStr_list ?_ | with_reducible refine AV.absF ?_ | with_reducible refine AV.floatF ?_ | with_reducible refine AV.fadd ?_ | with_reducible refine AV.fmul ?_ | with_reducible refine AV.ltFI ?_ | with_reducible refine AV.add ?_ | with_reducible refine AV.sub ?_ | with_reducible refine AV.eqI ?_ | with_reducible refine AV.neI ?_ | with_reducible refine AV.ltI ?_ | with_reducible refine AV.gtI ?_ | with_reducible refine AV.eqD ?_ | with_reducible refine AV.eqS ?_ | with_reducible refine AV.iadd ?_ | with_reducible refine AV.isub ?_)
  | (with_reducible (show AG _ _ _ _ _); first | with_reducible refine AG.name ?_)
  | (with_reducible (show AS _ _ _ _); first | with_reducible refine AS.ret ?_ | with_reducible refine AS.ite ?_ | with_reducible refine AS.brk ?_ | with_reducible refine AS.assign ?_ (by with_unfolding_all rfl) | with_reducible refine AS.aug (by walk_at "lk") ?_ (by with_unfolding_all rfl) | with_reducible refine AS.expr ?_ (by with_unfolding_all rfl) (by with_unfolding_all rfl))
  | (with_reducible (show AB _ _ _ _); first | with_reducible refine AB.bool ?_)
  | with_reducible refine itT ?_
  | with_reducible refine itF ?_
  | with_reducible refine ATs_nil ?_
  | with_reducible refine ⟨_, rfl, ?_⟩))
section
variable {F : Fm} {σ : St} {P : V → List O → Prop} {np pos : Pos} {e : Expr} {es : List Expr}
theorem AE.cLen (hx : F.env.kindOf (Str.ofString "len") = some .globalImplicit) (h : AEs F (e :: es) σ (fun vs hp => AV F vs (fun us => call (.builtin "len") us) ⟨σ.loc, hp⟩ P))
    (hs : starEach (e :: es) F.env = (false, eval e F.env) :: starEach es F.env) (hp : (backTo pos (starEach (e :: es) F.env)).any (·.1) = false) : AE F (.Call (.Name (Str.ofString "len") np) (e :: es) [] pos) σ P := AE.callB (by decide) boot_len hx h hs hp
theorem AE.cSum (hx : F.env.kindOf (Str.ofString "sum") = some .globalImplicit) (h : AEs F (e :: es) σ (fun vs hp => AV F vs (fun us => call (.builtin "sum") us) ⟨σ.loc, hp⟩ P))
    (hs : starEach (e :: es) F.env = (false, eval e F.env) :: starEach es F.env) (hp : (backTo pos (starEach (e :: es) F.env)).any (·.1) = false) : AE F (.Call (.Name (Str.ofString "sum") np) (e :: es) [] pos) σ P := AE.callB (by decide) PyProof.Rows.boot_sum hx h hs hp
theorem AE.cAbs (hx : F.env.kindOf (Str.ofString "abs") = some .globalImplicit) (h : AEs F (e :: es) σ (fun vs hp => AV F vs (fun us => call (.builtin "abs") us) ⟨σ.loc, hp⟩ P))
    (hs : starEach (e :: es) F.env = (false, eval e F.env) :: starEach es F.env) (hp : (backTo pos (starEach (e :: es) F.env)).any (·.1) = false) : AE F (.Call (.Name (Str.ofString "abs") np) (e :: es) [] pos) σ P := AE.callB (by decide) PyProof.Rows.boot_abs hx h hs hp
theorem AE.cMax (hx : F.env.kindOf (Str.ofString "max") = some .globalImplicit) (h : AEs F (e :: es) σ (fun vs hp => AV F vs (fun us => call (.builtin "max") us) ⟨σ.loc, hp⟩ P))
    (hs : starEach (e :: es) F.env = (false, eval e F.env) :: starEach es F.env) (hp : (backTo pos (starEach (e :: es) F.env)).any (·.1) = false) : AE F (.Call (.Name (Str.ofString "max") np) (e :: es) [] pos) σ P := AE.callB (by decide) PyProof.Rows.boot_max hx h hs hp
theorem AE.cFloat (hx : F.env.kindOf (Str.ofString "float") = some .globalImplicit) (h : AEs F (e :: es) σ (fun vs hp => AV F vs (fun us => call (.type "float") us) ⟨σ.loc, hp⟩ P))
    (hs : starEach (e :: es) F.env = (false, eval e F.env) :: starEach es F.env) (hp : (backTo pos (starEach (e :: es) F.env)).any (·.1) = false) : AE F (.Call (.Name (Str.ofString "float") np) (e :: es) [] pos) σ P := AE.callT (by decide) PyProof.Rows.boot_float hx h hs hp
theorem AE.cList (hx : F.env.kindOf (Str.ofString "list") = some .globalImplicit) (h : AEs F (e :: es) σ (fun vs hp => AV F vs (fun us => call (.type "list") us) ⟨σ.loc, hp⟩ P))
    (hs : starEach (e :: es) F.env = (false, eval e F.env) :: starEach es F.env) (hp : (backTo pos (starEach (e :: es) F.env)).any (·.1) = false) : AE F (.Call (.Name (Str.ofString "list") np) (e :: es) [] pos) σ P := AE.callT (by decide) PyProof.Rows.boot_list hx h hs hp
theorem AE.iStr {tp : Pos} (hx : F.env.kindOf (Str.ofString "isinstance") = some .globalImplicit) (ht : F.env.kindOf (Str.ofString "str") = some .globalImplicit) (h : AE F e σ (fun v hp => AV F [v] (Mine.isi "str") ⟨σ.loc, hp⟩ P))
    (hs : starEach [e, .Name (Str.ofString "str") tp] F.env = (false, eval e F.env) :: [(false, eval (.Name (Str.ofString "str") tp) F.env)]) (hp : (backTo pos (starEach [e, .Name (Str.ofString "str") tp] F.env)).any (·.1) = false) :
    AE F (.Call (.Name (Str.ofString "isinstance") np) [e, .Name (Str.ofString "str") tp] [] pos) σ P := AE.isi hx ht (by decide) PyProof.Rows.boot_str (by decide) h hs hp
theorem AE.iTup {tp : Pos} (hx : F.env.kindOf (Str.ofString "isinstance") = some .globalImplicit) (ht : F.env.kindOf (Str.ofString "tuple") = some .globalImplicit) (h : AE F e σ (fun v hp => AV F [v] (Mine.isi "tuple") ⟨σ.loc, hp⟩ P))
    (hs : starEach [e, .Name (Str.ofString "tuple") tp] F.env = (false, eval e F.env) :: [(false, eval (.Name (Str.ofString "tuple") tp) F.env)]) (hp : (backTo pos (starEach [e, .Name (Str.ofString "tuple") tp] F.env)).any (·.1) = false) :
    AE F (.Call (.Name (Str.ofString "isinstance") np) [e, .Name (Str.ofString "tuple") tp] [] pos) σ P := AE.isi hx ht (by decide) PyProof.Rows.boot_tuple (by decide) h hs hp
theorem AE.iInt {tp : Pos} (hx : F.env.kindOf (Str.ofString "isinstance") = some .globalImplicit) (ht : F.env.kindOf (Str.ofString "int") = some .globalImplicit) (h : AE F e σ (fun v hp => AV F [v] (Mine.isi "int") ⟨σ.loc, hp⟩ P))
    (hs : starEach [e, .Name (Str.ofString "int") tp] F.env = (false, eval e F.env) :: [(false, eval (.Name (Str.ofString "int") tp) F.env)]) (hp : (backTo pos (starEach [e, .Name (Str.ofString "int") tp] F.env)).any (·.1) = false) :
    AE F (.Call (.Name (Str.ofString "isinstance") np) [e, .Name (Str.ofString "int") tp] [] pos) σ P := AE.isi hx ht (by decide) PyProof.Rows.boot_int (by decide) h hs hp
theorem AE.iList {tp : Pos} (hx : F.env.kindOf (Str.ofString "isinstance") = some .globalImplicit) (ht : F.env.kindOf (Str.ofString "list") = some .globalImplicit) (h : AE F e σ (fun v hp => AV F [v] (Mine.isi "list") ⟨σ.loc, hp⟩ P))
    (hs : starEach [e, .Name (Str.ofString "list") tp] F.env = (false, eval e F.env) :: [(false, eval (.Name (Str.ofString "list") tp) F.env)]) (hp : (backTo pos (starEach [e, .Name (Str.ofString "list") tp] F.env)).any (·.1) = false) :
    AE F (.Call (.Name (Str.ofString "isinstance") np) [e, .Name (Str.ofString "list") tp] [] pos) σ P := AE.isi hx ht (by decide) PyProof.Rows.boot_list (by decide) h hs hp
theorem AE.mCount {o : Expr} {apos : Pos} (h : AE F o σ (fun v hp => (∃ i vs, v = .ref i ∧ hp[i]? = some (.lst vs)) ∧ AEs F (e :: es) ⟨σ.loc, hp⟩ (fun ws hp' => AV F (v :: ws) (fun us => call (.builtin "list.count") us) ⟨σ.loc, hp'⟩ P)))
    (hbase : attributeBase o (Str.ofString "count") F.env (eval o F.env) = eval o F.env)
    (hfew : ((List.all (backTo pos (starEach (e :: es) F.env)) fun x => !x.1) && (List.all (backToKw pos (keywordEach [] F.env)) fun x => Option.isSome x.1) && decide (((e :: es).length + ([] : List Keyword).length + if ([] : List Keyword).isEmpty = true then 0 else 1) < 30)) = true)
    (hline : (apos.endLine == pos.line) = true) (hs : starEach (e :: es) F.env = (false, eval e F.env) :: starEach es F.env) (hp : (backTo pos (starEach (e :: es) F.env)).any (·.1) = false) :
    AE F (.Call (.Attribute o (Str.ofString "count") apos) (e :: es) [] pos) σ P := AE.meth (id := "list.count") PySem.F.slot_list_count PySem.F.type_list_count h hbase hfew hline hs hp
theorem AE.mAppend {o : Expr} {apos : Pos} (h : AE F o σ (fun v hp => (∃ i vs, v = .ref i ∧ hp[i]? = some (.lst vs)) ∧ AEs F (e :: es) ⟨σ.loc, hp⟩ (fun ws hp' => AV F (v :: ws) (fun us => call (.builtin "list.append") us) ⟨σ.loc, hp'⟩ P)))
    (hbase : attributeBase o (Str.ofString "append") F.env (eval o F.env) = eval o F.env)
    (hfew : ((List.all (backTo pos (starEach (e :: es) F.env)) fun x => !x.1) && (List.all (backToKw pos (keywordEach [] F.env)) fun x => Option.isSome x.1) && decide (((e :: es).length + ([] : List Keyword).length + if ([] : List Keyword).isEmpty = true then 0 else 1) < 30)) = true)
    (hline : (apos.endLine == pos.line) = true) (hs : starEach (e :: es) F.env = (false, eval e F.env) :: starEach es F.env) (hp : (backTo pos (starEach (e :: es) F.env)).any (·.1) = false) :
    AE F (.Call (.Attribute o (Str.ofString "append") apos) (e :: es) [] pos) σ P := AE.meth (id := "list.append") PySem.F.slot_list_append PySem.F.type_list_append h hbase hfew hline hs hp
theorem AE.mExtend {o : Expr} {apos : Pos} (h : AE F o σ (fun v hp => (∃ i vs, v = .ref i ∧ hp[i]? = some (.lst vs)) ∧ AEs F (e :: es) ⟨σ.loc, hp⟩ (fun ws hp' => AV F (v :: ws) (fun us => call (.builtin "list.extend") us) ⟨σ.loc, hp'⟩ P)))
    (hbase : attributeBase o (Str.ofString "extend") F.env (eval o F.env) = eval o F.env)
    (hfew : ((List.all (backTo pos (starEach (e :: es) F.env)) fun x => !x.1) && (List.all (backToKw pos (keywordEach [] F.env)) fun x => Option.isSome x.1) && decide (((e :: es).length + ([] : List Keyword).length + if ([] : List Keyword).isEmpty = true then 0 else 1) < 30)) = true)
    (hline : (apos.endLine == pos.line) = true) (hs : starEach (e :: es) F.env = (false, eval e F.env) :: starEach es F.env) (hp : (backTo pos (starEach (e :: es) F.env)).any (·.1) = false) :
    AE F (.Call (.Attribute o (Str.ofString "extend") apos) (e :: es) [] pos) σ P := AE.meth (id := "list.extend") PySem.F.slot_list_extend PySem.F.type_list_extend h hbase hfew hline hs hp
theorem AE.mPop {o : Expr} {apos : Pos} (h : AE F o σ (fun v hp => (∃ i vs, v = .ref i ∧ hp[i]? = some (.lst vs)) ∧ AEs F (e :: es) ⟨σ.loc, hp⟩ (fun ws hp' => AV F (v :: ws) (fun us => call (.builtin "list.pop") us) ⟨σ.loc, hp'⟩ P)))
    (hbase : attributeBase o (Str.ofString "pop") F.env (eval o F.env) = eval o F.env)
    (hfew : ((List.all (backTo pos (starEach (e :: es) F.env)) fun x => !x.1) && (List.all (backToKw pos (keywordEach [] F.env)) fun x => Option.isSome x.1) && decide (((e :: es).length + ([] : List Keyword).length + if ([] : List Keyword).isEmpty = true then 0 else 1) < 30)) = true)
    (hline : (apos.endLine == pos.line) = true) (hs : starEach (e :: es) F.env = (false, eval e F.env) :: starEach es F.env) (hp : (backTo pos (starEach (e :: es) F.env)).any (·.1) = false) :
    AE F (.Call (.Attribute o (Str.ofString "pop") apos) (e :: es) [] pos) σ P := AE.meth (id := "list.pop") PySem.F.slot_list_pop PySem.F.type_list_pop h hbase hfew hline hs hp
theorem AE.mIndex {o : Expr} {apos : Pos} (h : AE F o σ (fun v hp => (∃ i vs, v = .ref i ∧ hp[i]? = some (.lst vs)) ∧ AEs F (e :: es) ⟨σ.loc, hp⟩ (fun ws hp' => AV F (v :: ws) (fun us => call (.builtin "list.index") us) ⟨σ.loc, hp'⟩ P)))
    (hbase : attributeBase o (Str.ofString "index") F.env (eval o F.env) = eval o F.env)
    (hfew : ((List.all (backTo pos (starEach (e :: es) F.env)) fun x => !x.1) && (List.all (backToKw pos (keywordEach [] F.env)) fun x => Option.isSome x.1) && decide (((e :: es).length + ([] : List Keyword).length + if ([] : List Keyword).isEmpty = true then 0 else 1) < 30)) = true)
    (hline : (apos.endLine == pos.line) = true) (hs : starEach (e :: es) F.env = (false, eval e F.env) :: starEach es F.env) (hp : (backTo pos (starEach (e :: es) F.env)).any (·.1) = false) :
    AE F (.Call (.Attribute o (Str.ofString "index") apos) (e :: es) [] pos) σ P := AE.meth (id := "list.index") PySem.F.slot_list_index PySem.F.type_list_index h hbase hfew hline hs hp
end


end

/-! ## part 20 -/
section
local macro_rules | `(tactic| walk_at "lk1") => `(tactic| first | with_reducible assumption | with_reducible exact upd_same | ((with_reducible refine (upd_ne (by decide)).trans ?_); walk_at "lk1") | ((with_reducible refine (freeLoc_eq (by with_unfolding_all rfl)).trans ?_); walk_at "lk1"))
local macro_rules | `(tactic| walk_at "lk") => `(tactic| ((try dsimp only); walk_at "lk1"))
local macro_rules | `(tactic| walk_at "d") => `(tactic| try dsimp only [thenX, turnX, locOf])
local macro_rules | `(tactic| walk_at "st1") => `(tactic| (first
  | with_reducible refine AX.cons ?_
  | with_reducible refine AX.nil ?_
  | (with_reducible (show AE _ _ _ _); first | with_reducible refine AE.name (by walk_at "lk") ?_ (by with_unfolding_all rfl) (by decide) | with_reducible refine AE.cell (by walk_at "lk") ?_ (by with_unfolding_all rfl) (by first | with_unfolding_all rfl | with_unfolding_all exact looked (by assumption) (Or.inl rfl) | with_unfolding_all exact looked (by assumption) (Or.inr rfl)) (by decide) | with_reducible refine AE.int ?_ | with_reducible refine AE.flt ?_ | with_reducible refine AE.str ?_ | with_reducible refine AE.bool ?_ | with_reducible refine AE.binop ?_ | with_reducible refine AE.item ?_ | with_reducible refine AE.cmp ?_ (by with_unfolding_all rfl) | with_reducible refine AE.neg ⟨_, rfl, ?_⟩ | with_reducible refine AE.cLen (by with_unfolding_all rfl) ?_ (by with_unfolding_all rfl) (by with_unfolding_all rfl) | with_reducible refine AE.cSum (by with_unfolding_all rfl) ?_ (by with_unfolding_all rfl) (by with_unfolding_all rfl) | with_reducible refine AE.cAbs (by with_unfolding_all rfl) ?_ (by with_unfolding_all rfl) (by with_unfolding_all rfl) | with_reducible refine AE.cMax (by with_unfolding_all rfl) ?_ (by with_unfolding_all rfl) (by with_unfolding_all rfl) | with_reducible refine AE.cFloat (by with_unfolding_all rfl) ?_ (by with_unfolding_all rfl) (by with_unfolding_all rfl) | with_reducible refine AE.cList (by with_unfolding_all rfl) ?_ (by with_unfolding_all rfl) (by with_unfolding_all rfl) | with_reducible refine AE.iStr (by with_unfolding_all rfl) (by with_unfolding_all rfl) ?_ (by with_unfolding_all rfl) (by with_unfolding_all rfl) | with_reducible refine AE.iTup (by with_unfolding_all rfl) (by with_unfolding_all rfl) ?_ (by with_unfolding_all rfl) (by with_unfolding_all rfl) | with_reducible refine AE.iInt (by with_unfolding_all rfl) (by with_unfolding_all rfl) ?_ (by with_unfolding_all rfl) (by with_unfolding_all rfl) | with_reducible refine AE.iList (by with_unfolding_all rfl) (by with_unfolding_all rfl) ?_ (by with_unfolding_all rfl) (by with_unfolding_all rfl) | with_reducible refine AE.mCount ?_ (by with_unfolding_all rfl) (by with_unfolding_all rfl) (by with_unfolding_all rfl) (by with_unfolding_all rfl) (by with_unfolding_all rfl) | with_reducible refine AE.mAppend ?_ (by with_unfolding_all rfl) (by with_unfolding_all rfl) (by with_unfolding_all rfl) (by with_unfolding_all rfl) (by with_unfolding_all rfl) | with_reducible refine AE.mExtend ?_ (by with_unfolding_all rfl) (by with_unfolding_all rfl) (by with_unfolding_all rfl) (by with_unfolding_all rfl) (by with_unfolding_all rfl) | with_reducible refine AE.mPop ?_ (by with_unfolding_all rfl) (by with_unfolding_all rfl) (by with_unfolding_all rfl) (by with_unfolding_all rfl) (by with_unfolding_all rfl) | with_reducible refine AE.mIndex ?_ (by with_unfolding_all rfl) (by with_unfolding_all rfl) (by with_unfolding_all rfl) (by with_unfolding_all rfl) (by with_unfolding_all rfl) | with_reducible refine AE.ifexp ?_)
  | (with_reducible (show AN _ _ _ _ _); first | with_reducible refine AN.loc ?_ (by with_unfolding_all rfl) (by with_unfolding_all rfl) | with_reducible refine AN.cell ?_ (by with_unfolding_all rfl) (by with_unfolding_all rfl))
  | (with_reducible (show AEs _ _ _ _); first | with_reducible refine AEs.cons ?_ (by with_unfolding_all rfl) | with_reducible refine AEs.nil ?_)
  | (with_reducible (show AT _ _ _ _); first | with_reducible refine AT.cmp ?_ (by with_unfolding_all rfl) | with_reducible refine AT.not ?_ | with_reducible refine AT.andNil ?_ | with_reducible refine AT.and ?_ | with_reducible refine AT.orNil ?_ | with_reducible refine AT.or ?_ | with_reducible refine AT.val ?_ (by with_unfolding_all rfl))
  | (with_reducible (show AV _ _ _ _ _); first | with_reducible refine AV.isiStr_str ?_ | with_reducible refine AV.isiInt_str ?_ | with_reducible refine AV.isiInt_tuple ?_ | with_reducible refine AV.isiInt_int ?_ | with_reducible refine AV.isiStr_list ?_ | with_reducible refine AV.absF ?_ | with_reducible refine AV.floatF ?_ | with_reducible refine AV.fadd ?_ | with_reducible refine AV.fmul ?_ | with_reducible refine AV.ltFI ?_ | with_reducible refine AV.add ?_ | with_reducible refine AV.sub ?_ | with_reducible refine AV.eqI ?_ | with_reducible refine AV.neI ?_ | with_reducible refine AV.ltI ?_ | with_reducible refine AV.gtI ?_ | with_reducible refine AV.eqD ?_ | with_reducible refine AV.eqS ?_ | with_reducible refine AV.iadd ?_ | with_reducible refine AV.isub ?_)
  | (with_reducible (show AG _ _ _ _ _); first | with_reducible refine AG.name ?_)
  | (with_reducible (show AS _ _ _ _); first | with_reducible refine AS.ret ?_ | with_reducible refine AS.ite ?_ | with_reducible refine AS.brk ?_ | with_reducible refine AS.assign ?_ (by with_unfolding_all rfl) | with_reducible refine AS.aug (by walk_at "lk") ?_ (by with_unfolding_all rfl) | with_reducible refine AS.expr ?_ (by with_unfolding_all rfl) (by with_unfolding_all rfl))
  | (with_reducible (show AB _ _ _ _); first | with_reducible refine AB.bool ?_)
  | with_reducible refine itT ?_
  | with_reducible refine itF ?_
  | with_reducible refine ATs_nil ?_
  | with_reducible refine ⟨_, rfl, ?_⟩))
local macro_rules | `(tactic| walk_at "st") => `(tactic| (walk_at "st1"; walk_at "d"))
local macro_rules | `(tactic| walk_at "go") => `(tactic| repeat (first
  | dsimp only [thenX, turnX, locOf]
  | with_reducible refine AX.cons ?_
  | with_reducible refine AX.nil ?_
  | (with_reducible (show AE _ _ _ _); first | with_reducible refine AE.name (by walk_at "lk") ?_ (by with_unfolding_all rfl) (by decide) | with_reducible refine AE.cell (by walk_at "lk") ?_ (by with_unfolding_all rfl) (by first | with_unfolding_all rfl | with_unfolding_all exact looked (by assumption) (Or.inl rfl) | with_unfolding_all exact looked (by assumption) (Or.inr rfl)) (by decide) | with_reducible refine AE.int ?_ | with_reducible refine AE.flt ?_ | with_reducible refine AE.str ?_ | with_reducible refine AE.bool ?_ | with_reducible refine AE.binop ?_ | with_reducible refine AE.item ?_ | with_reducible refine AE.cmp ?_ (by with_unfolding_all rfl) | with_reducible refine AE.neg ⟨_, rfl, ?_⟩ | with_reducible refine AE.cLen (by with_unfolding_all rfl) ?_ (by with_unfolding_all rfl) (by with_unfolding_all rfl) | with_reducible refine AE.cSum (by with_unfolding_all rfl) ?_ (by with_unfolding_all rfl) (by with_unfolding_all rfl) | with_reducible refine AE.cAbs (by with_unfolding_all rfl) ?_ (by with_unfolding_all rfl) (by with_unfolding_all rfl) | with_reducible refine AE.cMax (by with_unfolding_all rfl) ?_ (by with_unfolding_all rfl) (by with_unfolding_all rfl) | with_reducible refine AE.cFloat (by with_unfolding_all rfl) ?_ (by with_unfolding_all rfl) (by with_unfolding_all rfl) | with_reducible refine AE.cList (by with_unfolding_all rfl) ?_ (by with_unfolding_all rfl) (by with_unfolding_all rfl) | with_reducible refine AE.iStr (by with_unfolding_all rfl) (by with_unfolding_all rfl) ?_ (by with_unfolding_all rfl) (by with_unfolding_all rfl) | with_reducible refine AE.iTup (by with_unfolding_all rfl) (by with_unfolding_all rfl) ?_ (by with_unfolding_all rfl) (by with_unfolding_all rfl) | with_reducible refine AE.iInt (by with_unfolding_all rfl) (by with_unfolding_all rfl) ?_ (by with_unfolding_all rfl) (by with_unfolding_all rfl) | with_reducible refine AE.iList (by with_unfolding_all rfl) (by with_unfolding_all rfl) ?_ (by with_unfolding_all rfl) (by with_unfolding_all rfl) | with_reducible refine AE.mCount ?_ (by with_unfolding_all rfl) (by with_unfolding_all rfl) (by with_unfolding_all rfl) (by with_unfolding_all rfl) (by with_unfolding_all rfl) | with_reducible refine AE.mAppend ?_ (by with_unfolding_all rfl) (by with_unfolding_all rfl) (by with_unfolding_all rfl) (by with_unfolding_all rfl) (by with_unfolding_all rfl) | with_reducible refine AE.mExtend ?_ (by with_unfolding_all rfl) (by with_unfolding_all rfl) (by with_unfolding_all rfl) (by with_unfolding_all rfl) (by with_unfolding_all rfl) | with_reducible refine AE.mPop ?_ (by with_unfolding_all rfl) (by with_unfolding_all rfl) (by with_unfolding_all rfl) (by with_unfolding_all rfl) (by with_unfolding_all rfl) | with_reducible refine AE.mIndex ?_ (by with_unfolding_all rfl) (by with_unfolding_all rfl) (by with_unfolding_all rfl) (by with_unfolding_all rfl) (by with_unfolding_all rfl) | with_reducible refine AE.ifexp ?_)
  | (with_reducible (show AN _ _ _ _ _); first | with_reducible refine AN.loc ?_ (by with_unfolding_all rfl) (by with_unfolding_all rfl) | with_reducible refine AN.cell ?_ (by with_unfolding_all rfl) (by with_unfolding_all rfl))
  | (with_reducible (show AEs _ _ _ _); first | with_reducible refine AEs.cons ?_ (by with_unfolding_all rfl) | with_reducible refine AEs.nil ?_)
  | (with_reducible (show AT _ _ _ _); first | with_reducible refine AT.cmp ?_ (by with_unfolding_all rfl) | with_reducible refine AT.not ?_ | with_reducible refine AT.andNil ?_ | with_reducible refine AT.and ?_ | with_reducible refine AT.orNil ?_ | with_reducible refine AT.or ?_ | with_reducible refine AT.val ?_ (by with_unfolding_all rfl))
  | (with_reducible (show AV _ _ _ _ _); first | with_reducible refine AV.isiStr_str ?_ | with_reducible refine AV.isiInt_str ?_ | with_reducible refine AV.isiInt_tuple ?_ | with_reducible refine AV.isiInt_int ?_ | with_reducible refine AV.isiStr_list ?_ | with_reducible refine AV.absF ?_ | with_reducible refine AV.floatF ?_ | with_reducible refine AV.fadd ?_ | with_reducible refine AV.fmul ?_ | with_reducible refine AV.ltFI ?_ | with_reducible refine AV.add ?_ | with_reducible refine AV.sub ?_ | with_reducible refine AV.eqI ?_ | with_reducible refine AV.neI ?_ | with_reducible refine AV.ltI ?_ | with_reducible refine AV.gtI ?_ | with_reducible refine AV.eqD ?_ | with_reducible refine AV.eqS ?_ | with_reducible refine AV.iadd ?_ | with_reducible refine AV.isub ?_)
  | (with_reducible (show AG _ _ _ _ _); first | with_reducible refine AG.name ?_)
  | (with_reducible (show AS _ _ _ _); first | with_reducible refine AS.ret ?_ | with_reducible refine AS.ite ?_ | with_reducible refine AS.brk ?_ | with_reducible refine AS.assign ?_ (by with_unfolding_all rfl) | with_reducible refine AS.aug (by walk_at "lk") ?_ (by with_unfolding_all rfl) | with_reducible refine AS.expr ?_ (by with_unfolding_all rfl) (by with_unfolding_all rfl))
  | (with_reducible (show AB _ _ _ _); first | with_reducible refine AB.bool ?_)
  | with_reducible refine itT ?_
  | with_reducible refine itF ?_
  | with_reducible refine ATs_nil ?_
  | with_reducible refine ⟨_, rfl, ?_⟩))
theorem memU : fU ∈ fns := .head _
theorem memG : fG ∈ fns := .tail _ (.head _)
theorem memD : fD ∈ fns := .tail _ (.tail _ (.head _))
theorem memP : fP ∈ fns := .tail _ (.tail _ (.tail _ (.head _)))
theorem memB : fB ∈ fns := .tail _ (.tail _ (.tail _ (.tail _ (.head _))))
theorem memN : fN ∈ fns := .tail _ (.tail _ (.tail _ (.tail _ (.tail _ (.head _)))))
theorem memR : fR ∈ fns := .tail _ (.tail _ (.tail _ (.tail _ (.tail _ (.tail _ (.head _))))))
theorem memW : fW ∈ fns := .tail _ (.tail _ (.tail _ (.tail _ (.tail _ (.tail _ (.tail _ (.head _)))))))
theorem memX : fX ∈ fns := .tail _ (.tail _ (.tail _ (.tail _ (.tail _ (.tail _ (.tail _ (.tail _ (.head _))))))))
theorem memE : fE ∈ fns := .tail _ (.tail _ (.tail _ (.tail _ (.tail _ (.tail _ (.tail _ (.tail _ (.tail _ (.head _)))))))))

/-! checks that a mirror makes -/
def chk {α : Type} (b : Bool) (k : Option α) : Option α := if b then k else none
theorem chk_some {α : Type} {b : Bool} {k : Option α} {x : α} (h : chk b k = some x) : b = true ∧ k = some x := by
  unfold chk at h; split at h
  · exact ⟨by assumption, h⟩
  · cases h
def get {α β : Type} (o : Option α) (k : α → Option β) : Option β := match o with
  | some x => k x
  | none => none
theorem get_some {α β : Type} {o : Option α} {k : α → Option β} {y : β} (h : get o k = some y) : ∃ x, o = some x ∧ k x = some y := by
  cases o with
  | none => cases h
  | some x => exact ⟨x, rfl, h⟩
def small (x : Int) : Bool := decide (-(2 ^ 63) ≤ x) && decide (x < 2 ^ 63)
def sumOk (l : List Int) : Bool := (List.range l.length).all fun j => small (l.getD j 0) && small ((l.take (j + 1)).sum)
theorem sumOk_fits {l : List Int} (h : sumOk l = true) : PySem.SumFits l := by
  intro j hj
  have := List.all_eq_true.mp h j (List.mem_range.mpr hj)
  simp only [small, Bool.and_eq_true, decide_eq_true_eq] at this
  unfold PySem.InLong
  omega
def mulOk (x y : Int) : Bool := decide (Builtin.Int.intBits x ≤ 64) || decide (Builtin.Int.intBits y ≤ 64)
theorem mulOk_ok {x y : Int} (h : mulOk x y = true) : IntMulOk x y := by
  unfold mulOk at h
  rcases Bool.or_eq_true_iff.mp h with h | h
  · exact .of_left (of_decide_eq_true h)
  · exact .of_right (of_decide_eq_true h)
def fin (x : UInt64) : Bool := !Float64.isInf x
theorem fin_ok {x : UInt64} (h : fin x = true) : Float64.isInf x = false := by unfold fin at h; simpa using h
def nz (x : UInt64) : Bool := !Float64.isZero x
theorem nz_ok {x : UInt64} (h : nz x = true) : Float64.isZero x = false := by unfold nz at h; simpa using h

/-! density -/
def dens (cs : List Bool) : Option UInt64 :=
  get (degSeq cs) fun y => chk (sumOk y.2 && mulOk cs.length ((cs.length : Int) - 1)) (chk (!((cs.length : Int) * ((cs.length : Int) - 1) == 0) && fin (divII y.2.sum ((cs.length : Int) * ((cs.length : Int) - 1)))) (some (divII y.2.sum ((cs.length : Int) * ((cs.length : Int) - 1)))))
theorem okD {v : V} : FnOK fD [(Str.ofString "creation_sequence", v)] := ⟨rfl, rfl, rfl, by decide +kernel, fun n x hx => by rw [List.mem_singleton.mp hx]; exact .inl rfl⟩
theorem bindD {v : V} : Binds fD [v] [] [(Str.ofString "creation_sequence", v)] := Binds.one rfl fun _ _ _ _ _ _ => rfl
theorem meetD {r : Nat} {cs : List Bool} {hp : List O} {P : V → List O → Prop} {x : UInt64} (h0 : hp[r]? = some (.lst (cs.map strV))) (hz : cs.length ≤ 7) (hx : dens cs = some x) (h : ∀ t, P (.flt x) (hp ++ t)) :
    Meets fns 1 fD [(Str.ofString "creation_sequence", .ref r)] hp P := by
  intro g prog w A L a cdv n hn
  obtain ⟨y, hy, hx⟩ := get_some hx
  obtain ⟨c1, hx⟩ := chk_some hx
  obtain ⟨c2, hx⟩ := chk_some hx
  cases hx
  simp only [Bool.and_eq_true, Bool.not_eq_true'] at c1 c2
  refine AX.cons ?_
  walk_at "go"
  refine AV.lenL h0 (by simp; omega) ?_
  walk_at "go"
  refine AE.callF fG memG rfl hn ?_
  walk_at "go"
  refine ⟨_, bindG, okG, meetG h0 hz hy ?_⟩
  walk_at "go"
  refine AV.sumL hp_new (sumOk_fits c1.1) ?_
  walk_at "go"
  rw [List.length_map]
  refine AV.mul ?_ (mulOk_ok c1.2)
  walk_at "go"
  refine AV.divII c2.1 (fin_ok c2.2) ?_
  walk_at "go"
  exact h [rowV y.2]


end

/-! ## part 21 -/
section
local macro_rules | `(tactic| walk_at "lk1") => `(tactic| first | with_reducible assumption | with_reducible exact upd_same | ((with_reducible refine (upd_ne (by decide)).trans ?_); walk_at "lk1") | ((with_reducible refine (freeLoc_eq (by with_unfolding_all rfl)).trans ?_); walk_at "lk1"))
local macro_rules | `(tactic| walk_at "lk") => `(tactic| ((try dsimp only); walk_at "lk1"))
local macro_rules | `(tactic| walk_at "d") => `(tactic| try dsimp only [thenX, turnX, locOf])
local macro_rules | `(tactic| walk_at "st1") => `(tactic| (first
  | with_reducible refine AX.cons ?_
  | with_reducible refine AX.nil ?_
  | (with_reducible (show AE _ _ _ _); first | with_reducible refine AE.name (by walk_at "lk") ?_ (by with_unfolding_all rfl) (by decide) | with_reducible refine AE.cell (by walk_at "lk") ?_ (by with_unfolding_all rfl) (by first | with_unfolding_all rfl | with_unfolding_all exact looked (by assumption) (Or.inl rfl) | with_unfolding_all exact looked (by assumption) (Or.inr rfl)) (by decide) | with_reducible refine AE.int ?_ | with_reducible refine AE.flt ?_ | with_reducible refine AE.str ?_ | with_reducible refine AE.bool ?_ | with_reducible refine AE.binop ?_ | with_reducible refine AE.item ?_ | with_reducible refine AE.cmp ?_ (by with_unfolding_all rfl) | with_reducible refine AE.neg ⟨_, rfl, ?_⟩ | with_reducible refine AE.cLen (by with_unfolding_all rfl) ?_ (by with_unfolding_all rfl) (by with_unfolding_all rfl) | with_reducible refine AE.cSum (by with_unfolding_all rfl) ?_ (by with_unfolding_all rfl) (by with_unfolding_all rfl) | with_reducible refine AE.cAbs (by with_unfolding_all rfl) ?_ (by with_unfolding_all rfl) (by with_unfolding_all rfl) | with_reducible refine AE.cMax (by with_unfolding_all rfl) ?_ (by with_unfolding_all rfl) (by with_unfolding_all rfl) | with_reducible refine AE.cFloat (by with_unfolding_all rfl) ?_ (by with_unfolding_all rfl) (by with_unfolding_all rfl) | with_reducible refine AE.cList (by with_unfolding_all rfl) ?_ (by with_unfolding_all rfl) (by with_unfolding_all rfl) | with_reducible refine AE.iStr (by with_unfolding_all rfl) (by with_unfolding_all rfl) ?_ (by with_unfolding_all rfl) (by with_unfolding_all rfl) | with_reducible refine AE.iTup (by with_unfolding_all rfl) (by with_unfolding_all rfl) ?_ (by with_unfolding_all rfl) (by with_unfolding_all rfl) | with_reducible refine AE.iInt (by with_unfolding_all rfl) (by with_unfolding_all rfl) ?_ (by with_unfolding_all rfl) (by with_unfolding_all rfl) | with_reducible refine AE.iList (by with_unfolding_all rfl) (by with_unfolding_all rfl) ?_ (by with_unfolding_all rfl) (by with_unfolding_all rfl) | with_reducible refine AE.mCount ?_ (by with_unfolding_all rfl) (by with_unfolding_all rfl) (by with_unfolding_all rfl) (by with_unfolding_all rfl) (by with_unfolding_all rfl) | with_reducible refine AE.mAppend ?_ (by with_unfolding_all rfl) (by with_unfolding_all rfl) (by with_unfolding_all rfl) (by with_unfolding_all rfl) (by with_unfolding_all rfl) | with_reducible refine AE.mExtend ?_ (by with_unfolding_all rfl) (by with_unfolding_all rfl) (by with_unfolding_all rfl) (by with_unfolding_all rfl) (by with_unfolding_all rfl) | with_reducible refine AE.mPop ?_ (by with_unfolding_all rfl) (by with_unfolding_all rfl) (by with_unfolding_all rfl) (by with_unfolding_all rfl) (by with_unfolding_all rfl) | with_reducible refine AE.mIndex ?_ (by with_unfolding_all rfl) (by with_unfolding_all rfl) (by with_unfolding_all rfl) (by with_unfolding_all rfl) (by with_unfolding_all rfl) | with_reducible refine AE.ifexp ?_)
  | (with_reducible (show AN _ _ _ _ _); first | with_reducible refine AN.loc ?_ (by with_unfolding_all rfl) (by with_unfolding_all rfl) | with_reducible refine AN.cell ?_ (by with_unfolding_all rfl) (by with_unfolding_all rfl))
  | (with_reducible (show AEs _ _ _ _); first | with_reducible refine AEs.cons ?_ (by with_unfolding_all rfl) | with_reducible refine AEs.nil ?_)
  | (with_reducible (show AT _ _ _ _); first | with_reducible refine AT.cmp ?_ (by with_unfolding_all rfl) | with_reducible refine AT.not ?_ | with_reducible refine AT.andNil ?_ | with_reducible refine AT.and ?_ | with_reducible refine AT.orNil ?_ | with_reducible refine AT.or ?_ | with_reducible refine AT.val ?_ (by with_unfolding_all rfl))
  | (with_reducible (show AV _ _ _ _ _); first | with_reducible refine AV.isiStr_str ?_ | with_reducible refine AV.isiInt_str ?_ | with_reducible refine AV.isiInt_tuple ?_ | with_reducible refine AV.isiInt_int ?_ | with_reducible refine AV.isiStr_list ?_ | with_reducible refine AV.absF ?_ | with_reducible refine AV.floatF ?_ | with_reducible refine AV.fadd ?_ | with_reducible refine AV.fmul ?_ | with_reducible refine AV.ltFI ?_ | with_reducible refine AV.add ?_ | with_reducible refine AV.sub ?_ | with_reducible refine AV.eqI ?_ | with_reducible refine AV.neI ?_ | with_reducible refine AV.ltI ?_ | with_reducible refine AV.gtI ?_ | with_reducible refine AV.eqD ?_ | with_reducible refine AV.eqS ?_ | with_reducible refine AV.iadd ?_ | with_reducible refine AV.isub ?_)
  | (with_reducible (show AG _ _ _ _ _); first | with_reducible refine AG.name ?_)
  | (with_reducible (show AS _ _ _ _); first | with_reducible refine AS.ret ?_ | with_reducible refine AS.ite ?_ | with_reducible refine AS.brk ?_ | with_reducible refine AS.assign ?_ (by with_unfolding_all rfl) | with_reducible refine AS.aug (by walk_at "lk") ?_ (by with_unfolding_all rfl) | with_reducible refine AS.expr ?_ (by with_unfolding_all rfl) (by with_unfolding_all rfl))
  | (with_reducible (show AB _ _ _ _); first | with_reducible refine AB.bool ?_)
  | with_reducible refine itT ?_
  | with_reducible refine itF ?_
  | with_reducible refine ATs_nil ?_
  | with_reducible refine ⟨_, rfl, ?_⟩))
local macro_rules | `(tactic| walk_at "st") => `(tactic| (walk_at "st1"; walk_at "d"))
local macro_rules | `(tactic| walk_at "go") => `(tactic| repeat (first
  | dsimp only [thenX, turnX, locOf]
  | with_reducible refine AX.cons ?_
  | with_reducible refine AX.nil ?_
  | (with_reducible (show AE _ _ _ _); first | with_reducible refine AE.name (by walk_at "lk") ?_ (by with_unfolding_all rfl) (by decide) | with_reducible refine AE.cell (by walk_at "lk") ?_ (by with_unfolding_all rfl) (by first | with_unfolding_all rfl | with_unfolding_all exact looked (by assumption) (Or.inl rfl) | with_unfolding_all exact looked (by assumption) (Or.inr rfl)) (by decide) | with_reducible refine AE.int ?_ | with_reducible refine AE.flt ?_ | with_reducible refine AE.str ?_ | with_reducible refine AE.bool ?_ | with_reducible refine AE.binop ?_ | with_reducible refine AE.item ?_ | with_reducible refine AE.cmp ?_ (by with_unfolding_all rfl) | with_reducible refine AE.neg ⟨_, rfl, ?_⟩ | with_reducible refine AE.cLen (by with_unfolding_all rfl) ?_ (by with_unfolding_all rfl) (by with_unfolding_all rfl) | with_reducible refine AE.cSum (by with_unfolding_all rfl) ?_ (by with_unfolding_all rfl) (by with_unfolding_all rfl) | with_reducible refine AE.cAbs (by with_unfolding_all rfl) ?_ (by with_unfolding_all rfl) (by with_unfolding_all rfl) | with_reducible refine AE.cMax (by with_unfolding_all rfl) ?_ (by with_unfolding_all rfl) (by with_unfolding_all rfl) | with_reducible refine AE.cFloat (by with_unfolding_all rfl) ?_ (by with_unfolding_all rfl) (by with_unfolding_all rfl) | with_reducible refine AE.cList (by with_unfolding_all rfl) ?_ (by with_unfolding_all rfl) (by with_unfolding_all rfl) | with_reducible refine AE.iStr (by with_unfolding_all rfl) (by with_unfolding_all rfl) ?_ (by with_unfolding_all rfl) (by with_unfolding_all rfl) | with_reducible refine AE.iTup (by with_unfolding_all rfl) (by with_unfolding_all rfl) ?_ (by with_unfolding_all rfl) (by with_unfolding_all rfl) | with_reducible refine AE.iInt (by with_unfolding_all rfl) (by with_unfolding_all rfl) ?_ (by with_unfolding_all rfl) (by with_unfolding_all rfl) | with_reducible refine AE.iList (by with_unfolding_all rfl) (by with_unfolding_all rfl) ?_ (by with_unfolding_all rfl) (by with_unfolding_all rfl) | with_reducible refine AE.mCount ?_ (by with_unfolding_all rfl) (by with_unfolding_all rfl) (by with_unfolding_all rfl) (by with_unfolding_all rfl) (by with_unfolding_all rfl) | with_reducible refine AE.mAppend ?_ (by with_unfolding_all rfl) (by with_unfolding_all rfl) (by with_unfolding_all rfl) (by with_unfolding_all rfl) (by with_unfolding_all rfl) | with_reducible refine AE.mExtend ?_ (by with_unfolding_all rfl) (by with_unfolding_all rfl) (by with_unfolding_all rfl) (by with_unfolding_all rfl) (by with_unfolding_all rfl) | with_reducible refine AE.mPop ?_ (by with_unfolding_all rfl) (by with_unfolding_all rfl) (by with_unfolding_all rfl) (by with_unfolding_all rfl) (by with_unfolding_all rfl) | with_reducible refine AE.mIndex ?_ (by with_unfolding_all rfl) (by with_unfolding_all rfl) (by with_unfolding_all rfl) (by with_unfolding_all rfl) (by with_unfolding_all rfl) | with_reducible refine AE.ifexp ?_)
  | (with_reducible (show AN _ _ _ _ _); first | with_reducible refine AN.loc ?_ (by with_unfolding_all rfl) (by with_unfolding_all rfl) | with_reducible refine AN.cell ?_ (by with_unfolding_all rfl) (by with_unfolding_all rfl))
  | (with_reducible (show AEs _ _ _ _); first | with_reducible refine AEs.cons ?_ (by with_unfolding_all rfl) | with_reducible refine AEs.nil ?_)
  | (with_reducible (show AT _ _ _ _); first | with_reducible refine AT.cmp ?_ (by with_unfolding_all rfl) | with_reducible refine AT.not ?_ | with_reducible refine AT.andNil ?_ | with_reducible refine AT.and ?_ | with_reducible refine AT.orNil ?_ | with_reducible refine AT.or ?_ | with_reducible refine AT.val ?_ (by with_unfolding_all rfl))
  | (with_reducible (show AV _ _ _ _ _); first | with_reducible refine AV.isiStr_str ?_ | with_reducible refine AV.isiInt_str ?_ | with_reducible refine AV.isiInt_tuple ?_ | with_reducible refine AV.isiInt_int ?_ | with_reducible refine AV.isiStr_list ?_ | with_reducible refine AV.absF ?_ | with_reducible refine AV.floatF ?_ | with_reducible refine AV.fadd ?_ | with_reducible refine AV.fmul ?_ | with_reducible refine AV.ltFI ?_ | with_reducible refine AV.add ?_ | with_reducible refine AV.sub ?_ | with_reducible refine AV.eqI ?_ | with_reducible refine AV.neI ?_ | with_reducible refine AV.ltI ?_ | with_reducible refine AV.gtI ?_ | with_reducible refine AV.eqD ?_ | with_reducible refine AV.eqS ?_ | with_reducible refine AV.iadd ?_ | with_reducible refine AV.isub ?_)
  | (with_reducible (show AG _ _ _ _ _); first | with_reducible refine AG.name ?_)
  | (with_reducible (show AS _ _ _ _); first | with_reducible refine AS.ret ?_ | with_reducible refine AS.ite ?_ | with_reducible refine AS.brk ?_ | with_reducible refine AS.assign ?_ (by with_unfolding_all rfl) | with_reducible refine AS.aug (by walk_at "lk") ?_ (by with_unfolding_all rfl) | with_reducible refine AS.expr ?_ (by with_unfolding_all rfl) (by with_unfolding_all rfl))
  | (with_reducible (show AB _ _ _ _); first | with_reducible refine AB.bool ?_)
  | with_reducible refine itT ?_
  | with_reducible refine itF ?_
  | with_reducible refine ATs_nil ?_
  | with_reducible refine ⟨_, rfl, ?_⟩))
theorem freeLoc_eq {scope : Scope} {l : Str → Option V} {x : Str} (h : scope.names.lookup x = some .free) : freeLoc scope l x = l x := if_pos h
theorem looked {p : Str → Prop} {cells : List (Str × Addr)} {x : Str} (h : ∀ y, p y → (cells.lookup y).isSome = true) (k : p x) : (cells.lookup x).isSome = true := h x k
theorem ScopeOK.fn {f : FnD} {L a : Addr} {cdv : Value} {scope : Scope} {x : Str} (h1 : scope.kind = .function) (h2 : ∀ y ∈ scope.names, scope.names.lookup y.1 = some y.2) (h3 : ∀ y ∈ scope.names, y.2 = .free → (y.1, NameKind.cell) ∈ f.scope.names)
    (h4 : scope.names.lookup x = some .local ∨ scope.names.lookup x = some .cell) : ScopeOK scope (envOfC f.name f.scope L a cdv) x := by
  refine ⟨h1, h2, fun y hy hk => ?_, h4⟩
  obtain ⟨c, hc⟩ := cellsFrom_own f.scope.names (L + 1) [] y.1 (.inl (h3 y hy hk))
  exact isSome_mem hc
theorem ScopeOK.comp {scope' scope : Scope} {cells : List (Str × Addr)} {C : Addr} {env : Env} {x : Str} (h1 : scope.kind = .function) (h2 : ∀ y ∈ scope.names, scope.names.lookup y.1 = some y.2)
    (hl : ∀ y, scope'.names.lookup y = some .free ∨ scope'.names.lookup y = some .cell → (cells.lookup y).isSome = true) (h3 : ∀ y ∈ scope.names, y.2 = .free → (scope'.names.lookup y.1 = some .free ∨ scope'.names.lookup y.1 = some .cell))
    (h4 : scope.names.lookup x = some .local ∨ scope.names.lookup x = some .cell) : ScopeOK scope (compEnvC scope' cells C env) x :=
  ⟨h1, h2, fun y hy hk => hl y.1 (h3 y hy hk), h4⟩

section
variable {F : Fm} {σ : St} {elt : Expr} {x y : Str} {px py np rp pos spos : Pos} {args ifs : List Expr} {scope : Scope}
theorem AE.compR {P : V → List O → Prop} (S : ScopeOK scope F.env x) (hx : F.env.kindOf (Str.ofString "range") = some .globalImplicit)
    (h : AEs F args σ (fun vs hp => ∃ a b c n, RangeOf vs a b c n ∧ ∃ J, J 0 [] hp ∧ CompTurn F scope x ifs elt σ.loc hp.length n (fun i => .int (a + (i : Int) * c)) J ∧ ∀ acc hp', J n acc hp' → P (.ref hp'.length) (hp' ++ [.lst acc])))
    (hne : ∃ e r, args = e :: r ∧ starEach (e :: r) F.env = (false, eval e F.env) :: starEach r F.env) (hp : (backTo rp (starEach args F.env)).any (·.1) = false)
    (hs : ∀ x, foldedSetIterable (.Call (.Name (Str.ofString "range") np) args [] rp) F.env x = pure x) :
    AE F (.ListComp elt [⟨.Name x px, .Call (.Name (Str.ofString "range") np) args [] rp, ifs, 0⟩] scope pos) σ P := AE.comp S (.range rfl hx h hne hp) hs
theorem AE.compL {P : V → List O → Prop} {iter : Expr} (S : ScopeOK scope F.env x)
    (h : AE F iter σ (fun v hp => ∃ j vs, v = .ref j ∧ hp[j]? = some (.lst vs) ∧ vs.length ≤ 4096 ∧ ∃ J, J 0 [] hp ∧ CompTurn F scope x ifs elt σ.loc hp.length vs.length (fun i => (vs[i]?).getD .none) J ∧ ∀ acc hp', J vs.length acc hp' → P (.ref hp'.length) (hp' ++ [.lst acc])))
    (hs : ∀ x, foldedSetIterable iter F.env x = pure x) :
    AE F (.ListComp elt [⟨.Name x px, iter, ifs, 0⟩] scope pos) σ P := AE.comp S (.list h) hs
theorem AS.compR {P : Fl → St → Prop} (S : ScopeOK scope F.env x) (hx : F.env.kindOf (Str.ofString "range") = some .globalImplicit)
    (h : AEs F args σ (fun vs hp => ∃ a b c n, RangeOf vs a b c n ∧ ∃ J, J 0 [] hp ∧ CompTurn F scope x ifs elt σ.loc hp.length n (fun i => .int (a + (i : Int) * c)) J ∧ ∀ acc hp', J n acc hp' → AN F y (.ref hp'.length) ⟨σ.loc, hp' ++ [.lst acc]⟩ (P .next)))
    (hne : ∃ e r, args = e :: r ∧ starEach (e :: r) F.env = (false, eval e F.env) :: starEach r F.env) (hp : (backTo rp (starEach args F.env)).any (·.1) = false)
    (hsw : swapsWith (.ListComp elt [⟨.Name x px, .Call (.Name (Str.ofString "range") np) args [] rp, ifs, 0⟩] scope pos) (some (.Name y py)) spos.line F.env = pure true)
    (hs : ∀ x, foldedSetIterable (.Call (.Name (Str.ofString "range") np) args [] rp) F.env x = pure x) :
    AS F (.Assign [.Name y py] (.ListComp elt [⟨.Name x px, .Call (.Name (Str.ofString "range") np) args [] rp, ifs, 0⟩] scope pos) spos) σ P := AS.comp S (.range rfl hx h hne hp) hsw hs
theorem AS.compL {P : Fl → St → Prop} {iter : Expr} (S : ScopeOK scope F.env x)
    (h : AE F iter σ (fun v hp => ∃ j vs, v = .ref j ∧ hp[j]? = some (.lst vs) ∧ vs.length ≤ 4096 ∧ ∃ J, J 0 [] hp ∧ CompTurn F scope x ifs elt σ.loc hp.length vs.length (fun i => (vs[i]?).getD .none) J ∧ ∀ acc hp', J vs.length acc hp' → AN F y (.ref hp'.length) ⟨σ.loc, hp' ++ [.lst acc]⟩ (P .next)))
    (hsw : swapsWith (.ListComp elt [⟨.Name x px, iter, ifs, 0⟩] scope pos) (some (.Name y py)) spos.line F.env = pure true)
    (hs : ∀ x, foldedSetIterable iter F.env x = pure x) :
    AS F (.Assign [.Name y py] (.ListComp elt [⟨.Name x px, iter, ifs, 0⟩] scope pos) spos) σ P := AS.comp S (.list h) hsw hs
end

/-! _law_near -/
def near (x : UInt64) (due scale : Int) : Option Bool :=
  chk (fin (Float64.ofInt scale) && fin (Float64.ofInt due) && fin (Float64.ofInt 1000)) (some (Float64.cmpInt (Float64.mul (Float64.abs (Float64.sub (Float64.mul x (Float64.ofInt scale)) (Float64.ofInt due))) (Float64.ofInt 1000)) 1 == some Ordering.lt))
theorem okE {v w q : V} : FnOK fE [(Str.ofString "told", v), (Str.ofString "due", w), (Str.ofString "scale", q)] := by
  refine ⟨rfl, rfl, rfl, by decide +kernel, fun n x hx => .inl ?_⟩
  rcases List.mem_cons.mp hx with rfl | hx
  · rfl
  rcases List.mem_cons.mp hx with rfl | hx
  · rfl
  rw [List.mem_singleton.mp hx]; rfl
theorem bindE {v w q : V} : Binds fE [v, w, q] [] [(Str.ofString "told", v), (Str.ofString "due", w), (Str.ofString "scale", q)] := Binds.three rfl fun _ _ _ _ _ _ _ _ => rfl
theorem meetE {hp : List O} {P : V → List O → Prop} {x : UInt64} {due scale : Int} {b : Bool} (hb : near x due scale = some b) (h : P (.bool b) hp) :
    Meets fns 0 fE [(Str.ofString "told", .flt x), (Str.ofString "due", .int due), (Str.ofString "scale", .int scale)] hp P := by
  intro g prog w A L a cdv n hn
  obtain ⟨c1, hx⟩ := chk_some hb
  cases hx
  simp only [Bool.and_eq_true] at c1
  refine AX.cons ?_
  walk_at "go"
  refine AV.fmulI (fin_ok c1.1.1) ?_
  walk_at "go"
  refine AV.fsubI (fin_ok c1.1.2) ?_
  walk_at "go"
  refine AV.fmulI (fin_ok c1.2) ?_
  walk_at "go"
  exact h


end

/-! ## part 22 -/
section
local macro_rules | `(tactic| walk_at "lk1") => `(tactic| first | with_reducible assumption | with_reducible exact upd_same | ((with_reducible refine (upd_ne (by decide)).trans ?_); walk_at "lk1") | ((with_reducible refine (freeLoc_eq (by with_unfolding_all rfl)).trans ?_); walk_at "lk1"))
local macro_rules | `(tactic| walk_at "lk") => `(tactic| ((try dsimp only); walk_at "lk1"))
local macro_rules | `(tactic| walk_at "d") => `(tactic| try dsimp only [thenX, turnX, locOf])
local macro_rules | `(tactic| walk_at "st1") => `(tactic| (first
  | with_reducible refine AX.cons ?_
  | with_reducible refine AX.nil ?_
  | (with_reducible (show AE _ _ _ _); first | with_reducible refine AE.name (by walk_at "lk") ?_ (by with_unfolding_all rfl) (by decide) | with_reducible refine AE.cell (by walk_at "lk") ?_ (by with_unfolding_all rfl) (by first | with_unfolding_all rfl | with_unfolding_all exact looked (by assumption) (Or.inl rfl) | with_unfolding_all exact looked (by assumption) (Or.inr rfl)) (by decide) | with_reducible refine AE.int ?_ | with_reducible refine AE.flt ?_ | with_reducible refine AE.str ?_ | with_reducible refine AE.bool ?_ | with_reducible refine AE.binop ?_ | with_reducible refine AE.item ?_ | with_reducible refine AE.cmp ?_ (by with_unfolding_all rfl) | with_reducible refine AE.neg ⟨_, rfl, ?_⟩ | with_reducible refine AE.cLen (by with_unfolding_all rfl) ?_ (by with_unfolding_all rfl) (by with_unfolding_all rfl) | with_reducible refine AE.cSum (by with_unfolding_all rfl) ?_ (by with_unfolding_all rfl) (by with_unfolding_all rfl) | with_reducible refine AE.cAbs (by with_unfolding_all rfl) ?_ (by with_unfolding_all rfl) (by with_unfolding_all rfl) | with_reducible refine AE.cMax (by with_unfolding_all rfl) ?_ (by with_unfolding_all rfl) (by with_unfolding_all rfl) | with_reducible refine AE.cFloat (by with_unfolding_all rfl) ?_ (by with_unfolding_all rfl) (by with_unfolding_all rfl) | with_reducible refine AE.cList (by with_unfolding_all rfl) ?_ (by with_unfolding_all rfl) (by with_unfolding_all rfl) | with_reducible refine AE.iStr (by with_unfolding_all rfl) (by with_unfolding_all rfl) ?_ (by with_unfolding_all rfl) (by with_unfolding_all rfl) | with_reducible refine AE.iTup (by with_unfolding_all rfl) (by with_unfolding_all rfl) ?_ (by with_unfolding_all rfl) (by with_unfolding_all rfl) | with_reducible refine AE.iInt (by with_unfolding_all rfl) (by with_unfolding_all rfl) ?_ (by with_unfolding_all rfl) (by with_unfolding_all rfl) | with_reducible refine AE.iList (by with_unfolding_all rfl) (by with_unfolding_all rfl) ?_ (by with_unfolding_all rfl) (by with_unfolding_all rfl) | with_reducible refine AE.mCount ?_ (by with_unfolding_all rfl) (by with_unfolding_all rfl) (by with_unfolding_all rfl) (by with_unfolding_all rfl) (by with_unfolding_all rfl) | with_reducible refine AE.mAppend ?_ (by with_unfolding_all rfl) (by with_unfolding_all rfl) (by with_unfolding_all rfl) (by with_unfolding_all rfl) (by with_unfolding_all rfl) | with_reducible refine AE.mExtend ?_ (by with_unfolding_all rfl) (by with_unfolding_all rfl) (by with_unfolding_all rfl) (by with_unfolding_all rfl) (by with_unfolding_all rfl) | with_reducible refine AE.mPop ?_ (by with_unfolding_all rfl) (by with_unfolding_all rfl) (by with_unfolding_all rfl) (by with_unfolding_all rfl) (by with_unfolding_all rfl) | with_reducible refine AE.mIndex ?_ (by with_unfolding_all rfl) (by with_unfolding_all rfl) (by with_unfolding_all rfl) (by with_unfolding_all rfl) (by with_unfolding_all rfl) | with_reducible refine AE.ifexp ?_)
  | (with_reducible (show AN _ _ _ _ _); first | with_reducible refine AN.loc ?_ (by with_unfolding_all rfl) (by with_unfolding_all rfl) | with_reducible refine AN.cell ?_ (by with_unfolding_all rfl) (by with_unfolding_all rfl))
  | (with_reducible (show AEs _ _ _ _); first | with_reducible refine AEs.cons ?_ (by with_unfolding_all rfl) | with_reducible refine AEs.nil ?_)
  | (with_reducible (show AT _ _ _ _); first | with_reducible refine AT.cmp ?_ (by with_unfolding_all rfl) | with_reducible refine AT.not ?_ | with_reducible refine AT.andNil ?_ | with_reducible refine AT.and ?_ | with_reducible refine AT.orNil ?_ | with_reducible refine AT.or ?_ | with_reducible refine AT.val ?_ (by with_unfolding_all rfl))
  | (with_reducible (show AV _ _ _ _ _); first | with_reducible refine AV.isiStr_str ?_ | with_reducible refine AV.isiInt_str ?_ | with_reducible refine AV.isiInt_tuple ?_ | with_reducible refine AV.isiInt_int ?_ | with_reducible refine AV.isiStr_list ?_ | with_reducible refine AV.absF ?_ | with_reducible refine AV.floatF ?_ | with_reducible refine AV.fadd ?_ | with_reducible refine AV.fmul ?_ | with_reducible refine AV.ltFI ?_ | with_reducible refine AV.add ?_ | with_reducible refine AV.sub ?_ | with_reducible refine AV.eqI ?_ | with_reducible refine AV.neI ?_ | with_reducible refine AV.ltI ?_ | with_reducible refine AV.gtI ?_ | with_reducible refine AV.eqD ?_ | with_reducible refine AV.eqS ?_ | with_reducible refine AV.iadd ?_ | with_reducible refine AV.isub ?_)
  | (with_reducible (show AG _ _ _ _ _); first | with_reducible refine AG.name ?_)
  | (with_reducible (show AS _ _ _ _); first | with_reducible refine AS.ret ?_ | with_reducible refine AS.ite ?_ | with_reducible refine AS.brk ?_ | with_reducible refine AS.assign ?_ (by with_unfolding_all rfl) | with_reducible refine AS.aug (by walk_at "lk") ?_ (by with_unfolding_all rfl) | with_reducible refine AS.expr ?_ (by with_unfolding_all rfl) (by with_unfolding_all rfl))
  | (with_reducible (show AB _ _ _ _); first | with_reducible refine AB.bool ?_)
  | with_reducible refine itT ?_
  | with_reducible refine itF ?_
  | with_reducible refine ATs_nil ?_
  | with_reducible refine ⟨_, rfl, ?_⟩))
local macro_rules | `(tactic| walk_at "st") => `(tactic| (walk_at "st1"; walk_at "d"))
local macro_rules | `(tactic| walk_at "go") => `(tactic| repeat (first
  | dsimp only [thenX, turnX, locOf]
  | with_reducible refine AX.cons ?_
  | with_reducible refine AX.nil ?_
  | (with_reducible (show AE _ _ _ _); first | with_reducible refine AE.name (by walk_at "lk") ?_ (by with_unfolding_all rfl) (by decide) | with_reducible refine AE.cell (by walk_at "lk") ?_ (by with_unfolding_all rfl) (by first | with_unfolding_all rfl | with_unfolding_all exact looked (by assumption) (Or.inl rfl) | with_unfolding_all exact looked (by assumption) (Or.inr rfl)) (by decide) | with_reducible refine AE.int ?_ | with_reducible refine AE.flt ?_ | with_reducible refine AE.str ?_ | with_reducible refine AE.bool ?_ | with_reducible refine AE.binop ?_ | with_reducible refine AE.item ?_ | with_reducible refine AE.cmp ?_ (by with_unfolding_all rfl) | with_reducible refine AE.neg ⟨_, rfl, ?_⟩ | with_reducible refine AE.cLen (by with_unfolding_all rfl) ?_ (by with_unfolding_all rfl) (by with_unfolding_all rfl) | with_reducible refine AE.cSum (by with_unfolding_all rfl) ?_ (by with_unfolding_all rfl) (by with_unfolding_all rfl) | with_reducible refine AE.cAbs (by with_unfolding_all rfl) ?_ (by with_unfolding_all rfl) (by with_unfolding_all rfl) | with_reducible refine AE.cMax (by with_unfolding_all rfl) ?_ (by with_unfolding_all rfl) (by with_unfolding_all rfl) | with_reducible refine AE.cFloat (by with_unfolding_all rfl) ?_ (by with_unfolding_all rfl) (by with_unfolding_all rfl) | with_reducible refine AE.cList (by with_unfolding_all rfl) ?_ (by with_unfolding_all rfl) (by with_unfolding_all rfl) | with_reducible refine AE.iStr (by with_unfolding_all rfl) (by with_unfolding_all rfl) ?_ (by with_unfolding_all rfl) (by with_unfolding_all rfl) | with_reducible refine AE.iTup (by with_unfolding_all rfl) (by with_unfolding_all rfl) ?_ (by with_unfolding_all rfl) (by with_unfolding_all rfl) | with_reducible refine AE.iInt (by with_unfolding_all rfl) (by with_unfolding_all rfl) ?_ (by with_unfolding_all rfl) (by with_unfolding_all rfl) | with_reducible refine AE.iList (by with_unfolding_all rfl) (by with_unfolding_all rfl) ?_ (by with_unfolding_all rfl) (by with_unfolding_all rfl) | with_reducible refine AE.mCount ?_ (by with_unfolding_all rfl) (by with_unfolding_all rfl) (by with_unfolding_all rfl) (by with_unfolding_all rfl) (by with_unfolding_all rfl) | with_reducible refine AE.mAppend ?_ (by with_unfolding_all rfl) (by with_unfolding_all rfl) (by with_unfolding_all rfl) (by with_unfolding_all rfl) (by with_unfolding_all rfl) | with_reducible refine AE.mExtend ?_ (by with_unfolding_all rfl) (by with_unfolding_all rfl) (by with_unfolding_all rfl) (by with_unfolding_all rfl) (by with_unfolding_all rfl) | with_reducible refine AE.mPop ?_ (by with_unfolding_all rfl) (by with_unfolding_all rfl) (by with_unfolding_all rfl) (by with_unfolding_all rfl) (by with_unfolding_all rfl) | with_reducible refine AE.mIndex ?_ (by with_unfolding_all rfl) (by with_unfolding_all rfl) (by with_unfolding_all rfl) (by with_unfolding_all rfl) (by with_unfolding_all rfl) | with_reducible refine AE.ifexp ?_)
  | (with_reducible (show AN _ _ _ _ _); first | with_reducible refine AN.loc ?_ (by with_unfolding_all rfl) (by with_unfolding_all rfl) | with_reducible refine AN.cell ?_ (by with_unfolding_all rfl) (by with_unfolding_all rfl))
  | (with_reducible (show AEs _ _ _ _); first | with_reducible refine AEs.cons ?_ (by with_unfolding_all rfl) | with_reducible refine AEs.nil ?_)
  | (with_reducible (show AT _ _ _ _); first | with_reducible refine AT.cmp ?_ (by with_unfolding_all rfl) | with_reducible refine AT.not ?_ | with_reducible refine AT.andNil ?_ | with_reducible refine AT.and ?_ | with_reducible refine AT.orNil ?_ | with_reducible refine AT.or ?_ | with_reducible refine AT.val ?_ (by with_unfolding_all rfl))
  | (with_reducible (show AV _ _ _ _ _); first | with_reducible refine AV.isiStr_str ?_ | with_reducible refine AV.isiInt_str ?_ | with_reducible refine AV.isiInt_tuple ?_ | with_reducible refine AV.isiInt_int ?_ | with_reducible refine AV.isiStr_list ?_ | with_reducible refine AV.absF ?_ | with_reducible refine AV.floatF ?_ | with_reducible refine AV.fadd ?_ | with_reducible refine AV.fmul ?_ | with_reducible refine AV.ltFI ?_ | with_reducible refine AV.add ?_ | with_reducible refine AV.sub ?_ | with_reducible refine AV.eqI ?_ | with_reducible refine AV.neI ?_ | with_reducible refine AV.ltI ?_ | with_reducible refine AV.gtI ?_ | with_reducible refine AV.eqD ?_ | with_reducible refine AV.eqS ?_ | with_reducible refine AV.iadd ?_ | with_reducible refine AV.isub ?_)
  | (with_reducible (show AG _ _ _ _ _); first | with_reducible refine AG.name ?_)
  | (with_reducible (show AS _ _ _ _); first | with_reducible refine AS.ret ?_ | with_reducible refine AS.ite ?_ | with_reducible refine AS.brk ?_ | with_reducible refine AS.assign ?_ (by with_unfolding_all rfl) | with_reducible refine AS.aug (by walk_at "lk") ?_ (by with_unfolding_all rfl) | with_reducible refine AS.expr ?_ (by with_unfolding_all rfl) (by with_unfolding_all rfl))
  | (with_reducible (show AB _ _ _ _); first | with_reducible refine AB.bool ?_)
  | with_reducible refine itT ?_
  | with_reducible refine itF ?_
  | with_reducible refine ATs_nil ?_
  | with_reducible refine ⟨_, rfl, ?_⟩))
/-! _law_numbers -/
def nums (vals : List Int) (n : Nat) : List Int := (List.range n).map fun k => vals.getD (k % vals.length) 0
theorem range_map_snoc {α : Type} (f : Nat → α) (i : Nat) : (List.range (i + 1)).map f = (List.range i).map f ++ [f i] := by simp [List.range_succ]
theorem nums_at {vals : List Int} {n k : Nat} (h : k < n) : (nums vals n)[k]? = some (vals.getD (k % vals.length) 0) := by simp [nums, h]
theorem okN {v w : V} : FnOK fN [(Str.ofString "script", v), (Str.ofString "count", w)] := by
  refine ⟨rfl, rfl, rfl, by decide +kernel, fun n x hx => ?_⟩
  rcases List.mem_cons.mp hx with rfl | hx
  · exact .inr ⟨rfl, by rfl⟩
  rw [List.mem_singleton.mp hx]; exact .inl rfl
theorem bindN {v w : V} : Binds fN [v, w] [] [(Str.ofString "script", v), (Str.ofString "count", w)] := Binds.two rfl fun _ _ _ _ _ _ _ => rfl
theorem meetN {r : Nat} {vals : List Int} {hp : List O} {P : V → List O → Prop} {m : Nat} (h0 : hp[r]? = some (rowV vals)) (hz : vals.length ≤ 63) (hm : m ≤ 10) (h : P (.ref hp.length) (hp ++ [rowV (nums vals m)])) :
    Meets fns 0 fN [(Str.ofString "script", .ref r), (Str.ofString "count", .int m)] hp P := by
  intro g prog w A L a cdv n hn
  have hzz : (List.map V.int vals).length ≤ 4096 := by simp; omega
  refine AX.cons ?_
  walk_at "go"
  refine AE.compR (ScopeOK.fn rfl (by decide +kernel) (by decide +kernel) (.inl rfl)) rfl ?_ ⟨_, _, rfl, rfl⟩ rfl (by intro _; rfl)
  walk_at "go"
  refine ⟨_, _, _, _, .one m (by omega), fun i acc hp' => hp' = hp ∧ acc = ((List.range i).map fun k => vals.getD (k % vals.length) 0).map V.int, ⟨rfl, rfl⟩, ?_, ?_⟩
  · rintro cells C i acc hp' look hi ⟨rfl, rfl⟩
    have hadd : (0 : Int) + (i : Int) * 1 = (i : Int) := by omega
    dsimp only
    rw [hadd]
    refine ATs_nil (itT ?_)
    walk_at "go"
    refine AV.lenL h0 hzz ?_
    walk_at "go"
    rw [List.length_map]
    by_cases hl : 0 < vals.length
    · rw [show decide ((0 : Int) < (vals.length : Int)) = true by simpa using hl, if_pos rfl]
      walk_at "go"
      refine AV.lenL h0 hzz ?_
      walk_at "go"
      rw [List.length_map]
      have hmod : (i : Int).fmod (vals.length : Int) = ((i % vals.length : Nat) : Int) := by
        rw [Int.fmod_eq_emod_of_nonneg _ (by omega)]; simp
      refine AV.fmod (by omega) ?_
      rw [hmod]
      have hlt := Nat.mod_lt i hl
      refine AV.at h0 (by omega) (by omega) (x := .int (vals.getD (i % vals.length) 0)) ?_ ?_
      · rw [Int.toNat_natCast, List.getElem?_map, List.getElem?_eq_getElem hlt, List.getD_eq_getElem?_getD, List.getElem?_eq_getElem hlt]; rfl
      · refine ⟨rfl, ?_⟩
        rw [range_map_snoc]; simp
    · rw [show decide ((0 : Int) < (vals.length : Int)) = false by simpa using hl, if_neg (by decide)]
      walk_at "go"
      refine ⟨rfl, ?_⟩
      have : vals = [] := List.eq_nil_of_length_eq_zero (by omega)
      subst this
      rw [range_map_snoc]; simp
  · rintro acc hp' ⟨rfl, rfl⟩
    exact ⟨_, rfl, h⟩


end

/-! ## part 23 -/
section
local macro_rules | `(tactic| walk_at "lk1") => `(tactic| first | with_reducible assumption | with_reducible exact upd_same | ((with_reducible refine (upd_ne (by decide)).trans ?_); walk_at "lk1") | ((with_reducible refine (freeLoc_eq (by with_unfolding_all rfl)).trans ?_); walk_at "lk1"))
local macro_rules | `(tactic| walk_at "lk") => `(tactic| ((try dsimp only); walk_at "lk1"))
local macro_rules | `(tactic| walk_at "d") => `(tactic| try dsimp only [thenX, turnX, locOf])
local macro_rules | `(tactic| walk_at "st1") => `(tactic| (first
  | with_reducible refine AX.cons ?_
  | with_reducible refine AX.nil ?_
  | (with_reducible (show AE _ _ _ _); first | with_reducible refine AE.name (by walk_at "lk") ?_ (by with_unfolding_all rfl) (by decide) | with_reducible refine AE.cell (by walk_at "lk") ?_ (by with_unfolding_all rfl) (by first | with_unfolding_all rfl | with_unfolding_all exact looked (by assumption) (Or.inl rfl) | with_unfolding_all exact looked (by assumption) (Or.inr rfl)) (by decide) | with_reducible refine AE.int ?_ | with_reducible refine AE.flt ?_ | with_reducible refine AE.str ?_ | with_reducible refine AE.bool ?_ | with_reducible refine AE.binop ?_ | with_reducible refine AE.item ?_ | with_reducible refine AE.cmp ?_ (by with_unfolding_all rfl) | with_reducible refine AE.neg ?_ | with_reducible refine AE.cLen (by with_unfolding_all rfl) ?_ (by with_unfolding_all rfl) (by with_unfolding_all rfl) | with_reducible refine AE.cSum (by with_unfolding_all rfl) ?_ (by with_unfolding_all rfl) (by with_unfolding_all rfl) | with_reducible refine AE.cAbs (by with_unfolding_all rfl) ?_ (by with_unfolding_all rfl) (by with_unfolding_all rfl) | with_reducible refine AE.cMax (by with_unfolding_all rfl) ?_ (by with_unfolding_all rfl) (by with_unfolding_all rfl) | with_reducible refine AE.cFloat (by with_unfolding_all rfl) ?_ (by with_unfolding_all rfl) (by with_unfolding_all rfl) | with_reducible refine AE.cList (by with_unfolding_all rfl) ?_ (by with_unfolding_all rfl) (by with_unfolding_all rfl) | with_reducible refine AE.iStr (by with_unfolding_all rfl) (by with_unfolding_all rfl) ?_ (by with_unfolding_all rfl) (by with_unfolding_all rfl) | with_reducible refine AE.iTup (by with_unfolding_all rfl) (by with_unfolding_all rfl) ?_ (by with_unfolding_all rfl) (by with_unfolding_all rfl) | with_reducible refine AE.iInt (by with_unfolding_all rfl) (by with_unfolding_all rfl) ?_ (by with_unfolding_all rfl) (by with_unfolding_all rfl) | with_reducible refine AE.iList (by with_unfolding_all rfl) (by with_unfolding_all rfl) ?_ (by with_unfolding_all rfl) (by with_unfolding_all rfl) | with_reducible refine AE.mCount ?_ (by with_unfolding_all rfl) (by with_unfolding_all rfl) (by with_unfolding_all rfl) (by with_unfolding_all rfl) (by with_unfolding_all rfl) | with_reducible refine AE.mAppend ?_ (by with_unfolding_all rfl) (by with_unfolding_all rfl) (by with_unfolding_all rfl) (by with_unfolding_all rfl) (by with_unfolding_all rfl) | with_reducible refine AE.mExtend ?_ (by with_unfolding_all rfl) (by with_unfolding_all rfl) (by with_unfolding_all rfl) (by with_unfolding_all rfl) (by with_unfolding_all rfl) | with_reducible refine AE.mPop ?_ (by with_unfolding_all rfl) (by with_unfolding_all rfl) (by with_unfolding_all rfl) (by with_unfolding_all rfl) (by with_unfolding_all rfl) | with_reducible refine AE.mIndex ?_ (by with_unfolding_all rfl) (by with_unfolding_all rfl) (by with_unfolding_all rfl) (by with_unfolding_all rfl) (by with_unfolding_all rfl) | with_reducible refine AE.ifexp ?_)
  | (with_reducible (show AN _ _ _ _ _); first | with_reducible refine AN.loc ?_ (by with_unfolding_all rfl) (by with_unfolding_all rfl) | with_reducible refine AN.cell ?_ (by with_unfolding_all rfl) (by with_unfolding_all rfl))
  | (with_reducible (show AEs _ _ _ _); first | with_reducible refine AEs.cons ?_ (by with_unfolding_all rfl) | with_reducible refine AEs.nil ?_)
  | (with_reducible (show AT _ _ _ _); first | with_reducible refine AT.cmp ?_ (by with_unfolding_all rfl) | with_reducible refine AT.not ?_ | with_reducible refine AT.andNil ?_ | with_reducible refine AT.and ?_ | with_reducible refine AT.orNil ?_ | with_reducible refine AT.or ?_ | with_reducible refine AT.val ?_ (by with_unfolding_all rfl))
  | (with_reducible (show AV _ _ _ _ _); first | with_reducible refine AV.isiStr_str ?_ | with_reducible refine AV.isiInt_str ?_ | with_reducible refine AV.isiInt_tuple ?_ | with_reducible refine AV.isiInt_int ?_ | with_reducible refine AV.isiStr_list ?_ | with_reducible refine AV.absF ?_ | with_reducible refine AV.floatF ?_ | with_reducible refine AV.fadd ?_ | with_reducible refine AV.fmul ?_ | with_reducible refine AV.ltFI ?_ | with_reducible refine AV.add ?_ | with_reducible refine AV.sub ?_ | with_reducible refine AV.eqI ?_ | with_reducible refine AV.neI ?_ | with_reducible refine AV.ltI ?_ | with_reducible refine AV.gtI ?_ | with_reducible refine AV.eqD ?_ | with_reducible refine AV.eqS ?_ | with_reducible refine AV.iadd ?_ | with_reducible refine AV.isub ?_)
  | (with_reducible (show AG _ _ _ _ _); first | with_reducible refine AG.name ?_)
  | (with_reducible (show AS _ _ _ _); first | with_reducible refine AS.ret ?_ | with_reducible refine AS.ite ?_ | with_reducible refine AS.brk ?_ | with_reducible refine AS.assign ?_ (by with_unfolding_all rfl) | with_reducible refine AS.aug (by walk_at "lk") ?_ (by with_unfolding_all rfl) | with_reducible refine AS.expr ?_ (by with_unfolding_all rfl) (by with_unfolding_all rfl))
  | (with_reducible (show AB _ _ _ _); first | with_reducible refine AB.bool ?_)
  | with_reducible refine itT ?_
  | with_reducible refine itF ?_
  | with_reducible refine ATs_nil ?_
  | with_reducible refine ⟨_, rfl, ?_⟩))
local macro_rules | `(tactic| walk_at "st") => `(tactic| (walk_at "st1"; walk_at "d"))
local macro_rules | `(tactic| walk_at "go") => `(tactic| repeat (first
  | dsimp only [thenX, turnX, locOf]
  | with_reducible refine AX.cons ?_
  | with_reducible refine AX.nil ?_
  | (with_reducible (show AE _ _ _ _); first | with_reducible refine AE.name (by walk_at "lk") ?_ (by with_unfolding_all rfl) (by decide) | with_reducible refine AE.cell (by walk_at "lk") ?_ (by with_unfolding_all rfl) (by first | with_unfolding_all rfl | with_unfolding_all exact looked (by assumption) (Or.inl rfl) | with_unfolding_all exact looked (by assumption) (Or.inr rfl)) (by decide) | with_reducible refine AE.int ?_ | with_reducible refine AE.flt ?_ | with_reducible refine AE.str ?_ | with_reducible refine AE.bool ?_ | with_reducible refine AE.binop ?_ | with_reducible refine AE.item ?_ | with_reducible refine AE.cmp ?_ (by with_unfolding_all rfl) | with_reducible refine AE.neg ?_ | with_reducible refine AE.cLen (by with_unfolding_all rfl) ?_ (by with_unfolding_all rfl) (by with_unfolding_all rfl) | with_reducible refine AE.cSum (by with_unfolding_all rfl) ?_ (by with_unfolding_all rfl) (by with_unfolding_all rfl) | with_reducible refine AE.cAbs (by with_unfolding_all rfl) ?_ (by with_unfolding_all rfl) (by with_unfolding_all rfl) | with_reducible refine AE.cMax (by with_unfolding_all rfl) ?_ (by with_unfolding_all rfl) (by with_unfolding_all rfl) | with_reducible refine AE.cFloat (by with_unfolding_all rfl) ?_ (by with_unfolding_all rfl) (by with_unfolding_all rfl) | with_reducible refine AE.cList (by with_unfolding_all rfl) ?_ (by with_unfolding_all rfl) (by with_unfolding_all rfl) | with_reducible refine AE.iStr (by with_unfolding_all rfl) (by with_unfolding_all rfl) ?_ (by with_unfolding_all rfl) (by with_unfolding_all rfl) | with_reducible refine AE.iTup (by with_unfolding_all rfl) (by with_unfolding_all rfl) ?_ (by with_unfolding_all rfl) (by with_unfolding_all rfl) | with_reducible refine AE.iInt (by with_unfolding_all rfl) (by with_unfolding_all rfl) ?_ (by with_unfolding_all rfl) (by with_unfolding_all rfl) | with_reducible refine AE.iList (by with_unfolding_all rfl) (by with_unfolding_all rfl) ?_ (by with_unfolding_all rfl) (by with_unfolding_all rfl) | with_reducible refine AE.mCount ?_ (by with_unfolding_all rfl) (by with_unfolding_all rfl) (by with_unfolding_all rfl) (by with_unfolding_all rfl) (by with_unfolding_all rfl) | with_reducible refine AE.mAppend ?_ (by with_unfolding_all rfl) (by with_unfolding_all rfl) (by with_unfolding_all rfl) (by with_unfolding_all rfl) (by with_unfolding_all rfl) | with_reducible refine AE.mExtend ?_ (by with_unfolding_all rfl) (by with_unfolding_all rfl) (by with_unfolding_all rfl) (by with_unfolding_all rfl) (by with_unfolding_all rfl) | with_reducible refine AE.mPop ?_ (by with_unfolding_all rfl) (by with_unfolding_all rfl) (by with_unfolding_all rfl) (by with_unfolding_all rfl) (by with_unfolding_all rfl) | with_reducible refine AE.mIndex ?_ (by with_unfolding_all rfl) (by with_unfolding_all rfl) (by with_unfolding_all rfl) (by with_unfolding_all rfl) (by with_unfolding_all rfl) | with_reducible refine AE.ifexp ?_)
  | (with_reducible (show AN _ _ _ _ _); first | with_reducible refine AN.loc ?_ (by with_unfolding_all rfl) (by with_unfolding_all rfl) | with_reducible refine AN.cell ?_ (by with_unfolding_all rfl) (by with_unfolding_all rfl))
  | (with_reducible (show AEs _ _ _ _); first | with_reducible refine AEs.cons ?_ (by with_unfolding_all rfl) | with_reducible refine AEs.nil ?_)
  | (with_reducible (show AT _ _ _ _); first | with_reducible refine AT.cmp ?_ (by with_unfolding_all rfl) | with_reducible refine AT.not ?_ | with_reducible refine AT.andNil ?_ | with_reducible refine AT.and ?_ | with_reducible refine AT.orNil ?_ | with_reducible refine AT.or ?_ | with_reducible refine AT.val ?_ (by with_unfolding_all rfl))
  | (with_reducible (show AV _ _ _ _ _); first | with_reducible refine AV.isiStr_str ?_ | with_reducible refine AV.isiInt_str ?_ | with_reducible refine AV.isiInt_tuple ?_ | with_reducible refine AV.isiInt_int ?_ | with_reducible refine AV.isiStr_list ?_ | with_reducible refine AV.absF ?_ | with_reducible refine AV.floatF ?_ | with_reducible refine AV.fadd ?_ | with_reducible refine AV.fmul ?_ | with_reducible refine AV.ltFI ?_ | with_reducible refine AV.add ?_ | with_reducible refine AV.sub ?_ | with_reducible refine AV.eqI ?_ | with_reducible refine AV.neI ?_ | with_reducible refine AV.ltI ?_ | with_reducible refine AV.gtI ?_ | with_reducible refine AV.eqD ?_ | with_reducible refine AV.eqS ?_ | with_reducible refine AV.iadd ?_ | with_reducible refine AV.isub ?_)
  | (with_reducible (show AG _ _ _ _ _); first | with_reducible refine AG.name ?_)
  | (with_reducible (show AS _ _ _ _); first | with_reducible refine AS.ret ?_ | with_reducible refine AS.ite ?_ | with_reducible refine AS.brk ?_ | with_reducible refine AS.assign ?_ (by with_unfolding_all rfl) | with_reducible refine AS.aug (by walk_at "lk") ?_ (by with_unfolding_all rfl) | with_reducible refine AS.expr ?_ (by with_unfolding_all rfl) (by with_unfolding_all rfl))
  | (with_reducible (show AB _ _ _ _); first | with_reducible refine AB.bool ?_)
  | with_reducible refine itT ?_
  | with_reducible refine itF ?_
  | with_reducible refine ATs_nil ?_
  | with_reducible refine ⟨_, rfl, ?_⟩))
theorem chr_eq (c c' : Bool) : ((chr c).cps.toList == (chr c').cps.toList) = (c == c') := by cases c <;> cases c' <;> decide
theorem AV.eqCh {F : Fm} {σ : St} {P : V → List O → Prop} {c c' : Bool} (h : P (.bool (c == c')) σ.hp) : AV F [strV c, strV c'] (cop .Eq) σ P := AV.eqS (by rw [chr_eq]; exact h)
theorem step1 (i : Nat) : (0 : Int) + (i : Int) * 1 = (i : Int) := by omega

/-! _law_runs -/
def runStep (cs : List Bool) (k : Nat) (st : List Int) : Option (List Int) :=
  get cs[k]? fun c =>
    if k = 0 then some (st ++ [1]) else
    get cs[k - 1]? fun c' => if (c == c') then get st.getLast? fun x => some (st.set (st.length - 1) (x + 1)) else some (st ++ [1])
def runs (cs : List Bool) : Option (List Int) := loopO (runStep cs) [] cs.length
theorem runs_len {cs : List Bool} : ∀ {i : Nat} {y : List Int}, loopO (runStep cs) [] i = some y → y.length ≤ i := by
  intro i
  induction i with
  | zero => intro y h; cases h; exact Nat.le_refl _
  | succ i ih =>
    intro y h
    obtain ⟨x, hx⟩ := loopO_le h i (Nat.le_succ _)
    have hs := (loopO_succ hx).symm.trans h
    have := ih hx
    obtain ⟨c, hc, hs⟩ := get_some hs
    split at hs
    · cases hs; simp; omega
    · obtain ⟨c', hc', hs⟩ := get_some hs
      split at hs
      · obtain ⟨z, hz, hs⟩ := get_some hs
        cases hs; simp; omega
      · cases hs; simp; omega
theorem okR {v : V} : FnOK fR [(Str.ofString "letters", v)] := ⟨rfl, rfl, rfl, by decide +kernel, fun n x hx => by rw [List.mem_singleton.mp hx]; exact .inl rfl⟩
theorem bindR {v : V} : Binds fR [v] [] [(Str.ofString "letters", v)] := Binds.one rfl fun _ _ _ _ _ _ => rfl
theorem row_set (l : List Int) (i : Nat) (x : Int) : O.lst ((l.map V.int).set i (V.int x)) = rowV (l.set i x) := by simp [rowV, List.map_set]
theorem meetR {r : Nat} {cs : List Bool} {hp : List O} {P : V → List O → Prop} {y : List Int} (h0 : hp[r]? = some (.lst (cs.map strV))) (hz : cs.length ≤ 7) (hy : runs cs = some y) (h : P (.ref hp.length) (hp ++ [rowV y])) :
    Meets fns 0 fR [(Str.ofString "letters", .ref r)] hp P := by
  intro g prog w A L a cdv n hn
  have hzz : (List.map strV cs).length ≤ 4096 := by simp; omega
  refine AX.cons ?_
  walk_at "go"
  refine AE.list (AEs.nil ⟨Nat.zero_le _, ?_⟩)
  walk_at "go"
  refine AS.forRange rfl ?_
  walk_at "go"
  refine AV.lenL (hp_old h0) hzz ?_
  walk_at "go"
  rw [List.length_map]
  refine ⟨_, _, _, _, .one cs.length (by omega), fun i σ' => ∃ x, loopO (runStep cs) [] i = some x ∧ σ'.loc (Str.ofString "letters") = some (.ref r) ∧ σ'.loc (Str.ofString "runs") = some (.ref hp.length) ∧ σ'.hp = hp ++ [rowV x],
    ⟨_, rfl, by walk_at "lk", by walk_at "lk", rfl⟩, ?_, ?_⟩
  · rintro i ⟨loc, hp'⟩ hi ⟨x, hx, hlt, hrn, rfl⟩
    dsimp only at hlt hrn ⊢
    rw [step1]
    obtain ⟨z, hz1, hz2⟩ := loopO_step hy hi hx
    obtain ⟨c, hc, hz1⟩ := get_some hz1
    have hlen := runs_len hx
    have hxl : (List.map V.int x).length ≤ 4096 := by simp; omega
    walk_at "go"
    by_cases h00 : i = 0
    · rw [if_pos h00] at hz1
      cases hz1
      subst h00
      rw [show decide ((0 : Int) < ((0 : Nat) : Int)) = false by decide]
      walk_at "go"
      refine ⟨⟨_, _, rfl, hp_new⟩, ?_⟩
      walk_at "go"
      refine AV.append hp_new (Nat.le_refl _) hxl ?_
      rw [hp_set, row_snoc]
      walk_at "go"
      exact ⟨_, hz2, by walk_at "lk", by walk_at "lk", rfl⟩
    · rw [if_neg h00] at hz1
      obtain ⟨c', hc', hz1⟩ := get_some hz1
      rw [show decide ((0 : Int) < (i : Int)) = true by simp; omega]
      walk_at "go"
      refine AV.at (hp_old h0) (by omega) (by omega) (x := strV c) (by simp [hc]) ?_
      walk_at "go"
      have hi1 : ((i : Int) - 1).toNat = i - 1 := by omega
      refine AV.at (hp_old h0) (by omega) (by omega) (x := strV c') (by rw [hi1]; simp [hc']) ?_
      refine AV.eqCh ?_
      walk_at "go"
      cases hcc : (c == c') with
      | true =>
        rw [if_pos hcc] at hz1
        obtain ⟨q, hq, hz1⟩ := get_some hz1
        cases hz1
        walk_at "go"
        refine AS.augItem ?_
        walk_at "go"
        refine AV.glast hp_new (x := .int q) (by simp [hq]) ?_
        walk_at "go"
        have hxp : 0 < x.length := by cases x with | nil => cases hq | cons => simp
        refine AW.last hp_new (Nat.le_refl _) (by simpa using hxp) hxl ?_
        rw [hp_set, List.length_map, row_set]
        walk_at "go"
        exact ⟨_, hz2, by walk_at "lk", by walk_at "lk", rfl⟩
      | false =>
        rw [if_neg (by rw [hcc]; decide)] at hz1
        cases hz1
        walk_at "go"
        refine ⟨⟨_, _, rfl, hp_new⟩, ?_⟩
        walk_at "go"
        refine AV.append hp_new (Nat.le_refl _) hxl ?_
        rw [hp_set, row_snoc]
        walk_at "go"
        exact ⟨_, hz2, by walk_at "lk", by walk_at "lk", rfl⟩
  · rintro ⟨loc, hp'⟩ ⟨x, hx, hlt, hrn, rfl⟩
    have : x = y := Option.some.inj (hx.symm.trans hy)
    subst this
    dsimp only at hlt hrn ⊢
    walk_at "go"
    exact h


end

/-! ## part 24 -/
section
local macro_rules | `(tactic| walk_at "lk1") => `(tactic| first | with_reducible assumption | with_reducible exact upd_same | ((with_reducible refine (upd_ne (by decide)).trans ?_); walk_at "lk1") | ((with_reducible refine (freeLoc_eq (by with_unfolding_all rfl)).trans ?_); walk_at "lk1"))
local macro_rules | `(tactic| walk_at "lk") => `(tactic| ((try dsimp only); walk_at "lk1"))
local macro_rules | `(tactic| walk_at "d") => `(tactic| try dsimp only [thenX, turnX, locOf])
local macro_rules | `(tactic| walk_at "st1") => `(tactic| (first
  | with_reducible refine AX.cons ?_
  | with_reducible refine AX.nil ?_
  | (with_reducible (show AE _ _ _ _); first | with_reducible refine AE.name (by walk_at "lk") ?_ (by with_unfolding_all rfl) (by decide) | with_reducible refine AE.cell (by walk_at "lk") ?_ (by with_unfolding_all rfl) (by first | with_unfolding_all rfl | with_unfolding_all exact looked (by assumption) (Or.inl rfl) | with_unfolding_all exact looked (by assumption) (Or.inr rfl)) (by decide) | with_reducible refine AE.int ?_ | with_reducible refine AE.flt ?_ | with_reducible refine AE.str ?_ | with_reducible refine AE.bool ?_ | with_reducible refine AE.binop ?_ | with_reducible refine AE.sliceAll ?_ (by intro _ _; with_unfolding_all rfl) | with_reducible refine AE.item ?_ | with_reducible refine AE.cmp ?_ (by with_unfolding_all rfl) | with_reducible refine AE.neg ?_ | with_reducible refine AE.cLen (by with_unfolding_all rfl) ?_ (by with_unfolding_all rfl) (by with_unfolding_all rfl) | with_reducible refine AE.cSum (by with_unfolding_all rfl) ?_ (by with_unfolding_all rfl) (by with_unfolding_all rfl) | with_reducible refine AE.cAbs (by with_unfolding_all rfl) ?_ (by with_unfolding_all rfl) (by with_unfolding_all rfl) | with_reducible refine AE.cMax (by with_unfolding_all rfl) ?_ (by with_unfolding_all rfl) (by with_unfolding_all rfl) | with_reducible refine AE.cFloat (by with_unfolding_all rfl) ?_ (by with_unfolding_all rfl) (by with_unfolding_all rfl) | with_reducible refine AE.cList (by with_unfolding_all rfl) ?_ (by with_unfolding_all rfl) (by with_unfolding_all rfl) | with_reducible refine AE.iStr (by with_unfolding_all rfl) (by with_unfolding_all rfl) ?_ (by with_unfolding_all rfl) (by with_unfolding_all rfl) | with_reducible refine AE.iTup (by with_unfolding_all rfl) (by with_unfolding_all rfl) ?_ (by with_unfolding_all rfl) (by with_unfolding_all rfl) | with_reducible refine AE.iInt (by with_unfolding_all rfl) (by with_unfolding_all rfl) ?_ (by with_unfolding_all rfl) (by with_unfolding_all rfl) | with_reducible refine AE.iList (by with_unfolding_all rfl) (by with_unfolding_all rfl) ?_ (by with_unfolding_all rfl) (by with_unfolding_all rfl) | with_reducible refine AE.mCount ?_ (by with_unfolding_all rfl) (by with_unfolding_all rfl) (by with_unfolding_all rfl) (by with_unfolding_all rfl) (by with_unfolding_all rfl) | with_reducible refine AE.mAppend ?_ (by with_unfolding_all rfl) (by with_unfolding_all rfl) (by with_unfolding_all rfl) (by with_unfolding_all rfl) (by with_unfolding_all rfl) | with_reducible refine AE.mExtend ?_ (by with_unfolding_all rfl) (by with_unfolding_all rfl) (by with_unfolding_all rfl) (by with_unfolding_all rfl) (by with_unfolding_all rfl) | with_reducible refine AE.mPop ?_ (by with_unfolding_all rfl) (by with_unfolding_all rfl) (by with_unfolding_all rfl) (by with_unfolding_all rfl) (by with_unfolding_all rfl) | with_reducible refine AE.mIndex ?_ (by with_unfolding_all rfl) (by with_unfolding_all rfl) (by with_unfolding_all rfl) (by with_unfolding_all rfl) (by with_unfolding_all rfl) | with_reducible refine AE.ifexp ?_)
  | (with_reducible (show AN _ _ _ _ _); first | with_reducible refine AN.loc ?_ (by with_unfolding_all rfl) (by with_unfolding_all rfl) | with_reducible refine AN.cell ?_ (by with_unfolding_all rfl) (by with_unfolding_all rfl))
  | (with_reducible (show AEs _ _ _ _); first | with_reducible refine AEs.cons ?_ (by with_unfolding_all rfl) | with_reducible refine AEs.nil ?_)
  | (with_reducible (show AT _ _ _ _); first | with_reducible refine AT.cmp ?_ (by with_unfolding_all rfl) | with_reducible refine AT.not ?_ | with_reducible refine AT.andNil ?_ | with_reducible refine AT.and ?_ | with_reducible refine AT.orNil ?_ | with_reducible refine AT.or ?_ | with_reducible refine AT.val ?_ (by with_unfolding_all rfl))
  | (with_reducible (show AV _ _ _ _ _); first | with_reducible refine AV.isiStr_str ?_ | with_reducible refine AV.isiInt_str ?_ | with_reducible refine AV.isiInt_tuple ?_ | with_reducible refine AV.isiInt_int ?_ | with_reducible refine AV.isiStr_list ?_ | with_reducible refine AV.absF ?_ | with_reducible refine AV.floatF ?_ | with_reducible refine AV.fadd ?_ | with_reducible refine AV.fmul ?_ | with_reducible refine AV.ltFI ?_ | with_reducible refine AV.add ?_ | with_reducible refine AV.sub ?_ | with_reducible refine AV.eqI ?_ | with_reducible refine AV.neI ?_ | with_reducible refine AV.ltI ?_ | with_reducible refine AV.gtI ?_ | with_reducible refine AV.eqD ?_ | with_reducible refine AV.eqS ?_ | with_reducible refine AV.iadd ?_ | with_reducible refine AV.isub ?_)
  | (with_reducible (show AG _ _ _ _ _); first | with_reducible refine AG.name ?_)
  | (with_reducible (show AS _ _ _ _); first | with_reducible refine AS.ret ?_ | with_reducible refine AS.ite ?_ | with_reducible refine AS.brk ?_ | with_reducible refine AS.assign ?_ (by with_unfolding_all rfl) | with_reducible refine AS.aug (by walk_at "lk") ?_ (by with_unfolding_all rfl) | with_reducible refine AS.expr ?_ (by with_unfolding_all rfl) (by with_unfolding_all rfl))
  | (with_reducible (show AB _ _ _ _); first | with_reducible refine AB.bool ?_)
  | with_reducible refine itT ?_
  | with_reducible refine itF ?_
  | with_reducible refine ATs_nil ?_
  | with_reducible refine ⟨_, rfl, ?_⟩))
local macro_rules | `(tactic| walk_at "st") => `(tactic| (walk_at "st1"; walk_at "d"))
local macro_rules | `(tactic| walk_at "go") => `(tactic| repeat (first
  | dsimp only [thenX, turnX, locOf]
  | with_reducible refine AX.cons ?_
  | with_reducible refine AX.nil ?_
  | (with_reducible (show AE _ _ _ _); first | with_reducible refine AE.name (by walk_at "lk") ?_ (by with_unfolding_all rfl) (by decide) | with_reducible refine AE.cell (by walk_at "lk") ?_ (by with_unfolding_all rfl) (by first | with_unfolding_all rfl | with_unfolding_all exact looked (by assumption) (Or.inl rfl) | with_unfolding_all exact looked (by assumption) (Or.inr rfl)) (by decide) | with_reducible refine AE.int ?_ | with_reducible refine AE.flt ?_ | with_reducible refine AE.str ?_ | with_reducible refine AE.bool ?_ | with_reducible refine AE.binop ?_ | with_reducible refine AE.sliceAll ?_ (by intro _ _; with_unfolding_all rfl) | with_reducible refine AE.item ?_ | with_reducible refine AE.cmp ?_ (by with_unfolding_all rfl) | with_reducible refine AE.neg ?_ | with_reducible refine AE.cLen (by with_unfolding_all rfl) ?_ (by with_unfolding_all rfl) (by with_unfolding_all rfl) | with_reducible refine AE.cSum (by with_unfolding_all rfl) ?_ (by with_unfolding_all rfl) (by with_unfolding_all rfl) | with_reducible refine AE.cAbs (by with_unfolding_all rfl) ?_ (by with_unfolding_all rfl) (by with_unfolding_all rfl) | with_reducible refine AE.cMax (by with_unfolding_all rfl) ?_ (by with_unfolding_all rfl) (by with_unfolding_all rfl) | with_reducible refine AE.cFloat (by with_unfolding_all rfl) ?_ (by with_unfolding_all rfl) (by with_unfolding_all rfl) | with_reducible refine AE.cList (by with_unfolding_all rfl) ?_ (by with_unfolding_all rfl) (by with_unfolding_all rfl) | with_reducible refine AE.iStr (by with_unfolding_all rfl) (by with_unfolding_all rfl) ?_ (by with_unfolding_all rfl) (by with_unfolding_all rfl) | with_reducible refine AE.iTup (by with_unfolding_all rfl) (by with_unfolding_all rfl) ?_ (by with_unfolding_all rfl) (by with_unfolding_all rfl) | with_reducible refine AE.iInt (by with_unfolding_all rfl) (by with_unfolding_all rfl) ?_ (by with_unfolding_all rfl) (by with_unfolding_all rfl) | with_reducible refine AE.iList (by with_unfolding_all rfl) (by with_unfolding_all rfl) ?_ (by with_unfolding_all rfl) (by with_unfolding_all rfl) | with_reducible refine AE.mCount ?_ (by with_unfolding_all rfl) (by with_unfolding_all rfl) (by with_unfolding_all rfl) (by with_unfolding_all rfl) (by with_unfolding_all rfl) | with_reducible refine AE.mAppend ?_ (by with_unfolding_all rfl) (by with_unfolding_all rfl) (by with_unfolding_all rfl) (by with_unfolding_all rfl) (by with_unfolding_all rfl) | with_reducible refine AE.mExtend ?_ (by with_unfolding_all rfl) (by with_unfolding_all rfl) (by with_unfolding_all rfl) (by with_unfolding_all rfl) (by with_unfolding_all rfl) | with_reducible refine AE.mPop ?_ (by with_unfolding_all rfl) (by with_unfolding_all rfl) (by with_unfolding_all rfl) (by with_unfolding_all rfl) (by with_unfolding_all rfl) | with_reducible refine AE.mIndex ?_ (by with_unfolding_all rfl) (by with_unfolding_all rfl) (by with_unfolding_all rfl) (by with_unfolding_all rfl) (by with_unfolding_all rfl) | with_reducible refine AE.ifexp ?_)
  | (with_reducible (show AN _ _ _ _ _); first | with_reducible refine AN.loc ?_ (by with_unfolding_all rfl) (by with_unfolding_all rfl) | with_reducible refine AN.cell ?_ (by with_unfolding_all rfl) (by with_unfolding_all rfl))
  | (with_reducible (show AEs _ _ _ _); first | with_reducible refine AEs.cons ?_ (by with_unfolding_all rfl) | with_reducible refine AEs.nil ?_)
  | (with_reducible (show AT _ _ _ _); first | with_reducible refine AT.cmp ?_ (by with_unfolding_all rfl) | with_reducible refine AT.not ?_ | with_reducible refine AT.andNil ?_ | with_reducible refine AT.and ?_ | with_reducible refine AT.orNil ?_ | with_reducible refine AT.or ?_ | with_reducible refine AT.val ?_ (by with_unfolding_all rfl))
  | (with_reducible (show AV _ _ _ _ _); first | with_reducible refine AV.isiStr_str ?_ | with_reducible refine AV.isiInt_str ?_ | with_reducible refine AV.isiInt_tuple ?_ | with_reducible refine AV.isiInt_int ?_ | with_reducible refine AV.isiStr_list ?_ | with_reducible refine AV.absF ?_ | with_reducible refine AV.floatF ?_ | with_reducible refine AV.fadd ?_ | with_reducible refine AV.fmul ?_ | with_reducible refine AV.ltFI ?_ | with_reducible refine AV.add ?_ | with_reducible refine AV.sub ?_ | with_reducible refine AV.eqI ?_ | with_reducible refine AV.neI ?_ | with_reducible refine AV.ltI ?_ | with_reducible refine AV.gtI ?_ | with_reducible refine AV.eqD ?_ | with_reducible refine AV.eqS ?_ | with_reducible refine AV.iadd ?_ | with_reducible refine AV.isub ?_)
  | (with_reducible (show AG _ _ _ _ _); first | with_reducible refine AG.name ?_)
  | (with_reducible (show AS _ _ _ _); first | with_reducible refine AS.ret ?_ | with_reducible refine AS.ite ?_ | with_reducible refine AS.brk ?_ | with_reducible refine AS.assign ?_ (by with_unfolding_all rfl) | with_reducible refine AS.aug (by walk_at "lk") ?_ (by with_unfolding_all rfl) | with_reducible refine AS.expr ?_ (by with_unfolding_all rfl) (by with_unfolding_all rfl))
  | (with_reducible (show AB _ _ _ _); first | with_reducible refine AB.bool ?_)
  | with_reducible refine itT ?_
  | with_reducible refine itF ?_
  | with_reducible refine ATs_nil ?_
  | with_reducible refine ⟨_, rfl, ?_⟩))
theorem at0 {hp t : List O} {a : O} : (hp ++ a :: t)[hp.length]? = some a := by simp
theorem at1 {hp t : List O} {a b : O} : (hp ++ a :: b :: t)[hp.length + 1]? = some b := by simp
theorem set0 {hp t : List O} {a a' : O} : (hp ++ a :: t).set hp.length a' = hp ++ a' :: t := by simp
theorem set1 {hp t : List O} {a b b' : O} : (hp ++ a :: b :: t).set (hp.length + 1) b' = hp ++ a :: b' :: t := by simp
theorem app2 {hp t u : List O} {a b : O} : (hp ++ a :: b :: t) ++ u = hp ++ a :: b :: (t ++ u) := by simp
theorem new2 {hp t u : List O} {a b c : O} : (hp ++ a :: b :: (t ++ c :: u))[(hp ++ a :: b :: t).length]? = some c := by
  rw [show hp ++ a :: b :: (t ++ c :: u) = (hp ++ a :: b :: t) ++ c :: u by simp]; exact at0
theorem rep_eq (n : Nat) (c : Bool) : (List.replicate n [strV c]).flatten = (List.replicate n c).map strV := by simp
theorem strs_app (l m : List Bool) : O.lst (l.map strV ++ m.map strV) = O.lst ((l ++ m).map strV) := by simp

/-! uncompact, of runs -/
def uncO : List Int → List Bool → Option (List Bool)
  | [], acc => some acc
  | [a], acc => chk (decide (0 ≤ a) && decide (a ≤ 9) && decide (acc.length ≤ 99)) (some (acc ++ List.replicate a.toNat true))
  | a :: b :: r, acc => chk (decide (0 ≤ a) && decide (a ≤ 9) && decide (acc.length ≤ 99) && (decide (0 ≤ b) && decide (b ≤ 9) && decide (r.length ≤ 99))) (uncO r (acc ++ List.replicate a.toNat true ++ List.replicate b.toNat false))
theorem okU {v : V} : FnOK fU [(Str.ofString "creation_sequence", v)] := ⟨rfl, rfl, rfl, by decide +kernel, fun n x hx => by rw [List.mem_singleton.mp hx]; exact .inl rfl⟩
theorem bindU {v : V} : Binds fU [v] [] [(Str.ofString "creation_sequence", v)] := Binds.one rfl fun _ _ _ _ _ _ => rfl
theorem meetU {r : Nat} {a : Int} {xs : List Int} {hp : List O} {P : V → List O → Prop} {y : List Bool} (h0 : hp[r]? = some (rowV (a :: xs))) (hz : xs.length ≤ 99) (hy : uncO (a :: xs) [] = some y)
    (h : ∀ i t, (hp ++ t)[i]? = some (.lst (y.map strV)) → hp.length ≤ i → P (.ref i) (hp ++ t)) : Meets fns 0 fU [(Str.ofString "creation_sequence", .ref r)] hp P := by
  intro g prog w A L a' cdv n hn
  refine AX.cons ?_
  walk_at "go"
  refine AV.at h0 (by omega) (by omega) (x := .int a) (by simp) ?_
  walk_at "go"
  refine ⟨_, _, rfl, h0, by simp; omega, ?_⟩
  walk_at "go"
  refine AE.list (AEs.nil ⟨Nat.zero_le _, ?_⟩)
  walk_at "go"
  rw [show hp ++ [O.lst (List.map V.int (a :: xs))] ++ [O.lst []] = hp ++ rowV (a :: xs) :: O.lst (([] : List Bool).map strV) :: [] by simp [rowV]]
  rw [show (hp ++ [O.lst (List.map V.int (a :: xs))]).length = hp.length + 1 by simp]
  refine AS.while (fun k σ' => ∃ rest acc t, k = rest.length ∧ rest.length ≤ 100 ∧ uncO rest acc = some y ∧ σ'.loc (Str.ofString "ccscopy") = some (.ref hp.length) ∧ σ'.loc (Str.ofString "cs") = some (.ref (hp.length + 1)) ∧ σ'.hp = hp ++ rowV rest :: .lst (acc.map strV) :: t) (a :: xs).length
    ⟨a :: xs, [], [], rfl, by simp; omega, hy, by walk_at "lk", by walk_at "lk", rfl⟩ ?_
  rintro k ⟨loc, hp'⟩ ⟨rest, acc, t, rfl, hrl, hu, hcc, hcs, rfl⟩
  dsimp only at hcc hcs ⊢
  walk_at "go"
  refine AB.list at0 (by simp; omega) ?_
  cases rest with
  | nil =>
    rw [show (!(List.map V.int ([] : List Int)).isEmpty) = false by rfl]
    cases hu
    walk_at "go"
    exact h _ _ at1 (Nat.le_succ _)
  | cons b rest =>
    rw [show (!(List.map V.int (b :: rest)).isEmpty) = true by rfl]
    walk_at "go"
    refine ⟨⟨_, _, rfl, at1⟩, ?_⟩
    walk_at "go"
    refine ⟨⟨_, _, rfl, at0⟩, ?_⟩
    walk_at "go"
    have hrl' : rest.length ≤ 99 := by simp at hrl; omega
    have hb : 0 ≤ b ∧ b ≤ 9 ∧ acc.length ≤ 99 := by
      cases rest with
      | nil => obtain ⟨c, _⟩ := chk_some hu; simp at c; exact ⟨c.1.1, c.1.2, c.2⟩
      | cons d rest => obtain ⟨c, _⟩ := chk_some hu; simp at c; exact ⟨c.1.1.1, c.1.1.2, c.1.2⟩
    refine AV.pop0 (v := .int b) (vs := rest.map V.int) at0 (Nat.le_refl _) (by simp; omega) ?_
    rw [set0, show O.lst (rest.map V.int) = rowV rest from rfl]
    refine AE.list ?_
    walk_at "go"
    refine ⟨by decide, ?_⟩
    rw [app2]
    refine AV.mulListR (vs := [strV true]) new2 hb.1 (by simp; omega) (by omega) ?_
    walk_at "go"
    rw [rep_eq, app2, List.append_assoc]
    refine AV.extend at1 (by rw [← List.append_assoc]; exact new2) (Nat.le_succ _) (by simp; omega) ?_
    rw [set1, strs_app]
    walk_at "go"
    refine AB.list at0 (by simp; omega) ?_
    cases rest with
    | nil =>
      rw [show (!(List.map V.int ([] : List Int)).isEmpty) = false by rfl]
      obtain ⟨_, hu⟩ := chk_some hu
      walk_at "go"
      exact ⟨0, by simp, [], acc ++ List.replicate b.toNat true, _, rfl, by simp, hu, by walk_at "lk", by walk_at "lk", rfl⟩
    | cons d rest =>
      rw [show (!(List.map V.int (d :: rest)).isEmpty) = true by rfl]
      obtain ⟨c, hu⟩ := chk_some hu
      have hd : 0 ≤ d ∧ d ≤ 9 := by simp at c; exact ⟨c.2.1.1, c.2.1.2⟩
      walk_at "go"
      refine ⟨⟨_, _, rfl, at1⟩, ?_⟩
      walk_at "go"
      refine ⟨⟨_, _, rfl, at0⟩, ?_⟩
      walk_at "go"
      refine AV.pop0 (v := .int d) (vs := rest.map V.int) at0 (Nat.le_refl _) (by simp at hrl'; simp; omega) ?_
      rw [set0, show O.lst (rest.map V.int) = rowV rest from rfl]
      refine AE.list ?_
      walk_at "go"
      refine ⟨by decide, ?_⟩
      rw [app2]
      refine AV.mulListR (vs := [strV false]) new2 hd.1 (by simp; omega) (by omega) ?_
      walk_at "go"
      rw [rep_eq, app2, List.append_assoc]
      refine AV.extend at1 (by rw [← List.append_assoc]; exact new2) (Nat.le_succ _) (by simp; omega) ?_
      rw [set1, strs_app]
      walk_at "go"
      exact ⟨_, by simp; omega, _, _, _, rfl, by simp at hrl'; omega, hu, by walk_at "lk", by walk_at "lk", rfl⟩


end

/-! ## part 25 -/
section
local macro_rules | `(tactic| walk_at "lk1") => `(tactic| first | with_reducible assumption | with_reducible exact upd_same | ((with_reducible refine (upd_ne (by decide)).trans ?_); walk_at "lk1") | ((with_reducible refine (freeLoc_eq (by with_unfolding_all rfl)).trans ?_); walk_at "lk1"))
local macro_rules | `(tactic| walk_at "lk") => `(tactic| ((try dsimp only); walk_at "lk1"))
local macro_rules | `(tactic| walk_at "d") => `(tactic| try dsimp only [thenX, turnX, locOf])
local macro_rules | `(tactic| walk_at "st1") => `(tactic| (first
  | with_reducible refine AX.cons ?_
  | with_reducible refine AX.nil ?_
  | (with_reducible (show AE _ _ _ _); first | with_reducible refine AE.name (by walk_at "lk") ?_ (by with_unfolding_all rfl) (by decide) | with_reducible refine AE.cell (by walk_at "lk") ?_ (by with_unfolding_all rfl) (by first | with_unfolding_all rfl | with_unfolding_all exact looked (by assumption) (Or.inl rfl) | with_unfolding_all exact looked (by assumption) (Or.inr rfl)) (by decide) | with_reducible refine AE.int ?_ | with_reducible refine AE.flt ?_ | with_reducible refine AE.str ?_ | with_reducible refine AE.bool ?_ | with_reducible refine AE.binop ?_ | with_reducible refine AE.sliceAll ?_ (by intro _ _; with_unfolding_all rfl) | with_reducible refine AE.item ?_ | with_reducible refine AE.cmp ?_ (by with_unfolding_all rfl) | with_reducible refine AE.neg ?_ | with_reducible refine AE.cLen (by with_unfolding_all rfl) ?_ (by with_unfolding_all rfl) (by with_unfolding_all rfl) | with_reducible refine AE.cSum (by with_unfolding_all rfl) ?_ (by with_unfolding_all rfl) (by with_unfolding_all rfl) | with_reducible refine AE.cAbs (by with_unfolding_all rfl) ?_ (by with_unfolding_all rfl) (by with_unfolding_all rfl) | with_reducible refine AE.cMax (by with_unfolding_all rfl) ?_ (by with_unfolding_all rfl) (by with_unfolding_all rfl) | with_reducible refine AE.cFloat (by with_unfolding_all rfl) ?_ (by with_unfolding_all rfl) (by with_unfolding_all rfl) | with_reducible refine AE.cList (by with_unfolding_all rfl) ?_ (by with_unfolding_all rfl) (by with_unfolding_all rfl) | with_reducible refine AE.iStr (by with_unfolding_all rfl) (by with_unfolding_all rfl) ?_ (by with_unfolding_all rfl) (by with_unfolding_all rfl) | with_reducible refine AE.iTup (by with_unfolding_all rfl) (by with_unfolding_all rfl) ?_ (by with_unfolding_all rfl) (by with_unfolding_all rfl) | with_reducible refine AE.iInt (by with_unfolding_all rfl) (by with_unfolding_all rfl) ?_ (by with_unfolding_all rfl) (by with_unfolding_all rfl) | with_reducible refine AE.iList (by with_unfolding_all rfl) (by with_unfolding_all rfl) ?_ (by with_unfolding_all rfl) (by with_unfolding_all rfl) | with_reducible refine AE.mCount ?_ (by with_unfolding_all rfl) (by with_unfolding_all rfl) (by with_unfolding_all rfl) (by with_unfolding_all rfl) (by with_unfolding_all rfl) | with_reducible refine AE.mAppend ?_ (by with_unfolding_all rfl) (by with_unfolding_all rfl) (by with_unfolding_all rfl) (by with_unfolding_all rfl) (by with_unfolding_all rfl) | with_reducible refine AE.mExtend ?_ (by with_unfolding_all rfl) (by with_unfolding_all rfl) (by with_unfolding_all rfl) (by with_unfolding_all rfl) (by with_unfolding_all rfl) | with_reducible refine AE.mPop ?_ (by with_unfolding_all rfl) (by with_unfolding_all rfl) (by with_unfolding_all rfl) (by with_unfolding_all rfl) (by with_unfolding_all rfl) | with_reducible refine AE.mIndex ?_ (by with_unfolding_all rfl) (by with_unfolding_all rfl) (by with_unfolding_all rfl) (by with_unfolding_all rfl) (by with_unfolding_all rfl) | with_reducible refine AE.ifexp ?_)
  | (with_reducible (show AN _ _ _ _ _); first | with_reducible refine AN.loc ?_ (by with_unfolding_all rfl) (by with_unfolding_all rfl) | with_reducible refine AN.cell ?_ (by with_unfolding_all rfl) (by with_unfolding_all rfl))
  | (with_reducible (show AEs _ _ _ _); first | with_reducible refine AEs.cons ?_ (by with_unfolding_all rfl) | with_reducible refine AEs.nil ?_)
  | (with_reducible (show AT _ _ _ _); first | with_reducible refine AT.cmp ?_ (by with_unfolding_all rfl) | with_reducible refine AT.not ?_ | with_reducible refine AT.andNil ?_ | with_reducible refine AT.and ?_ | with_reducible refine AT.orNil ?_ | with_reducible refine AT.or ?_ | with_reducible refine AT.val ?_ (by with_unfolding_all rfl))
  | (with_reducible (show AV _ _ _ _ _); first | with_reducible refine AV.isiStr_str ?_ | with_reducible refine AV.isiInt_str ?_ | with_reducible refine AV.isiInt_tuple ?_ | with_reducible refine AV.isiInt_int ?_ | with_reducible refine AV.isiStr_list ?_ | with_reducible refine AV.absF ?_ | with_reducible refine AV.floatF ?_ | with_reducible refine AV.fadd ?_ | with_reducible refine AV.fmul ?_ | with_reducible refine AV.ltFI ?_ | with_reducible refine AV.add ?_ | with_reducible refine AV.sub ?_ | with_reducible refine AV.eqI ?_ | with_reducible refine AV.neI ?_ | with_reducible refine AV.ltI ?_ | with_reducible refine AV.gtI ?_ | with_reducible refine AV.eqD ?_ | with_reducible refine AV.eqS ?_ | with_reducible refine AV.iadd ?_ | with_reducible refine AV.isub ?_)
  | (with_reducible (show AG _ _ _ _ _); first | with_reducible refine AG.name ?_)
  | (with_reducible (show AS _ _ _ _); first | with_reducible refine AS.ret ?_ | with_reducible refine AS.ite ?_ | with_reducible refine AS.brk ?_ | with_reducible refine AS.assign ?_ (by with_unfolding_all rfl) | with_reducible refine AS.aug (by walk_at "lk") ?_ (by with_unfolding_all rfl) | with_reducible refine AS.expr ?_ (by with_unfolding_all rfl) (by with_unfolding_all rfl))
  | (with_reducible (show AB _ _ _ _); first | with_reducible refine AB.bool ?_)
  | with_reducible refine itT ?_
  | with_reducible refine itF ?_
  | with_reducible refine ATs_nil ?_
  | with_reducible refine ⟨_, rfl, ?_⟩))
local macro_rules | `(tactic| walk_at "st") => `(tactic| (walk_at "st1"; walk_at "d"))
local macro_rules | `(tactic| walk_at "go") => `(tactic| repeat (first
  | dsimp only [thenX, turnX, locOf]
  | with_reducible refine AX.cons ?_
  | with_reducible refine AX.nil ?_
  | (with_reducible (show AE _ _ _ _); first | with_reducible refine AE.name (by walk_at "lk") ?_ (by with_unfolding_all rfl) (by decide) | with_reducible refine AE.cell (by walk_at "lk") ?_ (by with_unfolding_all rfl) (by first | with_unfolding_all rfl | with_unfolding_all exact looked (by assumption) (Or.inl rfl) | with_unfolding_all exact looked (by assumption) (Or.inr rfl)) (by decide) | with_reducible refine AE.int ?_ | with_reducible refine AE.flt ?_ | with_reducible refine AE.str ?_ | with_reducible refine AE.bool ?_ | with_reducible refine AE.binop ?_ | with_reducible refine AE.sliceAll ?_ (by intro _ _; with_unfolding_all rfl) | with_reducible refine AE.item ?_ | with_reducible refine AE.cmp ?_ (by with_unfolding_all rfl) | with_reducible refine AE.neg ?_ | with_reducible refine AE.cLen (by with_unfolding_all rfl) ?_ (by with_unfolding_all rfl) (by with_unfolding_all rfl) | with_reducible refine AE.cSum (by with_unfolding_all rfl) ?_ (by with_unfolding_all rfl) (by with_unfolding_all rfl) | with_reducible refine AE.cAbs (by with_unfolding_all rfl) ?_ (by with_unfolding_all rfl) (by with_unfolding_all rfl) | with_reducible refine AE.cMax (by with_unfolding_all rfl) ?_ (by with_unfolding_all rfl) (by with_unfolding_all rfl) | with_reducible refine AE.cFloat (by with_unfolding_all rfl) ?_ (by with_unfolding_all rfl) (by with_unfolding_all rfl) | with_reducible refine AE.cList (by with_unfolding_all rfl) ?_ (by with_unfolding_all rfl) (by with_unfolding_all rfl) | with_reducible refine AE.iStr (by with_unfolding_all rfl) (by with_unfolding_all rfl) ?_ (by with_unfolding_all rfl) (by with_unfolding_all rfl) | with_reducible refine AE.iTup (by with_unfolding_all rfl) (by with_unfolding_all rfl) ?_ (by with_unfolding_all rfl) (by with_unfolding_all rfl) | with_reducible refine AE.iInt (by with_unfolding_all rfl) (by with_unfolding_all rfl) ?_ (by with_unfolding_all rfl) (by with_unfolding_all rfl) | with_reducible refine AE.iList (by with_unfolding_all rfl) (by with_unfolding_all rfl) ?_ (by with_unfolding_all rfl) (by with_unfolding_all rfl) | with_reducible refine AE.mCount ?_ (by with_unfolding_all rfl) (by with_unfolding_all rfl) (by with_unfolding_all rfl) (by with_unfolding_all rfl) (by with_unfolding_all rfl) | with_reducible refine AE.mAppend ?_ (by with_unfolding_all rfl) (by with_unfolding_all rfl) (by with_unfolding_all rfl) (by with_unfolding_all rfl) (by with_unfolding_all rfl) | with_reducible refine AE.mExtend ?_ (by with_unfolding_all rfl) (by with_unfolding_all rfl) (by with_unfolding_all rfl) (by with_unfolding_all rfl) (by with_unfolding_all rfl) | with_reducible refine AE.mPop ?_ (by with_unfolding_all rfl) (by with_unfolding_all rfl) (by with_unfolding_all rfl) (by with_unfolding_all rfl) (by with_unfolding_all rfl) | with_reducible refine AE.mIndex ?_ (by with_unfolding_all rfl) (by with_unfolding_all rfl) (by with_unfolding_all rfl) (by with_unfolding_all rfl) (by with_unfolding_all rfl) | with_reducible refine AE.ifexp ?_)
  | (with_reducible (show AN _ _ _ _ _); first | with_reducible refine AN.loc ?_ (by with_unfolding_all rfl) (by with_unfolding_all rfl) | with_reducible refine AN.cell ?_ (by with_unfolding_all rfl) (by with_unfolding_all rfl))
  | (with_reducible (show AEs _ _ _ _); first | with_reducible refine AEs.cons ?_ (by with_unfolding_all rfl) | with_reducible refine AEs.nil ?_)
  | (with_reducible (show AT _ _ _ _); first | with_reducible refine AT.cmp ?_ (by with_unfolding_all rfl) | with_reducible refine AT.not ?_ | with_reducible refine AT.andNil ?_ | with_reducible refine AT.and ?_ | with_reducible refine AT.orNil ?_ | with_reducible refine AT.or ?_ | with_reducible refine AT.val ?_ (by with_unfolding_all rfl))
  | (with_reducible (show AV _ _ _ _ _); first | with_reducible refine AV.isiStr_str ?_ | with_reducible refine AV.isiInt_str ?_ | with_reducible refine AV.isiInt_tuple ?_ | with_reducible refine AV.isiInt_int ?_ | with_reducible refine AV.isiStr_list ?_ | with_reducible refine AV.absF ?_ | with_reducible refine AV.floatF ?_ | with_reducible refine AV.fadd ?_ | with_reducible refine AV.fmul ?_ | with_reducible refine AV.ltFI ?_ | with_reducible refine AV.add ?_ | with_reducible refine AV.sub ?_ | with_reducible refine AV.eqI ?_ | with_reducible refine AV.neI ?_ | with_reducible refine AV.ltI ?_ | with_reducible refine AV.gtI ?_ | with_reducible refine AV.eqD ?_ | with_reducible refine AV.eqS ?_ | with_reducible refine AV.iadd ?_ | with_reducible refine AV.isub ?_)
  | (with_reducible (show AG _ _ _ _ _); first | with_reducible refine AG.name ?_)
  | (with_reducible (show AS _ _ _ _); first | with_reducible refine AS.ret ?_ | with_reducible refine AS.ite ?_ | with_reducible refine AS.brk ?_ | with_reducible refine AS.assign ?_ (by with_unfolding_all rfl) | with_reducible refine AS.aug (by walk_at "lk") ?_ (by with_unfolding_all rfl) | with_reducible refine AS.expr ?_ (by with_unfolding_all rfl) (by with_unfolding_all rfl))
  | (with_reducible (show AB _ _ _ _); first | with_reducible refine AB.bool ?_)
  | with_reducible refine itT ?_
  | with_reducible refine itF ?_
  | with_reducible refine ATs_nil ?_
  | with_reducible refine ⟨_, rfl, ?_⟩))
theorem at3 {hp t : List O} {a b c d : O} : (hp ++ a :: b :: c :: d :: t)[hp.length + 3]? = some d := by simp
theorem set3 {hp t : List O} {a b c d d' : O} : (hp ++ a :: b :: c :: d :: t).set (hp.length + 3) d' = hp ++ a :: b :: c :: d' :: t := by simp
theorem idx {l : List Int} {k : Nat} {x : Int} (h : l[k]? = some x) : (l.map V.int)[((k : Nat) : Int).toNat]? = some (V.int x) := by rw [Int.toNat_natCast, List.getElem?_map, h]; rfl

/-! _law_from -/
def rowN (l : List Nat) : O := .lst (l.map fun (k : Nat) => V.int (k : Int))
def hopO (level : Nat) (node : Nat) (_ : Nat) (o : Nat) (st : List Int × List Int) : Option (List Int × List Int) :=
  get st.1[o]? fun s =>
    if s == -1 then get st.2[o]? fun a => get st.2[node]? fun b => some (st.1.set o ((level : Int) + 1), st.2.set o (a + b))
    else if s == (level : Int) + 1 then get st.2[o]? fun a => get st.2[node]? fun b => some (st.1, st.2.set o (a + b))
    else some st
def nodeO (R : List (List Nat)) (level : Nat) (node : Nat) (st : List Int × List Int) : Option (List Int × List Int) :=
  get st.1[node]? fun s => if s == (level : Int) then get R[node]? fun row => walkO row (hopO level node) st row.length else some st
def levelO (R : List (List Nat)) (level : Nat) (st : List Int × List Int) : Option (List Int × List Int) := loopO (nodeO R level) st R.length
def from0 (n start : Nat) : List Int × List Int := ((List.replicate n (-1)).set start 0, (List.replicate n 0).set start 1)
def lawFrom (R : List (List Nat)) (start : Nat) : Option (List Int × List Int) := chk (decide (start < R.length)) (loopO (levelO R) (from0 R.length start) R.length)

/-- rows that stand in the heap -/
def RowsAt (hp : List O) (r : Nat) (R : List (List Nat)) : Prop := ∃ js : List Nat, hp[r]? = some (.lst (js.map V.ref)) ∧ js.length = R.length ∧ ∀ (k : Nat) (row : List Nat), R[k]? = some row → ∃ j : Nat, js[k]? = some j ∧ hp[j]? = some (rowN row)
theorem RowsAt.app {hp t : List O} {r : Nat} {R : List (List Nat)} (h : RowsAt hp r R) : RowsAt (hp ++ t) r R := by
  obtain ⟨js, h1, h2, h3⟩ := h
  refine ⟨js, hp_old h1, h2, fun k row e => ?_⟩
  obtain ⟨j, e1, e2⟩ := h3 k row e
  exact ⟨j, e1, hp_old e2⟩
theorem okW {v w : V} : FnOK fW [(Str.ofString "rows", v), (Str.ofString "start", w)] := by
  refine ⟨rfl, rfl, rfl, by decide +kernel, fun n x hx => .inl ?_⟩
  rcases List.mem_cons.mp hx with rfl | hx
  · rfl
  rw [List.mem_singleton.mp hx]; rfl
theorem bindW {v w : V} : Binds fW [v, w] [] [(Str.ofString "rows", v), (Str.ofString "start", w)] := Binds.two rfl fun _ _ _ _ _ _ _ => rfl

def fromH (hp : List O) (st : List Int × List Int) : List O := hp ++ rowV [-1] :: rowV st.1 :: rowV [0] :: rowV st.2 :: []
theorem rep_row (n : Nat) (x : Int) : O.lst (List.replicate n [V.int x]).flatten = rowV (List.replicate n x) := by simp [rowV]

structure FW (n r l : Nat) (loc : Str → Option V) : Prop where
  rows : loc (Str.ofString "rows") = some (.ref r)
  size : loc (Str.ofString "size") = some (.int n)
  steps : loc (Str.ofString "steps") = some (.ref (l + 1))
  ways : loc (Str.ofString "ways") = some (.ref (l + 3))

set_option maxHeartbeats 4000000 in
theorem meetW {r : Nat} {R : List (List Nat)} {hp : List O} {P : V → List O → Prop} {start : Nat} {y : List Int × List Int} (h0 : RowsAt hp r R) (hz : R.length ≤ 7) (hy : lawFrom R start = some y)
    (h : P (.ref (hp.length + 4)) (fromH hp y ++ [.tup [.ref (hp.length + 1), .ref (hp.length + 3)]])) :
    Meets fns 0 fW [(Str.ofString "rows", .ref r), (Str.ofString "start", .int start)] hp P := by
  intro g prog w A L a cdv n hn
  obtain ⟨js, hr, hjl, hrow⟩ := h0
  obtain ⟨hst, hy⟩ := chk_some hy
  have hst : start < R.length := of_decide_eq_true hst
  have hjz : (js.map V.ref).length ≤ 4096 := by simp; omega
  refine AX.cons ?_
  walk_at "go"
  refine AV.lenL hr hjz ?_
  walk_at "go"
  rw [List.length_map, hjl]
  refine AS.swap ?_ (by with_unfolding_all rfl) (by with_unfolding_all rfl)
  walk_at "go"
  refine AE.list ?_
  walk_at "go"
  refine ⟨by decide, ?_⟩
  walk_at "go"
  refine AV.mulList (vs := [.int (-1)]) hp_new (by omega) (by simp; omega) (by omega) ?_
  rw [Int.toNat_natCast, rep_row]
  walk_at "go"
  refine AE.list ?_
  walk_at "go"
  refine ⟨by decide, ?_⟩
  walk_at "go"
  refine AV.mulList (vs := [.int 0]) hp_new (by omega) (by simp; omega) (by omega) ?_
  rw [Int.toNat_natCast, rep_row]
  walk_at "go"
  refine ⟨_, _, rfl, ?_⟩
  walk_at "go"
  have e0 : hp ++ [O.lst [V.int (-1)]] ++ [rowV (List.replicate R.length (-1))] ++ [O.lst [V.int 0]] ++ [rowV (List.replicate R.length 0)] = fromH hp (List.replicate R.length (-1), List.replicate R.length 0) := by simp [fromH, rowV]
  have e1 : (hp ++ [O.lst [V.int (-1)]]).length = hp.length + 1 := by simp
  have e3 : (hp ++ [O.lst [V.int (-1)]] ++ [rowV (List.replicate R.length (-1))] ++ [O.lst [V.int 0]]).length = hp.length + 3 := by simp
  rw [e0, e1, e3]
  refine AS.pairs ?_ (by with_unfolding_all rfl) (by with_unfolding_all rfl) (by with_unfolding_all rfl)
  walk_at "go"
  refine ⟨_, _, rfl, ?_⟩
  refine AG.sub ?_
  walk_at "go"
  unfold fromH
  refine AW.at at1 (Nat.le_succ _) (by omega) (by simp; omega) (by simp; omega) ?_
  rw [set1, Int.toNat_natCast, row_set]
  refine AG.sub ?_
  walk_at "go"
  refine AW.at at3 (Nat.le_add_right _ _) (by omega) (by simp; omega) (by simp; omega) ?_
  rw [set3, Int.toNat_natCast, row_set]
  walk_at "go"
  rw [show hp ++ rowV [-1] :: rowV ((List.replicate R.length (-1)).set start 0) :: rowV [0] :: rowV ((List.replicate R.length 0).set start 1) :: [] = fromH hp (from0 R.length start) from rfl]
  refine AS.forRange rfl ?_
  walk_at "go"
  refine ⟨_, _, _, _, .one R.length (by omega), fun lv σ' => ∃ st, loopO (levelO R) (from0 R.length start) lv = some st ∧ (st.1.length = R.length ∧ st.2.length = R.length) ∧ FW R.length r hp.length σ'.loc ∧ σ'.hp = fromH hp st,
    ⟨_, rfl, by simp [from0], ⟨by walk_at "lk", by walk_at "lk", by walk_at "lk", by walk_at "lk"⟩, rfl⟩, ?_, ?_⟩
  · rintro lv ⟨loc, hp'⟩ hlv ⟨st, hst, ⟨hl1, hl2⟩, ⟨l1, l2, l3, l4⟩, rfl⟩
    dsimp only at l1 l2 l3 l4 ⊢
    rw [step1]
    obtain ⟨z, hz1, hz2⟩ := loopO_step hy hlv hst
    walk_at "go"
    refine AS.forRange rfl ?_
    walk_at "go"
    refine ⟨_, _, _, _, .one R.length (by omega), fun nd σ' => ∃ st', loopO (nodeO R lv) st nd = some st' ∧ (st'.1.length = R.length ∧ st'.2.length = R.length) ∧ FW R.length r hp.length σ'.loc ∧ σ'.loc (Str.ofString "level") = some (.int lv) ∧ σ'.hp = fromH hp st',
      ⟨_, rfl, ⟨hl1, hl2⟩, ⟨by walk_at "lk", by walk_at "lk", by walk_at "lk", by walk_at "lk"⟩, by walk_at "lk", rfl⟩, ?_, ?_⟩
    · rintro nd ⟨loc', hp'⟩ hnd ⟨st', hst', ⟨hl1', hl2'⟩, ⟨m1, m2, m3, m4⟩, m5, rfl⟩
      dsimp only at m1 m2 m3 m4 m5 ⊢
      rw [step1]
      obtain ⟨z', hz1', hz2'⟩ := loopO_step hz1 hnd hst'
      obtain ⟨s, hs, hz1'⟩ := get_some hz1'
      walk_at "go"
      refine AV.at at1 (by omega) (by omega) (idx hs) ?_
      walk_at "go"
      cases hsl : (s == (lv : Int)) with
      | false =>
        rw [if_neg (by rw [hsl]; decide)] at hz1'
        cases hz1'
        walk_at "go"
        exact ⟨_, hz2', ⟨hl1', hl2'⟩, ⟨by walk_at "lk", by walk_at "lk", by walk_at "lk", by walk_at "lk"⟩, by walk_at "lk", rfl⟩
      | true =>
        rw [if_pos hsl] at hz1'
        obtain ⟨row, hrw, hz1'⟩ := get_some hz1'
        obtain ⟨j, hj, hjr⟩ := hrow nd row hrw
        have hjlt : j < hp.length := (List.getElem?_eq_some_iff.mp hjr).1
        walk_at "go"
        refine AS.forList ?_ (by intro _; with_unfolding_all rfl)
        walk_at "go"
        refine AV.at (hp_old hr) (by omega) (by omega) (x := .ref j) (by rw [Int.toNat_natCast, List.getElem?_map, hj]; rfl) ?_
        refine ⟨j, _, rfl, hp_old hjr, hjlt, fun i σ' => ∃ st'', walkO row (hopO lv nd) st' i = some st'' ∧ (st''.1.length = R.length ∧ st''.2.length = R.length) ∧ FW R.length r hp.length σ'.loc ∧ σ'.loc (Str.ofString "level") = some (.int lv) ∧ σ'.loc (Str.ofString "node") = some (.int nd) ∧ σ'.hp = fromH hp st'',
          ⟨_, rfl, ⟨hl1', hl2'⟩, ⟨by walk_at "lk", by walk_at "lk", by walk_at "lk", by walk_at "lk"⟩, by walk_at "lk", by walk_at "lk", rfl⟩, ?_, ?_⟩
        · rintro i ⟨loc'', hp'⟩ v hv ⟨st'', hst'', ⟨hl1'', hl2''⟩, ⟨n1, n2, n3, n4⟩, n5, n6, rfl⟩
          dsimp only at n1 n2 n3 n4 n5 n6 ⊢
          rw [List.getElem?_map] at hv
          cases ho : row[i]? with
          | none => rw [ho] at hv; cases hv
          | some o =>
            rw [ho] at hv; cases hv
            have hi : i < row.length := (List.getElem?_eq_some_iff.mp ho).1
            obtain ⟨q, hq1, hq2⟩ := walkO_step hz1' hi hst'' ho
            obtain ⟨s2, hs2, hq1⟩ := get_some hq1
            have holt : o < R.length := hl1'' ▸ (List.getElem?_eq_some_iff.mp hs2).1
            walk_at "go"
            refine AV.at at1 (by omega) (by omega) (idx hs2) ?_
            walk_at "go"
            cases h1 : (s2 == (-1 : Int)) with
            | true =>
              rw [if_pos h1] at hq1
              obtain ⟨wa, hwa, hq1⟩ := get_some hq1
              obtain ⟨wb, hwb, hq1⟩ := get_some hq1
              cases hq1
              walk_at "go"
              refine AS.setItem ?_ (by with_unfolding_all rfl)
              walk_at "go"
              unfold fromH
              refine AW.at at1 (Nat.le_succ _) (by omega) (by simp; omega) (by simp; omega) ?_
              rw [set1, Int.toNat_natCast, row_set]
              walk_at "go"
              refine AV.at at1 (by omega) (by omega) (idx (l := st''.1.set o ((lv : Int) + 1)) (x := (lv : Int) + 1) (by rw [List.getElem?_set_self (by omega)])) ?_
              walk_at "go"
              rw [beq_self_eq_true]
              walk_at "go"
              refine AS.augItem ?_
              walk_at "go"
              refine AV.gat at3 (by omega) (by omega) (idx hwa) ?_
              walk_at "go"
              refine AV.at at3 (by omega) (by omega) (idx hwb) ?_
              walk_at "go"
              refine AW.at at3 (Nat.le_add_right _ _) (by omega) (by simp; omega) (by simp; omega) ?_
              rw [set3, Int.toNat_natCast, row_set]
              walk_at "go"
              exact ⟨_, hq2, by simp; omega, ⟨by walk_at "lk", by walk_at "lk", by walk_at "lk", by walk_at "lk"⟩, by walk_at "lk", by walk_at "lk", rfl⟩
            | false =>
              rw [if_neg (by rw [h1]; decide)] at hq1
              walk_at "go"
              refine AV.at at1 (by omega) (by omega) (idx hs2) ?_
              walk_at "go"
              cases h2 : (s2 == (lv : Int) + 1) with
              | true =>
                rw [if_pos h2] at hq1
                obtain ⟨wa, hwa, hq1⟩ := get_some hq1
                obtain ⟨wb, hwb, hq1⟩ := get_some hq1
                cases hq1
                walk_at "go"
                refine AS.augItem ?_
                walk_at "go"
                refine AV.gat at3 (by omega) (by omega) (idx hwa) ?_
                walk_at "go"
                refine AV.at at3 (by omega) (by omega) (idx hwb) ?_
                walk_at "go"
                unfold fromH
                refine AW.at at3 (Nat.le_add_right _ _) (by omega) (by simp; omega) (by simp; omega) ?_
                rw [set3, Int.toNat_natCast, row_set]
                walk_at "go"
                exact ⟨_, hq2, by simp; omega, ⟨by walk_at "lk", by walk_at "lk", by walk_at "lk", by walk_at "lk"⟩, by walk_at "lk", by walk_at "lk", rfl⟩
              | false =>
                rw [if_neg (by rw [h2]; decide)] at hq1
                cases hq1
                walk_at "go"
                exact ⟨_, hq2, ⟨hl1'', hl2''⟩, ⟨by walk_at "lk", by walk_at "lk", by walk_at "lk", by walk_at "lk"⟩, by walk_at "lk", by walk_at "lk", rfl⟩
        · rintro ⟨loc'', hp'⟩ ⟨st'', hst'', hl'', ⟨n1, n2, n3, n4⟩, n5, n6, rfl⟩
          dsimp only at n1 n2 n3 n4 n5 n6 ⊢
          rw [List.length_map] at hst''
          have e : st'' = z' := Option.some.inj (hst''.symm.trans hz1')
          subst e
          walk_at "go"
          exact ⟨_, hz2', hl'', ⟨n1, n2, n3, n4⟩, n5, rfl⟩
    · rintro ⟨loc', hp'⟩ ⟨st', hst', hl', ⟨m1, m2, m3, m4⟩, m5, rfl⟩
      dsimp only at m1 m2 m3 m4 m5 ⊢
      have e : st' = z := Option.some.inj (hst'.symm.trans hz1)
      subst e
      walk_at "go"
      exact ⟨_, hz2, hl', ⟨m1, m2, m3, m4⟩, rfl⟩
  · rintro ⟨loc, hp'⟩ ⟨st, hst, hl, ⟨l1, l2, l3, l4⟩, rfl⟩
    dsimp only at l1 l2 l3 l4 ⊢
    have e : st = y := Option.some.inj (hst.symm.trans hy)
    subst e
    walk_at "go"
    refine AE.tuple ?_
    walk_at "go"
    refine ⟨by show 2 ≤ 4096; decide, ?_⟩
    have : (fromH hp st).length = hp.length + 4 := by simp [fromH]
    rw [this]
    walk_at "go"
    exact h


end

/-! ## part 26 -/
section
local macro_rules | `(tactic| walk_at "lk1") => `(tactic| first | with_reducible assumption | with_reducible exact upd_same | ((with_reducible refine (upd_ne (by decide)).trans ?_); walk_at "lk1") | ((with_reducible refine (freeLoc_eq (by with_unfolding_all rfl)).trans ?_); walk_at "lk1"))
local macro_rules | `(tactic| walk_at "lk") => `(tactic| ((try dsimp only); walk_at "lk1"))
local macro_rules | `(tactic| walk_at "d") => `(tactic| try dsimp only [thenX, turnX, locOf])
local macro_rules | `(tactic| walk_at "st1") => `(tactic| (first
  | with_reducible refine AX.cons ?_
  | with_reducible refine AX.nil ?_
  | (with_reducible (show AE _ _ _ _); first | with_reducible refine AE.name (by walk_at "lk") ?_ (by with_unfolding_all rfl) (by decide) | with_reducible refine AE.cell (by walk_at "lk") ?_ (by with_unfolding_all rfl) (by first | with_unfolding_all rfl | with_unfolding_all exact looked (by assumption) (Or.inl rfl) | with_unfolding_all exact looked (by assumption) (Or.inr rfl)) (by decide) | with_reducible refine AE.int ?_ | with_reducible refine AE.flt ?_ | with_reducible refine AE.str ?_ | with_reducible refine AE.bool ?_ | with_reducible refine AE.binop ?_ | with_reducible refine AE.sliceAll ?_ (by intro _ _; with_unfolding_all rfl) | with_reducible refine AE.item ?_ | with_reducible refine AE.cmp ?_ (by with_unfolding_all rfl) | with_reducible refine AE.neg ?_ | with_reducible refine AE.cLen (by with_unfolding_all rfl) ?_ (by with_unfolding_all rfl) (by with_unfolding_all rfl) | with_reducible refine AE.cSum (by with_unfolding_all rfl) ?_ (by with_unfolding_all rfl) (by with_unfolding_all rfl) | with_reducible refine AE.cAbs (by with_unfolding_all rfl) ?_ (by with_unfolding_all rfl) (by with_unfolding_all rfl) | with_reducible refine AE.cMax (by with_unfolding_all rfl) ?_ (by with_unfolding_all rfl) (by with_unfolding_all rfl) | with_reducible refine AE.cFloat (by with_unfolding_all rfl) ?_ (by with_unfolding_all rfl) (by with_unfolding_all rfl) | with_reducible refine AE.cList (by with_unfolding_all rfl) ?_ (by with_unfolding_all rfl) (by with_unfolding_all rfl) | with_reducible refine AE.iStr (by with_unfolding_all rfl) (by with_unfolding_all rfl) ?_ (by with_unfolding_all rfl) (by with_unfolding_all rfl) | with_reducible refine AE.iTup (by with_unfolding_all rfl) (by with_unfolding_all rfl) ?_ (by with_unfolding_all rfl) (by with_unfolding_all rfl) | with_reducible refine AE.iInt (by with_unfolding_all rfl) (by with_unfolding_all rfl) ?_ (by with_unfolding_all rfl) (by with_unfolding_all rfl) | with_reducible refine AE.iList (by with_unfolding_all rfl) (by with_unfolding_all rfl) ?_ (by with_unfolding_all rfl) (by with_unfolding_all rfl) | with_reducible refine AE.mCount ?_ (by with_unfolding_all rfl) (by with_unfolding_all rfl) (by with_unfolding_all rfl) (by with_unfolding_all rfl) (by with_unfolding_all rfl) | with_reducible refine AE.mAppend ?_ (by with_unfolding_all rfl) (by with_unfolding_all rfl) (by with_unfolding_all rfl) (by with_unfolding_all rfl) (by with_unfolding_all rfl) | with_reducible refine AE.mExtend ?_ (by with_unfolding_all rfl) (by with_unfolding_all rfl) (by with_unfolding_all rfl) (by with_unfolding_all rfl) (by with_unfolding_all rfl) | with_reducible refine AE.mPop ?_ (by with_unfolding_all rfl) (by with_unfolding_all rfl) (by with_unfolding_all rfl) (by with_unfolding_all rfl) (by with_unfolding_all rfl) | with_reducible refine AE.mIndex ?_ (by with_unfolding_all rfl) (by with_unfolding_all rfl) (by with_unfolding_all rfl) (by with_unfolding_all rfl) (by with_unfolding_all rfl) | with_reducible refine AE.ifexp ?_)
  | (with_reducible (show AN _ _ _ _ _); first | with_reducible refine AN.loc ?_ (by with_unfolding_all rfl) (by with_unfolding_all rfl) | with_reducible refine AN.cell ?_ (by with_unfolding_all rfl) (by with_unfolding_all rfl))
  | (with_reducible (show AEs _ _ _ _); first | with_reducible refine AEs.cons ?_ (by with_unfolding_all rfl) | with_reducible refine AEs.nil ?_)
  | (with_reducible (show AT _ _ _ _); first | with_reducible refine AT.cmp ?_ (by with_unfolding_all rfl) | with_reducible refine AT.not ?_ | with_reducible refine AT.andNil ?_ | with_reducible refine AT.and ?_ | with_reducible refine AT.orNil ?_ | with_reducible refine AT.or ?_ | with_reducible refine AT.val ?_ (by with_unfolding_all rfl))
  | (with_reducible (show AV _ _ _ _ _); first | with_reducible refine AV.isiStr_str ?_ | with_reducible refine AV.isiInt_str ?_ | with_reducible refine AV.isiInt_tuple ?_ | with_reducible refine AV.isiInt_int ?_ | with_reducible refine AV.isiStr_list ?_ | with_reducible refine AV.absF ?_ | with_reducible refine AV.floatF ?_ | with_reducible refine AV.fadd ?_ | with_reducible refine AV.fmul ?_ | with_reducible refine AV.ltFI ?_ | with_reducible refine AV.add ?_ | with_reducible refine AV.sub ?_ | with_reducible refine AV.eqI ?_ | with_reducible refine AV.neI ?_ | with_reducible refine AV.ltI ?_ | with_reducible refine AV.gtI ?_ | with_reducible refine AV.eqD ?_ | with_reducible refine AV.eqS ?_ | with_reducible refine AV.iadd ?_ | with_reducible refine AV.isub ?_)
  | (with_reducible (show AG _ _ _ _ _); first | with_reducible refine AG.name ?_)
  | (with_reducible (show AS _ _ _ _); first | with_reducible refine AS.ret ?_ | with_reducible refine AS.ite ?_ | with_reducible refine AS.brk ?_ | with_reducible refine AS.assign ?_ (by with_unfolding_all rfl) | with_reducible refine AS.aug (by walk_at "lk") ?_ (by with_unfolding_all rfl) | with_reducible refine AS.expr ?_ (by with_unfolding_all rfl) (by with_unfolding_all rfl))
  | (with_reducible (show AB _ _ _ _); first | with_reducible refine AB.bool ?_)
  | with_reducible refine itT ?_
  | with_reducible refine itF ?_
  | with_reducible refine ATs_nil ?_
  | with_reducible refine ⟨_, rfl, ?_⟩))
local macro_rules | `(tactic| walk_at "st") => `(tactic| (walk_at "st1"; walk_at "d"))
local macro_rules | `(tactic| walk_at "go") => `(tactic| repeat (first
  | dsimp only [thenX, turnX, locOf]
  | with_reducible refine AX.cons ?_
  | with_reducible refine AX.nil ?_
  | (with_reducible (show AE _ _ _ _); first | with_reducible refine AE.name (by walk_at "lk") ?_ (by with_unfolding_all rfl) (by decide) | with_reducible refine AE.cell (by walk_at "lk") ?_ (by with_unfolding_all rfl) (by first | with_unfolding_all rfl | with_unfolding_all exact looked (by assumption) (Or.inl rfl) | with_unfolding_all exact looked (by assumption) (Or.inr rfl)) (by decide) | with_reducible refine AE.int ?_ | with_reducible refine AE.flt ?_ | with_reducible refine AE.str ?_ | with_reducible refine AE.bool ?_ | with_reducible refine AE.binop ?_ | with_reducible refine AE.sliceAll ?_ (by intro _ _; with_unfolding_all rfl) | with_reducible refine AE.item ?_ | with_reducible refine AE.cmp ?_ (by with_unfolding_all rfl) | with_reducible refine AE.neg ?_ | with_reducible refine AE.cLen (by with_unfolding_all rfl) ?_ (by with_unfolding_all rfl) (by with_unfolding_all rfl) | with_reducible refine AE.cSum (by with_unfolding_all rfl) ?_ (by with_unfolding_all rfl) (by with_unfolding_all rfl) | with_reducible refine AE.cAbs (by with_unfolding_all rfl) ?_ (by with_unfolding_all rfl) (by with_unfolding_all rfl) | with_reducible refine AE.cMax (by with_unfolding_all rfl) ?_ (by with_unfolding_all rfl) (by with_unfolding_all rfl) | with_reducible refine AE.cFloat (by with_unfolding_all rfl) ?_ (by with_unfolding_all rfl) (by with_unfolding_all rfl) | with_reducible refine AE.cList (by with_unfolding_all rfl) ?_ (by with_unfolding_all rfl) (by with_unfolding_all rfl) | with_reducible refine AE.iStr (by with_unfolding_all rfl) (by with_unfolding_all rfl) ?_ (by with_unfolding_all rfl) (by with_unfolding_all rfl) | with_reducible refine AE.iTup (by with_unfolding_all rfl) (by with_unfolding_all rfl) ?_ (by with_unfolding_all rfl) (by with_unfolding_all rfl) | with_reducible refine AE.iInt (by with_unfolding_all rfl) (by with_unfolding_all rfl) ?_ (by with_unfolding_all rfl) (by with_unfolding_all rfl) | with_reducible refine AE.iList (by with_unfolding_all rfl) (by with_unfolding_all rfl) ?_ (by with_unfolding_all rfl) (by with_unfolding_all rfl) | with_reducible refine AE.mCount ?_ (by with_unfolding_all rfl) (by with_unfolding_all rfl) (by with_unfolding_all rfl) (by with_unfolding_all rfl) (by with_unfolding_all rfl) | with_reducible refine AE.mAppend ?_ (by with_unfolding_all rfl) (by with_unfolding_all rfl) (by with_unfolding_all rfl) (by with_unfolding_all rfl) (by with_unfolding_all rfl) | with_reducible refine AE.mExtend ?_ (by with_unfolding_all rfl) (by with_unfolding_all rfl) (by with_unfolding_all rfl) (by with_unfolding_all rfl) (by with_unfolding_all rfl) | with_reducible refine AE.mPop ?_ (by with_unfolding_all rfl) (by with_unfolding_all rfl) (by with_unfolding_all rfl) (by with_unfolding_all rfl) (by with_unfolding_all rfl) | with_reducible refine AE.mIndex ?_ (by with_unfolding_all rfl) (by with_unfolding_all rfl) (by with_unfolding_all rfl) (by with_unfolding_all rfl) (by with_unfolding_all rfl) | with_reducible refine AE.ifexp ?_)
  | (with_reducible (show AN _ _ _ _ _); first | with_reducible refine AN.loc ?_ (by with_unfolding_all rfl) (by with_unfolding_all rfl) | with_reducible refine AN.cell ?_ (by with_unfolding_all rfl) (by with_unfolding_all rfl))
  | (with_reducible (show AEs _ _ _ _); first | with_reducible refine AEs.cons ?_ (by with_unfolding_all rfl) | with_reducible refine AEs.nil ?_)
  | (with_reducible (show AT _ _ _ _); first | with_reducible refine AT.cmp ?_ (by with_unfolding_all rfl) | with_reducible refine AT.not ?_ | with_reducible refine AT.andNil ?_ | with_reducible refine AT.and ?_ | with_reducible refine AT.orNil ?_ | with_reducible refine AT.or ?_ | with_reducible refine AT.val ?_ (by with_unfolding_all rfl))
  | (with_reducible (show AV _ _ _ _ _); first | with_reducible refine AV.isiStr_str ?_ | with_reducible refine AV.isiInt_str ?_ | with_reducible refine AV.isiInt_tuple ?_ | with_reducible refine AV.isiInt_int ?_ | with_reducible refine AV.isiStr_list ?_ | with_reducible refine AV.absF ?_ | with_reducible refine AV.floatF ?_ | with_reducible refine AV.fadd ?_ | with_reducible refine AV.fmul ?_ | with_reducible refine AV.ltFI ?_ | with_reducible refine AV.add ?_ | with_reducible refine AV.sub ?_ | with_reducible refine AV.eqI ?_ | with_reducible refine AV.neI ?_ | with_reducible refine AV.ltI ?_ | with_reducible refine AV.gtI ?_ | with_reducible refine AV.eqD ?_ | with_reducible refine AV.eqS ?_ | with_reducible refine AV.iadd ?_ | with_reducible refine AV.isub ?_)
  | (with_reducible (show AG _ _ _ _ _); first | with_reducible refine AG.name ?_)
  | (with_reducible (show AS _ _ _ _); first | with_reducible refine AS.ret ?_ | with_reducible refine AS.ite ?_ | with_reducible refine AS.brk ?_ | with_reducible refine AS.assign ?_ (by with_unfolding_all rfl) | with_reducible refine AS.aug (by walk_at "lk") ?_ (by with_unfolding_all rfl) | with_reducible refine AS.expr ?_ (by with_unfolding_all rfl) (by with_unfolding_all rfl))
  | (with_reducible (show AB _ _ _ _); first | with_reducible refine AB.bool ?_)
  | with_reducible refine itT ?_
  | with_reducible refine itF ?_
  | with_reducible refine ATs_nil ?_
  | with_reducible refine ⟨_, rfl, ?_⟩))
/-! _law_between -/
def TabOf (hp : List O) (vs : List V) (T : List (List Int × List Int)) : Prop :=
  vs.length = T.length ∧ ∀ (k : Nat) (st : List Int × List Int), T[k]? = some st → ∃ j a b : Nat, vs[k]? = some (.ref j) ∧ hp[j]? = some (.tup [.ref a, .ref b]) ∧ hp[a]? = some (rowV st.1) ∧ hp[b]? = some (rowV st.2)
theorem TabOf.app {hp t : List O} {vs : List V} {T : List (List Int × List Int)} (h : TabOf hp vs T) : TabOf (hp ++ t) vs T := by
  refine ⟨h.1, fun k st e => ?_⟩
  obtain ⟨j, a, b, h1, h2, h3, h4⟩ := h.2 k st e
  exact ⟨j, a, b, h1, hp_old h2, hp_old h3, hp_old h4⟩
theorem TabOf.snoc {hp : List O} {vs : List V} {T : List (List Int × List Int)} {st : List Int × List Int} {j a b : Nat} (h : TabOf hp vs T) (h2 : hp[j]? = some (.tup [.ref a, .ref b])) (h3 : hp[a]? = some (rowV st.1)) (h4 : hp[b]? = some (rowV st.2)) :
    TabOf hp (vs ++ [.ref j]) (T ++ [st]) := by
  refine ⟨by simp [h.1], fun k st' e => ?_⟩
  by_cases hk : k < T.length
  · rw [List.getElem?_append_left hk] at e
    obtain ⟨j', a', b', g1, g2, g3, g4⟩ := h.2 k st' e
    exact ⟨j', a', b', getElem?_pre g1, g2, g3, g4⟩
  · rw [List.getElem?_append_right (Nat.le_of_not_lt hk)] at e
    have hk0 : k - T.length = 0 := by
      by_cases q : k - T.length = 0
      · exact q
      · have := (List.getElem?_eq_some_iff.mp e).1; simp at this; exact absurd this q
    rw [hk0] at e
    simp at e; subst e
    refine ⟨j, a, b, ?_, h2, h3, h4⟩
    have : k = vs.length := by rw [h.1]; omega
    rw [this]; simp
def rowOf (R : List (List Nat)) (k : Nat) (T : List (List Int × List Int)) : Option (List (List Int × List Int)) := get (lawFrom R k) fun st => some (T ++ [st])
def tabO (R : List (List Nat)) : Option (List (List Int × List Int)) := loopO (rowOf R) [] R.length
def midO (T : List (List Int × List Int)) (steps ways : List Int) (one other m : Nat) (w : List Int) : Option (List Int) :=
  get T[m]? fun bt =>
    if ((m : Int) != (one : Int)) then if ((m : Int) != (other : Int)) then get steps[m]? fun sm => if (sm != -1) then get bt.1[other]? fun bo => if (bo != -1) then get steps[other]? fun so =>
      if (sm + bo == so) then get w[m]? fun w0 => get ways[m]? fun wm => get bt.2[other]? fun tw => get ways[other]? fun wo =>
        chk (mulOk 420 wm && mulOk (420 * wm) tw && (!(wo == 0) && !(Builtin.divisionGoesByPylong (420 * wm * tw) wo))) (some (w.set m (w0 + (420 * wm * tw).fdiv wo)))
      else some w else some w else some w else some w else some w
def othO (T : List (List Int × List Int)) (steps ways : List Int) (n one other : Nat) (w : List Int) : Option (List Int) :=
  if ((other : Int) != (one : Int)) then get steps[other]? fun so => if (so != -1) then loopO (midO T steps ways one other) w n else some w else some w
def oneO (T : List (List Int × List Int)) (n one : Nat) (w : List Int) : Option (List Int) := get T[one]? fun st => loopO (othO T st.1 st.2 n one) w n
def betweenO (R : List (List Nat)) (T : List (List Int × List Int)) : Option (List Int) := loopO (oneO T R.length) (List.replicate R.length 0) R.length
theorem tab_len {R : List (List Nat)} : ∀ {i : Nat} {T : List (List Int × List Int)}, loopO (rowOf R) [] i = some T → T.length = i := by
  intro i
  induction i with
  | zero => intro T h; cases h; rfl
  | succ i ih =>
    intro T h
    obtain ⟨x, hx⟩ := loopO_le h i (Nat.le_succ _)
    have hs := (loopO_succ hx).symm.trans h
    obtain ⟨st, _, hs⟩ := get_some hs
    cases hs; simp [ih hx]
theorem okX {v : V} : FnOK fX [(Str.ofString "rows", v)] := ⟨rfl, rfl, rfl, by decide +kernel, fun n x hx => by rw [List.mem_singleton.mp hx]; exact .inr ⟨rfl, by rfl⟩⟩
theorem bindX {v : V} : Binds fX [v] [] [(Str.ofString "rows", v)] := Binds.one rfl fun _ _ _ _ _ _ => rfl

def btwH (hp : List O) (w : List Int) : List O := hp ++ rowV [0] :: rowV w :: []
structure XW (n l : Nat) (loc : Str → Option V) : Prop where
  size : loc (Str.ofString "size") = some (.int n)
  table : loc (Str.ofString "table") = some (.ref l)
  worth : loc (Str.ofString "worth") = some (.ref (l + 2))

set_option maxHeartbeats 8000000 in
theorem meetX {r : Nat} {R : List (List Nat)} {hp : List O} {P : V → List O → Prop} {T : List (List Int × List Int)} {y : List Int} (h0 : RowsAt hp r R) (hz : R.length ≤ 7) (hT : tabO R = some T) (hy : betweenO R T = some y)
    (h : ∀ i t, (hp ++ t)[i]? = some (rowV y) → hp.length ≤ i → P (.ref i) (hp ++ t)) :
    Meets fns 1 fX [(Str.ofString "rows", .ref r)] hp P := by
  intro g prog w A L a cdv n hn
  have h0' := h0
  obtain ⟨js, hr, hjl, hrow⟩ := h0
  have hjz : (js.map V.ref).length ≤ 4096 := by simp; omega
  refine AX.cons ?_
  walk_at "go"
  refine AV.lenL hr hjz ?_
  walk_at "go"
  rw [List.length_map, hjl]
  refine AS.compR (ScopeOK.fn rfl (by decide +kernel) (by decide +kernel) (.inl rfl)) rfl ?_ ⟨_, _, rfl, rfl⟩ rfl (by with_unfolding_all rfl) (by intro _; with_unfolding_all rfl)
  walk_at "go"
  refine ⟨_, _, _, _, .one R.length (by omega), fun i acc hp' => ∃ t Ti, hp' = hp ++ t ∧ loopO (rowOf R) [] i = some Ti ∧ TabOf hp' acc Ti, ⟨[], [], by simp, rfl, rfl, fun k st e => by simp at e⟩, ?_, ?_⟩
  · rintro cells C i acc hp' look hi ⟨t, Ti, rfl, hTi, hacc⟩
    dsimp only
    rw [step1]
    obtain ⟨z, hz1, hz2⟩ := loopO_step hT hi hTi
    obtain ⟨st, hst, hz1⟩ := get_some hz1
    cases hz1
    walk_at "go"
    refine AE.callF fW memW rfl hn ?_
    walk_at "go"
    refine ⟨_, bindW, okW, meetW h0'.app hz hst ?_⟩
    refine ⟨t ++ (rowV [-1] :: rowV st.1 :: rowV [0] :: rowV st.2 :: [.tup [.ref ((hp ++ t).length + 1), .ref ((hp ++ t).length + 3)]]), _, by simp [fromH], hz2, ?_⟩
    have e : fromH (hp ++ t) st ++ [O.tup [V.ref ((hp ++ t).length + 1), V.ref ((hp ++ t).length + 3)]] = (hp ++ t) ++ (rowV [-1] :: rowV st.1 :: rowV [0] :: rowV st.2 :: [.tup [.ref ((hp ++ t).length + 1), .ref ((hp ++ t).length + 3)]]) := by simp [fromH]
    rw [e]
    refine TabOf.snoc hacc.app (a := (hp ++ t).length + 1) (b := (hp ++ t).length + 3) ?_ at1 at3
    rw [List.getElem?_append_right (by omega)]
    simp
  · rintro acc hp' ⟨t, Ti, rfl, hTi, hacc⟩
    have e : Ti = T := Option.some.inj (hTi.symm.trans hT)
    subst e
    have hlen := tab_len hTi
    walk_at "go"
    refine AE.list ?_
    walk_at "go"
    refine ⟨by decide, ?_⟩
    walk_at "go"
    refine AV.mulList (vs := [.int 0]) hp_new (by omega) (by simp; omega) (by omega) ?_
    rw [Int.toNat_natCast, rep_row]
    obtain ⟨hpT, hE⟩ : ∃ x, x = hp ++ t ++ [O.lst acc] := ⟨_, rfl⟩
    obtain ⟨l, hl⟩ : ∃ x, x = (hp ++ t).length := ⟨_, rfl⟩
    have hTl : hpT.length = l + 1 := by rw [hE, hl]; simp; omega
    have hTa : hpT[l]? = some (.lst acc) := by rw [hE, hl]; exact hp_new
    have htab : TabOf hpT acc Ti := by rw [hE]; exact hacc.app
    have hble : hp.length ≤ l := by rw [hl]; simp
    rw [← hE, ← hl]
    have e1 : (hpT ++ [O.lst [V.int 0]]).length = l + 2 := by simp [hTl]
    rw [e1]
    rw [show hpT ++ [O.lst [V.int 0]] ++ [rowV (List.replicate R.length 0)] = btwH hpT (List.replicate R.length 0) by simp [btwH, rowV]]
    have look : ∀ w, (btwH hpT w)[l + 2]? = some (rowV w) := fun w => by rw [show l + 2 = hpT.length + 1 by omega]; exact at1
    have lookT : ∀ w, (btwH hpT w)[l]? = some (.lst acc) := fun w => hp_old hTa
    have accz : acc.length ≤ 4096 := by rw [htab.1]; omega
    have setW : ∀ w w', (btwH hpT w).set (l + 2) (rowV w') = btwH hpT w' := fun w w' => by rw [show l + 2 = hpT.length + 1 by omega]; exact set1
    walk_at "go"
    refine AS.forRange rfl ?_
    walk_at "go"
    refine ⟨_, _, _, _, .one R.length (by omega), fun one σ' => ∃ wt, loopO (oneO Ti R.length) (List.replicate R.length 0) one = some wt ∧ wt.length = R.length ∧ XW R.length l σ'.loc ∧ σ'.hp = btwH hpT wt,
      ⟨_, rfl, by simp, ⟨by walk_at "lk", by walk_at "lk", by walk_at "lk"⟩, rfl⟩, ?_, ?_⟩
    · rintro one ⟨loc, hp'⟩ hone ⟨wt, hwt, hwl, ⟨x1, x2, x3⟩, rfl⟩
      dsimp only at x1 x2 x3 ⊢
      rw [step1]
      obtain ⟨z, hz1, hz2⟩ := loopO_step hy hone hwt
      obtain ⟨st, hst, hz1⟩ := get_some hz1
      obtain ⟨jo, ao, bo, to1, to2, to3, to4⟩ := htab.2 one st hst
      walk_at "go"
      refine AS.unpack ?_ (by with_unfolding_all rfl) (by with_unfolding_all rfl) (by with_unfolding_all rfl)
      walk_at "go"
      refine AV.at (lookT wt) (by omega) (by omega) (x := .ref jo) (by rw [Int.toNat_natCast]; exact to1) ?_
      refine ⟨jo, _, _, rfl, hp_old to2, ?_⟩
      walk_at "go"
      refine AS.forRange rfl ?_
      walk_at "go"
      refine ⟨_, _, _, _, .one R.length (by omega), fun oth σ' => ∃ wt', loopO (othO Ti st.1 st.2 R.length one) wt oth = some wt' ∧ wt'.length = R.length ∧ XW R.length l σ'.loc ∧ σ'.loc (Str.ofString "one") = some (.int one) ∧ σ'.loc (Str.ofString "steps") = some (.ref ao) ∧ σ'.loc (Str.ofString "ways") = some (.ref bo) ∧ σ'.hp = btwH hpT wt',
        ⟨_, rfl, hwl, ⟨by walk_at "lk", by walk_at "lk", by walk_at "lk"⟩, by walk_at "lk", by walk_at "lk", by walk_at "lk", rfl⟩, ?_, ?_⟩
      · rintro oth ⟨loc', hp'⟩ hoth ⟨wt', hwt', hwl', ⟨m1, m2, m3⟩, m4, m5, m6, rfl⟩
        dsimp only at m1 m2 m3 m4 m5 m6 ⊢
        rw [step1]
        obtain ⟨z', hz1', hz2'⟩ := loopO_step hz1 hoth hwt'
        walk_at "go"
        unfold othO at hz1'
        cases hc : ((oth : Int) != (one : Int)) with
        | false =>
          rw [if_neg (by rw [hc]; decide)] at hz1'
          cases hz1'
          walk_at "go"
          exact ⟨_, hz2', hwl', ⟨by walk_at "lk", by walk_at "lk", by walk_at "lk"⟩, by walk_at "lk", by walk_at "lk", by walk_at "lk", rfl⟩
        | true =>
          rw [if_pos hc] at hz1'
          obtain ⟨so, hso, hz1'⟩ := get_some hz1'
          walk_at "go"
          refine AV.at (hp_old to3) (by omega) (by omega) (idx hso) ?_
          walk_at "go"
          cases hc2 : (so != -1) with
          | false =>
            rw [if_neg (by rw [hc2]; decide)] at hz1'
            cases hz1'
            walk_at "go"
            exact ⟨_, hz2', hwl', ⟨by walk_at "lk", by walk_at "lk", by walk_at "lk"⟩, by walk_at "lk", by walk_at "lk", by walk_at "lk", rfl⟩
          | true =>
            rw [if_pos hc2] at hz1'
            walk_at "go"
            refine AS.forRange rfl ?_
            walk_at "go"
            refine ⟨_, _, _, _, .one R.length (by omega), fun mid σ' => ∃ u, loopO (midO Ti st.1 st.2 one oth) wt' mid = some u ∧ u.length = R.length ∧ XW R.length l σ'.loc ∧ σ'.loc (Str.ofString "one") = some (.int one) ∧ σ'.loc (Str.ofString "other") = some (.int oth) ∧ σ'.loc (Str.ofString "steps") = some (.ref ao) ∧ σ'.loc (Str.ofString "ways") = some (.ref bo) ∧ σ'.hp = btwH hpT u,
              ⟨_, rfl, hwl', ⟨by walk_at "lk", by walk_at "lk", by walk_at "lk"⟩, by walk_at "lk", by walk_at "lk", by walk_at "lk", by walk_at "lk", rfl⟩, ?_, ?_⟩
            · rintro mid ⟨loc'', hp'⟩ hmid ⟨u, hu, hul, ⟨n1, n2, n3⟩, n4, n5, n6, n7, rfl⟩
              dsimp only at n1 n2 n3 n4 n5 n6 n7 ⊢
              rw [step1]
              obtain ⟨q, hq1, hq2⟩ := loopO_step hz1' hmid hu
              obtain ⟨bt, hbt, hq1⟩ := get_some hq1
              obtain ⟨jm, am, bm, tm1, tm2, tm3, tm4⟩ := htab.2 mid bt hbt
              walk_at "go"
              refine AS.unpack ?_ (by with_unfolding_all rfl) (by with_unfolding_all rfl) (by with_unfolding_all rfl)
              walk_at "go"
              refine AV.at (lookT u) (by omega) (by omega) (x := .ref jm) (by rw [Int.toNat_natCast]; exact tm1) ?_
              refine ⟨jm, _, _, rfl, hp_old tm2, ?_⟩
              walk_at "go"
              cases c1 : ((mid : Int) != (one : Int)) with
              | false =>
                rw [if_neg (by rw [c1]; decide)] at hq1
                cases hq1
                walk_at "go"
                exact ⟨_, hq2, hul, ⟨by walk_at "lk", by walk_at "lk", by walk_at "lk"⟩, by walk_at "lk", by walk_at "lk", by walk_at "lk", by walk_at "lk", rfl⟩
              | true =>
                rw [if_pos c1] at hq1
                walk_at "go"
                cases c2 : ((mid : Int) != (oth : Int)) with
                | false =>
                  rw [if_neg (by rw [c2]; decide)] at hq1
                  cases hq1
                  walk_at "go"
                  exact ⟨_, hq2, hul, ⟨by walk_at "lk", by walk_at "lk", by walk_at "lk"⟩, by walk_at "lk", by walk_at "lk", by walk_at "lk", by walk_at "lk", rfl⟩
                | true =>
                  rw [if_pos c2] at hq1
                  obtain ⟨sm, hsm, hq1⟩ := get_some hq1
                  walk_at "go"
                  refine AV.at (hp_old to3) (by omega) (by omega) (idx hsm) ?_
                  walk_at "go"
                  cases c3 : (sm != -1) with
                  | false =>
                    rw [if_neg (by rw [c3]; decide)] at hq1
                    cases hq1
                    walk_at "go"
                    exact ⟨_, hq2, hul, ⟨by walk_at "lk", by walk_at "lk", by walk_at "lk"⟩, by walk_at "lk", by walk_at "lk", by walk_at "lk", by walk_at "lk", rfl⟩
                  | true =>
                    rw [if_pos c3] at hq1
                    obtain ⟨bo', hbo', hq1⟩ := get_some hq1
                    walk_at "go"
                    refine AV.at (hp_old tm3) (by omega) (by omega) (idx hbo') ?_
                    walk_at "go"
                    cases c4 : (bo' != -1) with
                    | false =>
                      rw [if_neg (by rw [c4]; decide)] at hq1
                      cases hq1
                      walk_at "go"
                      exact ⟨_, hq2, hul, ⟨by walk_at "lk", by walk_at "lk", by walk_at "lk"⟩, by walk_at "lk", by walk_at "lk", by walk_at "lk", by walk_at "lk", rfl⟩
                    | true =>
                      rw [if_pos c4] at hq1
                      obtain ⟨so', hso', hq1⟩ := get_some hq1
                      walk_at "go"
                      refine AV.at (hp_old to3) (by omega) (by omega) (idx hsm) ?_
                      walk_at "go"
                      refine AV.at (hp_old tm3) (by omega) (by omega) (idx hbo') ?_
                      walk_at "go"
                      refine AV.at (hp_old to3) (by omega) (by omega) (idx hso') ?_
                      walk_at "go"
                      cases c5 : (sm + bo' == so') with
                      | false =>
                        rw [if_neg (by rw [c5]; decide)] at hq1
                        cases hq1
                        walk_at "go"
                        exact ⟨_, hq2, hul, ⟨by walk_at "lk", by walk_at "lk", by walk_at "lk"⟩, by walk_at "lk", by walk_at "lk", by walk_at "lk", by walk_at "lk", rfl⟩
                      | true =>
                        rw [if_pos c5] at hq1
                        obtain ⟨w0, hw0, hq1⟩ := get_some hq1
                        obtain ⟨wm, hwm, hq1⟩ := get_some hq1
                        obtain ⟨tw, htw, hq1⟩ := get_some hq1
                        obtain ⟨wo, hwo, hq1⟩ := get_some hq1
                        obtain ⟨ck, hq1⟩ := chk_some hq1
                        cases hq1
                        simp only [Bool.and_eq_true, Bool.not_eq_true', beq_eq_false_iff_ne] at ck
                        walk_at "go"
                        refine AS.augItem ?_
                        walk_at "go"
                        refine AV.gat (look u) (by omega) (by omega) (idx hw0) ?_
                        walk_at "go"
                        refine AV.at (hp_old to4) (by omega) (by omega) (idx hwm) ?_
                        refine AV.mul ?_ (mulOk_ok ck.1.1)
                        walk_at "go"
                        refine AV.at (hp_old tm4) (by omega) (by omega) (idx htw) ?_
                        refine AV.mul ?_ (mulOk_ok ck.1.2)
                        walk_at "go"
                        refine AV.at (hp_old to4) (by omega) (by omega) (idx hwo) ?_
                        refine AV.fdiv ck.2.1 ck.2.2 ?_
                        walk_at "go"
                        refine AW.at (look u) (by show hp.length ≤ l + 2; omega) (by omega) (by simp; omega) (by simp; omega) ?_
                        rw [Int.toNat_natCast, row_set, setW]
                        walk_at "go"
                        exact ⟨_, hq2, by simp; omega, ⟨by walk_at "lk", by walk_at "lk", by walk_at "lk"⟩, by walk_at "lk", by walk_at "lk", by walk_at "lk", by walk_at "lk", rfl⟩
            · rintro ⟨loc'', hp'⟩ ⟨u, hu, hul, ⟨n1, n2, n3⟩, n4, n5, n6, n7, rfl⟩
              dsimp only at n1 n2 n3 n4 n5 n6 n7 ⊢
              have e : u = z' := Option.some.inj (hu.symm.trans hz1')
              subst e
              walk_at "go"
              exact ⟨_, hz2', hul, ⟨n1, n2, n3⟩, n4, n6, n7, rfl⟩
      · rintro ⟨loc', hp'⟩ ⟨wt', hwt', hwl', ⟨m1, m2, m3⟩, m4, m5, m6, rfl⟩
        dsimp only at m1 m2 m3 m4 m5 m6 ⊢
        have e : wt' = z := Option.some.inj (hwt'.symm.trans hz1)
        subst e
        walk_at "go"
        exact ⟨_, hz2, hwl', ⟨m1, m2, m3⟩, rfl⟩
    · rintro ⟨loc, hp'⟩ ⟨wt, hwt, hwl, ⟨x1, x2, x3⟩, rfl⟩
      dsimp only at x1 x2 x3 ⊢
      have e : wt = y := Option.some.inj (hwt.symm.trans hy)
      subst e
      walk_at "go"
      have k := look wt
      rw [show btwH hpT wt = hp ++ (t ++ O.lst acc :: rowV [0] :: rowV wt :: []) by rw [btwH, hE]; simp] at k ⊢
      exact h _ _ k (by omega)


end

/-! ## part 27 -/
section
local macro_rules | `(tactic| walk_at "lk1") => `(tactic| first | with_reducible assumption | with_reducible exact upd_same | ((with_reducible refine (upd_ne (by decide)).trans ?_); walk_at "lk1") | ((with_reducible refine (freeLoc_eq (by with_unfolding_all rfl)).trans ?_); walk_at "lk1"))
local macro_rules | `(tactic| walk_at "lk") => `(tactic| ((try dsimp only); walk_at "lk1"))
local macro_rules | `(tactic| walk_at "d") => `(tactic| try dsimp only [thenX, turnX, locOf])
local macro_rules | `(tactic| walk_at "st1") => `(tactic| (first
  | with_reducible refine AX.cons ?_
  | with_reducible refine AX.nil ?_
  | (with_reducible (show AE _ _ _ _); first | with_reducible refine AE.name (by walk_at "lk") ?_ (by with_unfolding_all rfl) (by decide) | with_reducible refine AE.cell (by walk_at "lk") ?_ (by with_unfolding_all rfl) (by first | with_unfolding_all rfl | with_unfolding_all exact looked (by assumption) (Or.inl rfl) | with_unfolding_all exact looked (by assumption) (Or.inr rfl)) (by decide) | with_reducible refine AE.int ?_ | with_reducible refine AE.flt ?_ | with_reducible refine AE.str ?_ | with_reducible refine AE.bool ?_ | with_reducible refine AE.binop ?_ | with_reducible refine AE.sliceAll ?_ (by intro _ _; with_unfolding_all rfl) | with_reducible refine AE.item ?_ | with_reducible refine AE.cmp ?_ (by with_unfolding_all rfl) | with_reducible refine AE.neg ?_ | with_reducible refine AE.cLen (by with_unfolding_all rfl) ?_ (by with_unfolding_all rfl) (by with_unfolding_all rfl) | with_reducible refine AE.cSum (by with_unfolding_all rfl) ?_ (by with_unfolding_all rfl) (by with_unfolding_all rfl) | with_reducible refine AE.cAbs (by with_unfolding_all rfl) ?_ (by with_unfolding_all rfl) (by with_unfolding_all rfl) | with_reducible refine AE.cMax (by with_unfolding_all rfl) ?_ (by with_unfolding_all rfl) (by with_unfolding_all rfl) | with_reducible refine AE.cFloat (by with_unfolding_all rfl) ?_ (by with_unfolding_all rfl) (by with_unfolding_all rfl) | with_reducible refine AE.cList (by with_unfolding_all rfl) ?_ (by with_unfolding_all rfl) (by with_unfolding_all rfl) | with_reducible refine AE.iStr (by with_unfolding_all rfl) (by with_unfolding_all rfl) ?_ (by with_unfolding_all rfl) (by with_unfolding_all rfl) | with_reducible refine AE.iTup (by with_unfolding_all rfl) (by with_unfolding_all rfl) ?_ (by with_unfolding_all rfl) (by with_unfolding_all rfl) | with_reducible refine AE.iInt (by with_unfolding_all rfl) (by with_unfolding_all rfl) ?_ (by with_unfolding_all rfl) (by with_unfolding_all rfl) | with_reducible refine AE.iList (by with_unfolding_all rfl) (by with_unfolding_all rfl) ?_ (by with_unfolding_all rfl) (by with_unfolding_all rfl) | with_reducible refine AE.mCount ?_ (by with_unfolding_all rfl) (by with_unfolding_all rfl) (by with_unfolding_all rfl) (by with_unfolding_all rfl) (by with_unfolding_all rfl) | with_reducible refine AE.mAppend ?_ (by with_unfolding_all rfl) (by with_unfolding_all rfl) (by with_unfolding_all rfl) (by with_unfolding_all rfl) (by with_unfolding_all rfl) | with_reducible refine AE.mExtend ?_ (by with_unfolding_all rfl) (by with_unfolding_all rfl) (by with_unfolding_all rfl) (by with_unfolding_all rfl) (by with_unfolding_all rfl) | with_reducible refine AE.mPop ?_ (by with_unfolding_all rfl) (by with_unfolding_all rfl) (by with_unfolding_all rfl) (by with_unfolding_all rfl) (by with_unfolding_all rfl) | with_reducible refine AE.mIndex ?_ (by with_unfolding_all rfl) (by with_unfolding_all rfl) (by with_unfolding_all rfl) (by with_unfolding_all rfl) (by with_unfolding_all rfl) | with_reducible refine AE.ifexp ?_)
  | (with_reducible (show AN _ _ _ _ _); first | with_reducible refine AN.loc ?_ (by with_unfolding_all rfl) (by with_unfolding_all rfl) | with_reducible refine AN.cell ?_ (by with_unfolding_all rfl) (by with_unfolding_all rfl))
  | (with_reducible (show AEs _ _ _ _); first | with_reducible refine AEs.cons ?_ (by with_unfolding_all rfl) | with_reducible refine AEs.nil ?_)
  | (with_reducible (show AT _ _ _ _); first | with_reducible refine AT.cmp ?_ (by with_unfolding_all rfl) | with_reducible refine AT.not ?_ | with_reducible refine AT.andNil ?_ | with_reducible refine AT.and ?_ | with_reducible refine AT.orNil ?_ | with_reducible refine AT.or ?_ | with_reducible refine AT.val ?_ (by with_unfolding_all rfl))
  | (with_reducible (show AV _ _ _ _ _); first | with_reducible refine AV.isiStr_str ?_ | with_reducible refine AV.isiInt_str ?_ | with_reducible refine AV.isiInt_tuple ?_ | with_reducible refine AV.isiInt_int ?_ | with_reducible refine AV.isiStr_list ?_ | with_reducible refine AV.absF ?_ | with_reducible refine AV.floatF ?_ | with_reducible refine AV.fadd ?_ | with_reducible refine AV.fmul ?_ | with_reducible refine AV.ltFI ?_ | with_reducible refine AV.add ?_ | with_reducible refine AV.sub ?_ | with_reducible refine AV.eqI ?_ | with_reducible refine AV.neI ?_ | with_reducible refine AV.ltI ?_ | with_reducible refine AV.gtI ?_ | with_reducible refine AV.eqD ?_ | with_reducible refine AV.eqS ?_ | with_reducible refine AV.iadd ?_ | with_reducible refine AV.isub ?_)
  | (with_reducible (show AG _ _ _ _ _); first | with_reducible refine AG.name ?_)
  | (with_reducible (show AS _ _ _ _); first | with_reducible refine AS.ret ?_ | with_reducible refine AS.ite ?_ | with_reducible refine AS.brk ?_ | with_reducible refine AS.assign ?_ (by with_unfolding_all rfl) | with_reducible refine AS.aug (by walk_at "lk") ?_ (by with_unfolding_all rfl) | with_reducible refine AS.expr ?_ (by with_unfolding_all rfl) (by with_unfolding_all rfl))
  | (with_reducible (show AB _ _ _ _); first | with_reducible refine AB.bool ?_)
  | with_reducible refine itT ?_
  | with_reducible refine itF ?_
  | with_reducible refine ATs_nil ?_
  | with_reducible refine ⟨_, rfl, ?_⟩))
local macro_rules | `(tactic| walk_at "st") => `(tactic| (walk_at "st1"; walk_at "d"))
local macro_rules | `(tactic| walk_at "go") => `(tactic| repeat (first
  | dsimp only [thenX, turnX, locOf]
  | with_reducible refine AX.cons ?_
  | with_reducible refine AX.nil ?_
  | (with_reducible (show AE _ _ _ _); first | with_reducible refine AE.name (by walk_at "lk") ?_ (by with_unfolding_all rfl) (by decide) | with_reducible refine AE.cell (by walk_at "lk") ?_ (by with_unfolding_all rfl) (by first | with_unfolding_all rfl | with_unfolding_all exact looked (by assumption) (Or.inl rfl) | with_unfolding_all exact looked (by assumption) (Or.inr rfl)) (by decide) | with_reducible refine AE.int ?_ | with_reducible refine AE.flt ?_ | with_reducible refine AE.str ?_ | with_reducible refine AE.bool ?_ | with_reducible refine AE.binop ?_ | with_reducible refine AE.sliceAll ?_ (by intro _ _; with_unfolding_all rfl) | with_reducible refine AE.item ?_ | with_reducible refine AE.cmp ?_ (by with_unfolding_all rfl) | with_reducible refine AE.neg ?_ | with_reducible refine AE.cLen (by with_unfolding_all rfl) ?_ (by with_unfolding_all rfl) (by with_unfolding_all rfl) | with_reducible refine AE.cSum (by with_unfolding_all rfl) ?_ (by with_unfolding_all rfl) (by with_unfolding_all rfl) | with_reducible refine AE.cAbs (by with_unfolding_all rfl) ?_ (by with_unfolding_all rfl) (by with_unfolding_all rfl) | with_reducible refine AE.cMax (by with_unfolding_all rfl) ?_ (by with_unfolding_all rfl) (by with_unfolding_all rfl) | with_reducible refine AE.cFloat (by with_unfolding_all rfl) ?_ (by with_unfolding_all rfl) (by with_unfolding_all rfl) | with_reducible refine AE.cList (by with_unfolding_all rfl) ?_ (by with_unfolding_all rfl) (by with_unfolding_all rfl) | with_reducible refine AE.iStr (by with_unfolding_all rfl) (by with_unfolding_all rfl) ?_ (by with_unfolding_all rfl) (by with_unfolding_all rfl) | with_reducible refine AE.iTup (by with_unfolding_all rfl) (by with_unfolding_all rfl) ?_ (by with_unfolding_all rfl) (by with_unfolding_all rfl) | with_reducible refine AE.iInt (by with_unfolding_all rfl) (by with_unfolding_all rfl) ?_ (by with_unfolding_all rfl) (by with_unfolding_all rfl) | with_reducible refine AE.iList (by with_unfolding_all rfl) (by with_unfolding_all rfl) ?_ (by with_unfolding_all rfl) (by with_unfolding_all rfl) | with_reducible refine AE.mCount ?_ (by with_unfolding_all rfl) (by with_unfolding_all rfl) (by with_unfolding_all rfl) (by with_unfolding_all rfl) (by with_unfolding_all rfl) | with_reducible refine AE.mAppend ?_ (by with_unfolding_all rfl) (by with_unfolding_all rfl) (by with_unfolding_all rfl) (by with_unfolding_all rfl) (by with_unfolding_all rfl) | with_reducible refine AE.mExtend ?_ (by with_unfolding_all rfl) (by with_unfolding_all rfl) (by with_unfolding_all rfl) (by with_unfolding_all rfl) (by with_unfolding_all rfl) | with_reducible refine AE.mPop ?_ (by with_unfolding_all rfl) (by with_unfolding_all rfl) (by with_unfolding_all rfl) (by with_unfolding_all rfl) (by with_unfolding_all rfl) | with_reducible refine AE.mIndex ?_ (by with_unfolding_all rfl) (by with_unfolding_all rfl) (by with_unfolding_all rfl) (by with_unfolding_all rfl) (by with_unfolding_all rfl) | with_reducible refine AE.ifexp ?_)
  | (with_reducible (show AN _ _ _ _ _); first | with_reducible refine AN.loc ?_ (by with_unfolding_all rfl) (by with_unfolding_all rfl) | with_reducible refine AN.cell ?_ (by with_unfolding_all rfl) (by with_unfolding_all rfl))
  | (with_reducible (show AEs _ _ _ _); first | with_reducible refine AEs.cons ?_ (by with_unfolding_all rfl) | with_reducible refine AEs.nil ?_)
  | (with_reducible (show AT _ _ _ _); first | with_reducible refine AT.cmp ?_ (by with_unfolding_all rfl) | with_reducible refine AT.not ?_ | with_reducible refine AT.andNil ?_ | with_reducible refine AT.and ?_ | with_reducible refine AT.orNil ?_ | with_reducible refine AT.or ?_ | with_reducible refine AT.val ?_ (by with_unfolding_all rfl))
  | (with_reducible (show AV _ _ _ _ _); first | with_reducible refine AV.isiStr_str ?_ | with_reducible refine AV.isiInt_str ?_ | with_reducible refine AV.isiInt_tuple ?_ | with_reducible refine AV.isiInt_int ?_ | with_reducible refine AV.isiStr_list ?_ | with_reducible refine AV.absF ?_ | with_reducible refine AV.floatF ?_ | with_reducible refine AV.fadd ?_ | with_reducible refine AV.fmul ?_ | with_reducible refine AV.ltFI ?_ | with_reducible refine AV.add ?_ | with_reducible refine AV.sub ?_ | with_reducible refine AV.eqI ?_ | with_reducible refine AV.neI ?_ | with_reducible refine AV.ltI ?_ | with_reducible refine AV.gtI ?_ | with_reducible refine AV.eqD ?_ | with_reducible refine AV.eqS ?_ | with_reducible refine AV.iadd ?_ | with_reducible refine AV.isub ?_)
  | (with_reducible (show AG _ _ _ _ _); first | with_reducible refine AG.name ?_)
  | (with_reducible (show AS _ _ _ _); first | with_reducible refine AS.ret ?_ | with_reducible refine AS.ite ?_ | with_reducible refine AS.brk ?_ | with_reducible refine AS.assign ?_ (by with_unfolding_all rfl) | with_reducible refine AS.aug (by walk_at "lk") ?_ (by with_unfolding_all rfl) | with_reducible refine AS.expr ?_ (by with_unfolding_all rfl) (by with_unfolding_all rfl))
  | (with_reducible (show AB _ _ _ _); first | with_reducible refine AB.bool ?_)
  | with_reducible refine itT ?_
  | with_reducible refine itF ?_
  | with_reducible refine ATs_nil ?_
  | with_reducible refine ⟨_, rfl, ?_⟩))
theorem take_snoc {α : Type} {l : List α} {i : Nat} (h : i < l.length) : l.take (i + 1) = l.take i ++ [l[i]] := by simp
/-! betweenness_sequence -/
def rowF (l : List UInt64) : O := .lst (l.map V.flt)
theorem rowF_snoc (l : List UInt64) (x : UInt64) : O.lst (l.map V.flt ++ [V.flt x]) = rowF (l ++ [x]) := by simp [rowF]
structure BS where
  seq : List UInt64
  last : Bool
  dr : UInt64
  irun : Int
  drun : Int
  dlast : UInt64
  b : Option UInt64
def bI (irun : Int) : Int := (irun - 1) * irun
def bJ (i : Nat) (irun drun : Int) : Int := 2 * irun * ((i : Int) - drun - irun)
def bB (i : Nat) (st : BS) : UInt64 := Float64.add (Float64.add st.dlast (Float64.div (Float64.ofInt (bI st.irun)) st.dr)) (Float64.div (Float64.ofInt (bJ i st.irun st.drun)) st.dr)
def bStep (i : Nat) (c : Bool) (st : BS) : Option BS :=
  if c then
    chk (mulOk (st.irun - 1) st.irun && (mulOk 2 st.irun && (mulOk (2 * st.irun) ((i : Int) - st.drun - st.irun) && (fin (Float64.ofInt (bI st.irun)) && (fin (Float64.ofInt (bJ i st.irun st.drun)) && nz st.dr)))))
      (some { st with b := some (bB i st), drun := st.drun + 1, seq := st.seq ++ [bB i st], last := true })
  else if st.last then get st.b fun b =>
    chk (fin (Float64.ofInt st.drun) && fin (Float64.ofInt 0)) (some { seq := st.seq ++ [Float64.ofInt 0], last := false, dr := Float64.sub st.dr (Float64.ofInt st.drun), irun := 0 + 1, drun := 0, dlast := b, b := none })
  else chk (fin (Float64.ofInt 0)) (some { st with seq := st.seq ++ [Float64.ofInt 0], irun := st.irun + 1, b := none })
def bs0 (cs : List Bool) : BS := ⟨[], true, Float64.ofInt (cntD cs), 0, 0, 0, none⟩
def betO (cs : List Bool) : Option BS := chk (fin (Float64.ofInt (cntD cs))) (walkO cs bStep (bs0 cs) cs.length)
def bScale (n : Nat) : UInt64 := Float64.div (4607182418800017408 : UInt64) (Float64.ofInt (((n : Int) - 1) * ((n : Int) - 2)))
def normO (n : Nat) : Bool := mulOk ((n : Int) - 1) ((n : Int) - 2) && (fin (Float64.ofInt (((n : Int) - 1) * ((n : Int) - 2))) && nz (Float64.ofInt (((n : Int) - 1) * ((n : Int) - 2))))
theorem okB {v w : V} : FnOK fB [(Str.ofString "creation_sequence", v), (Str.ofString "normalized", w)] := by
  refine ⟨rfl, rfl, rfl, by decide +kernel, fun n x hx => .inl ?_⟩
  rcases List.mem_cons.mp hx with rfl | hx
  · rfl
  rw [List.mem_singleton.mp hx]; rfl
theorem bindB {v : V} : Binds fB [v] [] [(Str.ofString "creation_sequence", v), (Str.ofString "normalized", .bool true)] := Binds.dflt rfl fun _ _ _ _ _ _ _ => ⟨_, rfl, rfl⟩
theorem bindBK {v w : V} : Binds fB [v] [(Str.ofString "normalized", w)] [(Str.ofString "creation_sequence", v), (Str.ofString "normalized", w)] := Binds.kw rfl fun _ _ _ _ _ _ _ _ => ⟨_, rfl, rfl⟩
structure BW (r l : Nat) (nb : Bool) (st : BS) (loc : Str → Option V) : Prop where
  cs : loc (Str.ofString "cs") = some (.ref r)
  seq : loc (Str.ofString "seq") = some (.ref l)
  last : loc (Str.ofString "lastchar") = some (strV st.last)
  dr : loc (Str.ofString "dr") = some (.flt st.dr)
  irun : loc (Str.ofString "irun") = some (.int st.irun)
  drun : loc (Str.ofString "drun") = some (.int st.drun)
  dlast : loc (Str.ofString "dlast") = some (.flt st.dlast)
  nb : loc (Str.ofString "normalized") = some (.bool nb)
  b : ∀ x, st.b = some x → loc (Str.ofString "b") = some (.flt x)

set_option maxHeartbeats 8000000 in
theorem meetB {r : Nat} {cs : List Bool} {hp : List O} {P : V → List O → Prop} {nb : Bool} {y : BS} (h0 : hp[r]? = some (.lst (cs.map strV))) (hz : cs.length ≤ 7) (hy : betO cs = some y) (hnb : nb = true → normO cs.length = true)
    (h : ∀ i t, (hp ++ t)[i]? = some (rowF (if nb then y.seq.map fun s => Float64.mul s (bScale cs.length) else y.seq)) → P (.ref i) (hp ++ t)) :
    Meets fns 0 fB [(Str.ofString "creation_sequence", .ref r), (Str.ofString "normalized", .bool nb)] hp P := by
  intro g prog w A L a cdv n hn
  have hr : r < hp.length := (List.getElem?_eq_some_iff.mp h0).1
  obtain ⟨hf0, hy⟩ := chk_some hy
  refine AX.cons ?_
  walk_at "go"
  refine AE.list (AEs.nil ⟨Nat.zero_le _, ?_⟩)
  walk_at "go"
  refine ⟨⟨_, _, rfl, hp_old h0⟩, ?_⟩
  walk_at "go"
  refine AV.countS (ss := cs.map chr) (by rw [← strs_eq]; exact hp_old h0) ?_
  rw [count_eq]
  walk_at "go"
  refine AV.floatI (fin_ok hf0) ?_
  walk_at "go"
  refine AS.forEnum rfl ?_
  walk_at "go"
  refine ⟨_, _, rfl, hp_old h0, hr, fun i σ' => ∃ st, walkO cs bStep (bs0 cs) i = some st ∧ st.seq.length = i ∧ BW r hp.length nb st σ'.loc ∧ σ'.hp = hp ++ [rowF st.seq],
    ⟨_, rfl, rfl, ⟨by walk_at "lk", by walk_at "lk", by rw [show strV (bs0 cs).last = V.str (Str.ofString "d") from rfl]; walk_at "lk", by rw [show (bs0 cs).dr = Float64.ofInt (cntD cs) from rfl]; walk_at "lk", by rw [show (bs0 cs).irun = 0 from rfl]; walk_at "lk", by rw [show (bs0 cs).drun = 0 from rfl]; walk_at "lk", by rw [show (bs0 cs).dlast = 0 from rfl]; walk_at "lk", by walk_at "lk", fun x hx => by cases hx⟩, rfl⟩, ?_, ?_⟩
  · rintro i ⟨loc, hp'⟩ v hv ⟨st, hst, hsl, ⟨l1, l2, l3, l4, l5, l6, l7, l8, l9⟩, rfl⟩
    dsimp only at l1 l2 l3 l4 l5 l6 l7 l8 l9 ⊢
    rw [List.getElem?_map] at hv
    cases hc : cs[i]? with
    | none => rw [hc] at hv; cases hv
    | some c =>
      rw [hc] at hv; cases hv
      have hi : i < cs.length := (List.getElem?_eq_some_iff.mp hc).1
      have hzz : (List.map V.flt st.seq).length ≤ 4096 := by simp [hsl]; omega
      obtain ⟨z, hz1, hz2⟩ := walkO_step hy hi hst hc
      unfold bStep at hz1
      walk_at "go"
      cases c with
      | true =>
        rw [if_pos rfl] at hz1
        obtain ⟨ck, hz1⟩ := chk_some hz1
        cases hz1
        simp only [Bool.and_eq_true] at ck
        obtain ⟨k1, k2, k3, k4, k5, k6⟩ := ck
        walk_at "go"
        refine AV.mul ?_ (mulOk_ok k1)
        walk_at "go"
        refine AV.divIF (fin_ok k4) (nz_ok k6) ?_
        walk_at "go"
        refine AV.mul ?_ (mulOk_ok k2)
        walk_at "go"
        refine AV.mul ?_ (mulOk_ok k3)
        walk_at "go"
        refine AV.divIF (fin_ok k5) (nz_ok k6) ?_
        walk_at "go"
        refine ⟨⟨_, _, rfl, hp_new⟩, ?_⟩
        walk_at "go"
        refine AV.append hp_new (Nat.le_refl _) hzz ?_
        rw [hp_set, rowF_snoc]
        walk_at "go"
        exact ⟨_, hz2, by simp [hsl], ⟨by walk_at "lk", by walk_at "lk", by walk_at "lk", by walk_at "lk", by walk_at "lk", by walk_at "lk", by walk_at "lk", by walk_at "lk", fun x hx => by cases hx; show _ = some (V.flt (Float64.add (Float64.add st.dlast (Float64.div (Float64.ofInt ((st.irun - 1) * st.irun)) st.dr)) (Float64.div (Float64.ofInt (2 * st.irun * ((i : Int) - st.drun - st.irun))) st.dr))); walk_at "lk"⟩, rfl⟩
      | false =>
        rw [if_neg (by decide)] at hz1
        walk_at "go"
        cases hl : st.last with
        | true =>
          rw [hl] at l3
          rw [if_pos hl] at hz1
          obtain ⟨b, hb, hz1⟩ := get_some hz1
          obtain ⟨ck, hz1⟩ := chk_some hz1
          cases hz1
          simp only [Bool.and_eq_true] at ck
          have lb := l9 b hb
          walk_at "go"
          refine AV.isubF (fin_ok ck.1) ?_
          walk_at "go"
          refine ⟨⟨_, _, rfl, hp_new⟩, ?_⟩
          walk_at "go"
          refine AV.floatI (fin_ok ck.2) ?_
          walk_at "go"
          refine AV.append hp_new (Nat.le_refl _) hzz ?_
          rw [hp_set, rowF_snoc]
          walk_at "go"
          exact ⟨_, hz2, by simp [hsl], ⟨by walk_at "lk", by walk_at "lk", by walk_at "lk", by walk_at "lk", by walk_at "lk", by walk_at "lk", by walk_at "lk", by walk_at "lk", fun x hx => by cases hx⟩, rfl⟩
        | false =>
          rw [hl] at l3
          rw [if_neg (by rw [hl]; decide)] at hz1
          obtain ⟨ck, hz1⟩ := chk_some hz1
          cases hz1
          walk_at "go"
          refine ⟨⟨_, _, rfl, hp_new⟩, ?_⟩
          walk_at "go"
          refine AV.floatI (fin_ok ck) ?_
          walk_at "go"
          refine AV.append hp_new (Nat.le_refl _) hzz ?_
          rw [hp_set, rowF_snoc]
          walk_at "go"
          exact ⟨_, hz2, by simp [hsl], ⟨by walk_at "lk", by walk_at "lk", by rw [hl]; walk_at "lk", by walk_at "lk", by walk_at "lk", by walk_at "lk", by walk_at "lk", by walk_at "lk", fun x hx => by cases hx⟩, rfl⟩
  · rintro ⟨loc, hp'⟩ ⟨st, hst, hsl, ⟨l1, l2, l3, l4, l5, l6, l7, l8, l9⟩, rfl⟩
    dsimp only at l1 l2 l3 l4 l5 l6 l7 l8 l9 ⊢
    rw [List.length_map] at hst hsl
    have e : st = y := Option.some.inj (hst.symm.trans hy)
    subst e
    walk_at "go"
    cases nb with
    | false =>
      walk_at "go"
      exact h _ _ hp_new
    | true =>
      have hnb := hnb rfl
      simp only [normO, Bool.and_eq_true] at hnb
      walk_at "go"
      refine AV.lenL (hp_old h0) (by simp; omega) ?_
      rw [List.length_map]
      walk_at "go"
      refine AV.mul ?_ (mulOk_ok hnb.1)
      refine AV.divFI (fin_ok hnb.2.1) (nz_ok hnb.2.2) ?_
      walk_at "go"
      refine AS.compL (ScopeOK.fn rfl (by decide +kernel) (by decide +kernel) (.inl rfl)) ?_ (by with_unfolding_all rfl) (by intro _; with_unfolding_all rfl)
      walk_at "go"
      refine ⟨_, _, rfl, hp_new, by simp [hsl]; omega, fun i acc hp' => hp' = hp ++ [rowF st.seq] ∧ acc = ((st.seq.take i).map fun s => Float64.mul s (bScale cs.length)).map V.flt, ⟨rfl, by simp⟩, ?_, ?_⟩
      · rintro cells C i acc hp' look hi ⟨rfl, rfl⟩
        rw [List.length_map] at hi
        have hval : ((List.map V.flt st.seq)[i]?).getD V.none = V.flt st.seq[i] := by rw [List.getElem?_map, List.getElem?_eq_getElem hi]; rfl
        dsimp only
        rw [hval]
        walk_at "go"
        refine ⟨rfl, ?_⟩
        rw [take_snoc hi, List.map_append, List.map_append]; rfl
      · rintro acc hp' ⟨rfl, rfl⟩
        rw [List.length_map, List.take_length]
        walk_at "go"
        have k := h (hp ++ [rowF st.seq]).length ([rowF st.seq] ++ [rowF (st.seq.map fun s => Float64.mul s (bScale cs.length))]) (by rw [← List.append_assoc]; exact hp_new)
        rw [← List.append_assoc] at k
        exact k


end

/-! ## part 28 -/
section
local macro_rules | `(tactic| walk_at "lk1") => `(tactic| first | with_reducible assumption | with_reducible exact upd_same | ((with_reducible refine (upd_ne (by decide)).trans ?_); walk_at "lk1") | ((with_reducible refine (freeLoc_eq (by with_unfolding_all rfl)).trans ?_); walk_at "lk1"))
local macro_rules | `(tactic| walk_at "lk") => `(tactic| ((try dsimp only); walk_at "lk1"))
local macro_rules | `(tactic| walk_at "d") => `(tactic| try dsimp only [thenX, turnX, locOf])
local macro_rules | `(tactic| walk_at "st1") => `(tactic| (first
  | with_reducible refine AX.cons ?_
  | with_reducible refine AX.nil ?_
  | (with_reducible (show AE _ _ _ _); first | with_reducible refine AE.name (by walk_at "lk") ?_ (by with_unfolding_all rfl) (by decide) | with_reducible refine AE.cell (by walk_at "lk") ?_ (by with_unfolding_all rfl) (by first | with_unfolding_all rfl | with_unfolding_all exact looked (by assumption) (Or.inl rfl) | with_unfolding_all exact looked (by assumption) (Or.inr rfl)) (by decide) | with_reducible refine AE.int ?_ | with_reducible refine AE.flt ?_ | with_reducible refine AE.str ?_ | with_reducible refine AE.bool ?_ | with_reducible refine AE.binop ?_ | with_reducible refine AE.sliceAll ?_ (by intro _ _; with_unfolding_all rfl) | with_reducible refine AE.item ?_ | with_reducible refine AE.cmp ?_ (by with_unfolding_all rfl) | with_reducible refine AE.neg ?_ | with_reducible refine AE.cLen (by with_unfolding_all rfl) ?_ (by with_unfolding_all rfl) (by with_unfolding_all rfl) | with_reducible refine AE.cSum (by with_unfolding_all rfl) ?_ (by with_unfolding_all rfl) (by with_unfolding_all rfl) | with_reducible refine AE.cAbs (by with_unfolding_all rfl) ?_ (by with_unfolding_all rfl) (by with_unfolding_all rfl) | with_reducible refine AE.cMax (by with_unfolding_all rfl) ?_ (by with_unfolding_all rfl) (by with_unfolding_all rfl) | with_reducible refine AE.cFloat (by with_unfolding_all rfl) ?_ (by with_unfolding_all rfl) (by with_unfolding_all rfl) | with_reducible refine AE.cList (by with_unfolding_all rfl) ?_ (by with_unfolding_all rfl) (by with_unfolding_all rfl) | with_reducible refine AE.iStr (by with_unfolding_all rfl) (by with_unfolding_all rfl) ?_ (by with_unfolding_all rfl) (by with_unfolding_all rfl) | with_reducible refine AE.iTup (by with_unfolding_all rfl) (by with_unfolding_all rfl) ?_ (by with_unfolding_all rfl) (by with_unfolding_all rfl) | with_reducible refine AE.iInt (by with_unfolding_all rfl) (by with_unfolding_all rfl) ?_ (by with_unfolding_all rfl) (by with_unfolding_all rfl) | with_reducible refine AE.iList (by with_unfolding_all rfl) (by with_unfolding_all rfl) ?_ (by with_unfolding_all rfl) (by with_unfolding_all rfl) | with_reducible refine AE.mCount ?_ (by with_unfolding_all rfl) (by with_unfolding_all rfl) (by with_unfolding_all rfl) (by with_unfolding_all rfl) (by with_unfolding_all rfl) | with_reducible refine AE.mAppend ?_ (by with_unfolding_all rfl) (by with_unfolding_all rfl) (by with_unfolding_all rfl) (by with_unfolding_all rfl) (by with_unfolding_all rfl) | with_reducible refine AE.mExtend ?_ (by with_unfolding_all rfl) (by with_unfolding_all rfl) (by with_unfolding_all rfl) (by with_unfolding_all rfl) (by with_unfolding_all rfl) | with_reducible refine AE.mPop ?_ (by with_unfolding_all rfl) (by with_unfolding_all rfl) (by with_unfolding_all rfl) (by with_unfolding_all rfl) (by with_unfolding_all rfl) | with_reducible refine AE.mIndex ?_ (by with_unfolding_all rfl) (by with_unfolding_all rfl) (by with_unfolding_all rfl) (by with_unfolding_all rfl) (by with_unfolding_all rfl) | with_reducible refine AE.ifexp ?_)
  | (with_reducible (show AN _ _ _ _ _); first | with_reducible refine AN.loc ?_ (by with_unfolding_all rfl) (by with_unfolding_all rfl) | with_reducible refine AN.cell ?_ (by with_unfolding_all rfl) (by with_unfolding_all rfl))
  | (with_reducible (show AEs _ _ _ _); first | with_reducible refine AEs.cons ?_ (by with_unfolding_all rfl) | with_reducible refine AEs.nil ?_)
  | (with_reducible (show AT _ _ _ _); first | with_reducible refine AT.cmp ?_ (by with_unfolding_all rfl) | with_reducible refine AT.not ?_ | with_reducible refine AT.andNil ?_ | with_reducible refine AT.and ?_ | with_reducible refine AT.orNil ?_ | with_reducible refine AT.or ?_ | with_reducible refine AT.val ?_ (by with_unfolding_all rfl))
  | (with_reducible (show AV _ _ _ _ _); first | with_reducible refine AV.isiStr_str ?_ | with_reducible refine AV.isiInt_str ?_ | with_reducible refine AV.isiInt_tuple ?_ | with_reducible refine AV.isiInt_int ?_ | with_reducible refine AV.isiStr_list ?_ | with_reducible refine AV.absF ?_ | with_reducible refine AV.floatF ?_ | with_reducible refine AV.fadd ?_ | with_reducible refine AV.fmul ?_ | with_reducible refine AV.ltFI ?_ | with_reducible refine AV.add ?_ | with_reducible refine AV.sub ?_ | with_reducible refine AV.eqI ?_ | with_reducible refine AV.neI ?_ | with_reducible refine AV.ltI ?_ | with_reducible refine AV.gtI ?_ | with_reducible refine AV.eqD ?_ | with_reducible refine AV.eqS ?_ | with_reducible refine AV.iadd ?_ | with_reducible refine AV.isub ?_)
  | (with_reducible (show AG _ _ _ _ _); first | with_reducible refine AG.name ?_)
  | (with_reducible (show AS _ _ _ _); first | with_reducible refine AS.ret ?_ | with_reducible refine AS.ite ?_ | with_reducible refine AS.brk ?_ | with_reducible refine AS.assign ?_ (by with_unfolding_all rfl) | with_reducible refine AS.aug (by walk_at "lk") ?_ (by with_unfolding_all rfl) | with_reducible refine AS.expr ?_ (by with_unfolding_all rfl) (by with_unfolding_all rfl))
  | (with_reducible (show AB _ _ _ _); first | with_reducible refine AB.bool ?_)
  | with_reducible refine itT ?_
  | with_reducible refine itF ?_
  | with_reducible refine ATs_nil ?_
  | with_reducible refine ⟨_, rfl, ?_⟩))
local macro_rules | `(tactic| walk_at "st") => `(tactic| (walk_at "st1"; walk_at "d"))
local macro_rules | `(tactic| walk_at "go") => `(tactic| repeat (first
  | dsimp only [thenX, turnX, locOf]
  | with_reducible refine AX.cons ?_
  | with_reducible refine AX.nil ?_
  | (with_reducible (show AE _ _ _ _); first | with_reducible refine AE.name (by walk_at "lk") ?_ (by with_unfolding_all rfl) (by decide) | with_reducible refine AE.cell (by walk_at "lk") ?_ (by with_unfolding_all rfl) (by first | with_unfolding_all rfl | with_unfolding_all exact looked (by assumption) (Or.inl rfl) | with_unfolding_all exact looked (by assumption) (Or.inr rfl)) (by decide) | with_reducible refine AE.int ?_ | with_reducible refine AE.flt ?_ | with_reducible refine AE.str ?_ | with_reducible refine AE.bool ?_ | with_reducible refine AE.binop ?_ | with_reducible refine AE.sliceAll ?_ (by intro _ _; with_unfolding_all rfl) | with_reducible refine AE.item ?_ | with_reducible refine AE.cmp ?_ (by with_unfolding_all rfl) | with_reducible refine AE.neg ?_ | with_reducible refine AE.cLen (by with_unfolding_all rfl) ?_ (by with_unfolding_all rfl) (by with_unfolding_all rfl) | with_reducible refine AE.cSum (by with_unfolding_all rfl) ?_ (by with_unfolding_all rfl) (by with_unfolding_all rfl) | with_reducible refine AE.cAbs (by with_unfolding_all rfl) ?_ (by with_unfolding_all rfl) (by with_unfolding_all rfl) | with_reducible refine AE.cMax (by with_unfolding_all rfl) ?_ (by with_unfolding_all rfl) (by with_unfolding_all rfl) | with_reducible refine AE.cFloat (by with_unfolding_all rfl) ?_ (by with_unfolding_all rfl) (by with_unfolding_all rfl) | with_reducible refine AE.cList (by with_unfolding_all rfl) ?_ (by with_unfolding_all rfl) (by with_unfolding_all rfl) | with_reducible refine AE.iStr (by with_unfolding_all rfl) (by with_unfolding_all rfl) ?_ (by with_unfolding_all rfl) (by with_unfolding_all rfl) | with_reducible refine AE.iTup (by with_unfolding_all rfl) (by with_unfolding_all rfl) ?_ (by with_unfolding_all rfl) (by with_unfolding_all rfl) | with_reducible refine AE.iInt (by with_unfolding_all rfl) (by with_unfolding_all rfl) ?_ (by with_unfolding_all rfl) (by with_unfolding_all rfl) | with_reducible refine AE.iList (by with_unfolding_all rfl) (by with_unfolding_all rfl) ?_ (by with_unfolding_all rfl) (by with_unfolding_all rfl) | with_reducible refine AE.mCount ?_ (by with_unfolding_all rfl) (by with_unfolding_all rfl) (by with_unfolding_all rfl) (by with_unfolding_all rfl) (by with_unfolding_all rfl) | with_reducible refine AE.mAppend ?_ (by with_unfolding_all rfl) (by with_unfolding_all rfl) (by with_unfolding_all rfl) (by with_unfolding_all rfl) (by with_unfolding_all rfl) | with_reducible refine AE.mExtend ?_ (by with_unfolding_all rfl) (by with_unfolding_all rfl) (by with_unfolding_all rfl) (by with_unfolding_all rfl) (by with_unfolding_all rfl) | with_reducible refine AE.mPop ?_ (by with_unfolding_all rfl) (by with_unfolding_all rfl) (by with_unfolding_all rfl) (by with_unfolding_all rfl) (by with_unfolding_all rfl) | with_reducible refine AE.mIndex ?_ (by with_unfolding_all rfl) (by with_unfolding_all rfl) (by with_unfolding_all rfl) (by with_unfolding_all rfl) (by with_unfolding_all rfl) | with_reducible refine AE.ifexp ?_)
  | (with_reducible (show AN _ _ _ _ _); first | with_reducible refine AN.loc ?_ (by with_unfolding_all rfl) (by with_unfolding_all rfl) | with_reducible refine AN.cell ?_ (by with_unfolding_all rfl) (by with_unfolding_all rfl))
  | (with_reducible (show AEs _ _ _ _); first | with_reducible refine AEs.cons ?_ (by with_unfolding_all rfl) | with_reducible refine AEs.nil ?_)
  | (with_reducible (show AT _ _ _ _); first | with_reducible refine AT.cmp ?_ (by with_unfolding_all rfl) | with_reducible refine AT.not ?_ | with_reducible refine AT.andNil ?_ | with_reducible refine AT.and ?_ | with_reducible refine AT.orNil ?_ | with_reducible refine AT.or ?_ | with_reducible refine AT.val ?_ (by with_unfolding_all rfl))
  | (with_reducible (show AV _ _ _ _ _); first | with_reducible refine AV.isiStr_str ?_ | with_reducible refine AV.isiInt_str ?_ | with_reducible refine AV.isiInt_tuple ?_ | with_reducible refine AV.isiInt_int ?_ | with_reducible refine AV.isiStr_list ?_ | with_reducible refine AV.absF ?_ | with_reducible refine AV.floatF ?_ | with_reducible refine AV.fadd ?_ | with_reducible refine AV.fmul ?_ | with_reducible refine AV.ltFI ?_ | with_reducible refine AV.add ?_ | with_reducible refine AV.sub ?_ | with_reducible refine AV.eqI ?_ | with_reducible refine AV.neI ?_ | with_reducible refine AV.ltI ?_ | with_reducible refine AV.gtI ?_ | with_reducible refine AV.eqD ?_ | with_reducible refine AV.eqS ?_ | with_reducible refine AV.iadd ?_ | with_reducible refine AV.isub ?_)
  | (with_reducible (show AG _ _ _ _ _); first | with_reducible refine AG.name ?_)
  | (with_reducible (show AS _ _ _ _); first | with_reducible refine AS.ret ?_ | with_reducible refine AS.ite ?_ | with_reducible refine AS.brk ?_ | with_reducible refine AS.assign ?_ (by with_unfolding_all rfl) | with_reducible refine AS.aug (by walk_at "lk") ?_ (by with_unfolding_all rfl) | with_reducible refine AS.expr ?_ (by with_unfolding_all rfl) (by with_unfolding_all rfl))
  | (with_reducible (show AB _ _ _ _); first | with_reducible refine AB.bool ?_)
  | with_reducible refine itT ?_
  | with_reducible refine itF ?_
  | with_reducible refine ATs_nil ?_
  | with_reducible refine ⟨_, rfl, ?_⟩))
/-! shortest_path_length -/
def fwdO (cs : List Bool) (k : Nat) (m : Nat) (s : List Int) : Option (List Int) := get cs[k + 1 + m]? fun c => if c then some (s.set (k + 1 + m) 1) else some s
def bckO (m : Nat) (s : List Int) : Option (List Int) := some (s.set m 1)
def endO (cs : List Bool) : Nat → List Int → Option (List Int)
  | 0, s => some s
  | m + 1, s => get cs[m + 1]? fun c => if c then some s else endO cs m (s.set (m + 1) (-1))
def splO (cs : List Bool) (k : Nat) : Option (List Int) :=
  chk (decide (k < cs.length)) (get (loopO (fwdO cs k) ((List.replicate cs.length 2).set k 0) (cs.length - (k + 1))) fun s => get cs[k]? fun c => get (if c then loopO bckO s k else some s) fun s' => endO cs (cs.length - 1) s')
def splH (hp : List O) (w : List Int) : List O := hp ++ rowV [2] :: rowV w :: []
structure SW (c l n k : Nat) (loc : Str → Option V) : Prop where
  cs : loc (Str.ofString "cs") = some (.ref c)
  i : loc (Str.ofString "i") = some (.int k)
  n : loc (Str.ofString "N") = some (.int n)
  spl : loc (Str.ofString "spl") = some (.ref (l + 1))
theorem stepA (a i : Nat) : ((a : Int) + 1) + (i : Int) * 1 = ((a + 1 + i : Nat) : Int) := by omega
theorem code_at {cs : List Bool} {k : Nat} {c : Bool} (h : cs[k]? = some c) : (cs.map strV)[((k : Nat) : Int).toNat]? = some (strV c) := by rw [Int.toNat_natCast, List.getElem?_map, h]; rfl

set_option maxHeartbeats 8000000 in
theorem tailP {g : Heap} {prog : Program} {w : World} {A : Around} {L a : Addr} {cdv : Value} {b n : Nat} {loc : Str → Option V} {H : List O} {c k : Nat} {cs : List Bool} {P : V → List O → Prop} {y : List Int}
    (h0 : H[c]? = some (.lst (cs.map strV))) (hb : b ≤ H.length) (lc : loc (Str.ofString "cs") = some (.ref c)) (lk : loc (Str.ofString "i") = some (.int k)) (hz : cs.length ≤ 7) (hy : splO cs k = some y) (h : P (.ref (H.length + 1)) (splH H y)) :
    AX (Fm.fn g prog w A fP L a cdv b n fns) (fP.body.drop 2) ⟨loc, H⟩ (fun fl σ' => ∃ v, fl = .ret v ∧ P v σ'.hp) := by
  obtain ⟨hk, hy⟩ := chk_some hy
  have hk : k < cs.length := of_decide_eq_true hk
  obtain ⟨s1, hs1, hy⟩ := get_some hy
  obtain ⟨ck, hck, hy⟩ := get_some hy
  obtain ⟨s2, hs2, hy⟩ := get_some hy
  have hzz : (List.map strV cs).length ≤ 4096 := by simp; omega
  refine AX.cons ?_
  walk_at "go"
  refine AV.lenL h0 hzz ?_
  walk_at "go"
  rw [List.length_map]
  refine AE.list ?_
  walk_at "go"
  refine ⟨by decide, ?_⟩
  walk_at "go"
  refine AV.mulList (vs := [.int 2]) hp_new (by omega) (by simp; omega) (by omega) ?_
  rw [Int.toNat_natCast, rep_row, show (H ++ [O.lst [V.int 2]]).length = H.length + 1 by simp, show H ++ [O.lst [V.int 2]] ++ [rowV (List.replicate cs.length 2)] = splH H (List.replicate cs.length 2) by simp [splH, rowV]]
  walk_at "go"
  refine AS.setItem ?_ (by with_unfolding_all rfl)
  walk_at "go"
  have setS : ∀ w w', (splH H w).set (H.length + 1) (rowV w') = splH H w' := fun w w' => set1
  have look : ∀ w, (splH H w)[H.length + 1]? = some (rowV w) := fun w => at1
  have lookC : ∀ w, (splH H w)[c]? = some (.lst (cs.map strV)) := fun w => hp_old h0
  refine AW.at (look _) (by show b ≤ H.length + 1; omega) (by omega) (by simp; omega) (by simp; omega) ?_
  rw [Int.toNat_natCast, row_set, setS]
  walk_at "go"
  refine AS.forRange rfl ?_
  walk_at "go"
  refine ⟨_, _, _, _, .two ((k : Int) + 1) (cs.length - (k + 1)) (by omega) (by omega) (by omega) (by omega), fun i σ' => ∃ s, loopO (fwdO cs k) ((List.replicate cs.length 2).set k 0) i = some s ∧ s.length = cs.length ∧ SW c H.length cs.length k σ'.loc ∧ σ'.hp = splH H s,
    ⟨_, rfl, by simp, ⟨by walk_at "lk", by walk_at "lk", by walk_at "lk", by walk_at "lk"⟩, rfl⟩, ?_, ?_⟩
  · rintro i ⟨loc', hp'⟩ hi ⟨s, hs, hsl, ⟨l1, l2, l3, l4⟩, rfl⟩
    dsimp only at l1 l2 l3 l4 ⊢
    rw [stepA]
    obtain ⟨z, hz1, hz2⟩ := loopO_step hs1 hi hs
    obtain ⟨cj, hcj, hz1⟩ := get_some hz1
    walk_at "go"
    refine AV.at (lookC _) (by omega) (by omega) (code_at hcj) ?_
    walk_at "go"
    cases cj with
    | true =>
      rw [if_pos rfl] at hz1
      cases hz1
      walk_at "go"
      refine AS.setItem ?_ (by with_unfolding_all rfl)
      walk_at "go"
      refine AW.at (look _) (by show b ≤ H.length + 1; omega) (by omega) (by simp; omega) (by simp; omega) ?_
      rw [Int.toNat_natCast, row_set, setS]
      walk_at "go"
      exact ⟨_, hz2, by simp [hsl], ⟨by walk_at "lk", by walk_at "lk", by walk_at "lk", by walk_at "lk"⟩, rfl⟩
    | false =>
      rw [if_neg (by decide)] at hz1
      cases hz1
      walk_at "go"
      exact ⟨_, hz2, hsl, ⟨by walk_at "lk", by walk_at "lk", by walk_at "lk", by walk_at "lk"⟩, rfl⟩
  · rintro ⟨loc', hp'⟩ ⟨s, hs, hsl, ⟨l1, l2, l3, l4⟩, rfl⟩
    dsimp only at l1 l2 l3 l4 ⊢
    have e : s = s1 := Option.some.inj (hs.symm.trans hs1)
    subst e
    walk_at "go"
    refine AV.at (lookC _) (by omega) (by omega) (code_at hck) ?_
    walk_at "go"
    have last : ∀ (loc'' : Str → Option V) (s' : List Int), endO cs (cs.length - 1) s' = some y → s'.length = cs.length → SW c H.length cs.length k loc'' →
        AX (Fm.fn g prog w A fP L a cdv b n fns) (fP.body.drop 7) ⟨loc'', splH H s'⟩ (fun fl σ' => ∃ v, fl = .ret v ∧ P v σ'.hp) := by
      rintro loc'' s' hs' hsl' ⟨m1, m2, m3, m4⟩
      refine AX.cons ?_
      refine AS.forRange rfl ?_
      walk_at "go"
      refine ⟨_, _, _, _, .down ((cs.length : Int) - 1) (cs.length - 1) (by omega) (by omega) (by omega) (by omega), fun i σ' => ∃ u, endO cs (cs.length - 1 - i) u = some y ∧ u.length = cs.length ∧ SW c H.length cs.length k σ'.loc ∧ σ'.hp = splH H u,
        ⟨_, hs', hsl', ⟨m1, m2, m3, m4⟩, rfl⟩, ?_, ?_⟩
      · rintro i ⟨loc3, hp'⟩ hi ⟨u, hu, hul, ⟨n1, n2, n3, n4⟩, rfl⟩
        dsimp only at n1 n2 n3 n4 ⊢
        obtain ⟨m, hm⟩ : ∃ m, cs.length - 1 - i = m + 1 := ⟨cs.length - 1 - i - 1, by omega⟩
        rw [show (cs.length : Int) - 1 + (i : Int) * -1 = ((m + 1 : Nat) : Int) by omega]
        rw [hm] at hu
        obtain ⟨cj, hcj, hu⟩ := get_some hu
        walk_at "go"
        refine AV.at (lookC _) (by omega) (by omega) (code_at hcj) ?_
        walk_at "go"
        cases cj with
        | true =>
          rw [if_pos rfl] at hu
          cases hu
          walk_at "go"
          exact h
        | false =>
          rw [if_neg (by decide)] at hu
          walk_at "go"
          refine AS.setItem ?_ (by with_unfolding_all rfl)
          walk_at "go"
          refine AW.at (look _) (by show b ≤ H.length + 1; omega) (by omega) (by simp; omega) (by simp; omega) ?_
          rw [Int.toNat_natCast, row_set, setS]
          walk_at "go"
          exact ⟨_, by rw [show cs.length - 1 - (i + 1) = m by omega]; exact hu, by simp [hul], ⟨by walk_at "lk", by walk_at "lk", by walk_at "lk", by walk_at "lk"⟩, rfl⟩
      · rintro ⟨loc3, hp'⟩ ⟨u, hu, hul, ⟨n1, n2, n3, n4⟩, rfl⟩
        dsimp only at n1 n2 n3 n4 ⊢
        rw [show cs.length - 1 - (cs.length - 1) = 0 by omega] at hu
        cases hu
        walk_at "go"
        exact h
    cases ck with
    | false =>
      rw [if_neg (by decide)] at hs2
      cases hs2
      refine itF (AX.nil ?_)
      walk_at "d"
      exact last _ _ hy hsl ⟨l1, l2, l3, l4⟩
    | true =>
      rw [if_pos rfl] at hs2
      walk_at "go"
      refine AS.forRange rfl ?_
      walk_at "go"
      refine ⟨_, _, _, _, .one k (by omega), fun i σ' => ∃ u, loopO bckO s i = some u ∧ u.length = cs.length ∧ SW c H.length cs.length k σ'.loc ∧ σ'.hp = splH H u, ⟨_, rfl, hsl, ⟨l1, l2, l3, l4⟩, rfl⟩, ?_, ?_⟩
      · rintro i ⟨loc'', hp'⟩ hi ⟨u, hu, hul, ⟨n1, n2, n3, n4⟩, rfl⟩
        dsimp only at n1 n2 n3 n4 ⊢
        rw [step1]
        obtain ⟨z, hz1, hz2⟩ := loopO_step hs2 hi hu
        cases hz1
        walk_at "go"
        refine AS.setItem ?_ (by with_unfolding_all rfl)
        walk_at "go"
        refine AW.at (look _) (by show b ≤ H.length + 1; omega) (by omega) (by simp; omega) (by simp; omega) ?_
        rw [Int.toNat_natCast, row_set, setS]
        walk_at "go"
        exact ⟨_, hz2, by simp [hul], ⟨by walk_at "lk", by walk_at "lk", by walk_at "lk", by walk_at "lk"⟩, rfl⟩
      · rintro ⟨loc'', hp'⟩ ⟨u, hu, hul, hW, rfl⟩
        have e : u = s2 := Option.some.inj (hu.symm.trans hs2)
        subst e
        walk_at "d"
        refine AX.nil ?_
        walk_at "d"
        exact last _ _ hy hul hW


end

/-! ## part 29 -/
section
local macro_rules | `(tactic| walk_at "lk1") => `(tactic| first | with_reducible assumption | with_reducible exact upd_same | ((with_reducible refine (upd_ne (by decide)).trans ?_); walk_at "lk1") | ((with_reducible refine (freeLoc_eq (by with_unfolding_all rfl)).trans ?_); walk_at "lk1"))
local macro_rules | `(tactic| walk_at "lk") => `(tactic| ((try dsimp only); walk_at "lk1"))
local macro_rules | `(tactic| walk_at "d") => `(tactic| try dsimp only [thenX, turnX, locOf])
local macro_rules | `(tactic| walk_at "st1") => `(tactic| (first
  | with_reducible refine AX.cons ?_
  | with_reducible refine AX.nil ?_
  | (with_reducible (show AE _ _ _ _); first | with_reducible refine AE.name (by walk_at "lk") ?_ (by with_unfolding_all rfl) (by decide) | with_reducible refine AE.cell (by walk_at "lk") ?_ (by with_unfolding_all rfl) (by first | with_unfolding_all rfl | with_unfolding_all exact looked (by assumption) (Or.inl rfl) | with_unfolding_all exact looked (by assumption) (Or.inr rfl)) (by decide) | with_reducible refine AE.int ?_ | with_reducible refine AE.flt ?_ | with_reducible refine AE.str ?_ | with_reducible refine AE.bool ?_ | with_reducible refine AE.binop ?_ | with_reducible refine AE.sliceAll ?_ (by intro _ _; with_unfolding_all rfl) | with_reducible refine AE.item ?_ | with_reducible refine AE.cmp ?_ (by with_unfolding_all rfl) | with_reducible refine AE.neg ?_ | with_reducible refine AE.cLen (by with_unfolding_all rfl) ?_ (by with_unfolding_all rfl) (by with_unfolding_all rfl) | with_reducible refine AE.cSum (by with_unfolding_all rfl) ?_ (by with_unfolding_all rfl) (by with_unfolding_all rfl) | with_reducible refine AE.cAbs (by with_unfolding_all rfl) ?_ (by with_unfolding_all rfl) (by with_unfolding_all rfl) | with_reducible refine AE.cMax (by with_unfolding_all rfl) ?_ (by with_unfolding_all rfl) (by with_unfolding_all rfl) | with_reducible refine AE.cFloat (by with_unfolding_all rfl) ?_ (by with_unfolding_all rfl) (by with_unfolding_all rfl) | with_reducible refine AE.cList (by with_unfolding_all rfl) ?_ (by with_unfolding_all rfl) (by with_unfolding_all rfl) | with_reducible refine AE.iStr (by with_unfolding_all rfl) (by with_unfolding_all rfl) ?_ (by with_unfolding_all rfl) (by with_unfolding_all rfl) | with_reducible refine AE.iTup (by with_unfolding_all rfl) (by with_unfolding_all rfl) ?_ (by with_unfolding_all rfl) (by with_unfolding_all rfl) | with_reducible refine AE.iInt (by with_unfolding_all rfl) (by with_unfolding_all rfl) ?_ (by with_unfolding_all rfl) (by with_unfolding_all rfl) | with_reducible refine AE.iList (by with_unfolding_all rfl) (by with_unfolding_all rfl) ?_ (by with_unfolding_all rfl) (by with_unfolding_all rfl) | with_reducible refine AE.mCount ?_ (by with_unfolding_all rfl) (by with_unfolding_all rfl) (by with_unfolding_all rfl) (by with_unfolding_all rfl) (by with_unfolding_all rfl) | with_reducible refine AE.mAppend ?_ (by with_unfolding_all rfl) (by with_unfolding_all rfl) (by with_unfolding_all rfl) (by with_unfolding_all rfl) (by with_unfolding_all rfl) | with_reducible refine AE.mExtend ?_ (by with_unfolding_all rfl) (by with_unfolding_all rfl) (by with_unfolding_all rfl) (by with_unfolding_all rfl) (by with_unfolding_all rfl) | with_reducible refine AE.mPop ?_ (by with_unfolding_all rfl) (by with_unfolding_all rfl) (by with_unfolding_all rfl) (by with_unfolding_all rfl) (by with_unfolding_all rfl) | with_reducible refine AE.mIndex ?_ (by with_unfolding_all rfl) (by with_unfolding_all rfl) (by with_unfolding_all rfl) (by with_unfolding_all rfl) (by with_unfolding_all rfl) | with_reducible refine AE.ifexp ?_)
  | (with_reducible (show AN _ _ _ _ _); first | with_reducible refine AN.loc ?_ (by with_unfolding_all rfl) (by with_unfolding_all rfl) | with_reducible refine AN.cell ?_ (by with_unfolding_all rfl) (by with_unfolding_all rfl))
  | (with_reducible (show AEs _ _ _ _); first | with_reducible refine AEs.cons ?_ (by with_unfolding_all rfl) | with_reducible refine AEs.nil ?_)
  | (with_reducible (show AT _ _ _ _); first | with_reducible refine AT.cmp ?_ (by with_unfolding_all rfl) | with_reducible refine AT.not ?_ | with_reducible refine AT.andNil ?_ | with_reducible refine AT.and ?_ | with_reducible refine AT.orNil ?_ | with_reducible refine AT.or ?_ | with_reducible refine AT.val ?_ (by with_unfolding_all rfl))
  | (with_reducible (show AV _ _ _ _ _); first | with_reducible refine AV.isiStr_str ?_ | with_reducible refine AV.isiInt_str ?_ | with_reducible refine AV.isiInt_tuple ?_ | with_reducible refine AV.isiInt_int ?_ | with_reducible refine AV.isiStr_list ?_ | with_reducible refine AV.absF ?_ | with_reducible refine AV.floatF ?_ | with_reducible refine AV.fadd ?_ | with_reducible refine AV.fmul ?_ | with_reducible refine AV.ltFI ?_ | with_reducible refine AV.add ?_ | with_reducible refine AV.sub ?_ | with_reducible refine AV.eqI ?_ | with_reducible refine AV.neI ?_ | with_reducible refine AV.ltI ?_ | with_reducible refine AV.gtI ?_ | with_reducible refine AV.eqD ?_ | with_reducible refine AV.eqS ?_ | with_reducible refine AV.iadd ?_ | with_reducible refine AV.isub ?_)
  | (with_reducible (show AG _ _ _ _ _); first | with_reducible refine AG.name ?_)
  | (with_reducible (show AS _ _ _ _); first | with_reducible refine AS.ret ?_ | with_reducible refine AS.ite ?_ | with_reducible refine AS.brk ?_ | with_reducible refine AS.assign ?_ (by with_unfolding_all rfl) | with_reducible refine AS.aug (by walk_at "lk") ?_ (by with_unfolding_all rfl) | with_reducible refine AS.expr ?_ (by with_unfolding_all rfl) (by with_unfolding_all rfl))
  | (with_reducible (show AB _ _ _ _); first | with_reducible refine AB.bool ?_)
  | with_reducible refine itT ?_
  | with_reducible refine itF ?_
  | with_reducible refine ATs_nil ?_
  | with_reducible refine ⟨_, rfl, ?_⟩))
local macro_rules | `(tactic| walk_at "st") => `(tactic| (walk_at "st1"; walk_at "d"))
local macro_rules | `(tactic| walk_at "go") => `(tactic| repeat (first
  | dsimp only [thenX, turnX, locOf]
  | with_reducible refine AX.cons ?_
  | with_reducible refine AX.nil ?_
  | (with_reducible (show AE _ _ _ _); first | with_reducible refine AE.name (by walk_at "lk") ?_ (by with_unfolding_all rfl) (by decide) | with_reducible refine AE.cell (by walk_at "lk") ?_ (by with_unfolding_all rfl) (by first | with_unfolding_all rfl | with_unfolding_all exact looked (by assumption) (Or.inl rfl) | with_unfolding_all exact looked (by assumption) (Or.inr rfl)) (by decide) | with_reducible refine AE.int ?_ | with_reducible refine AE.flt ?_ | with_reducible refine AE.str ?_ | with_reducible refine AE.bool ?_ | with_reducible refine AE.binop ?_ | with_reducible refine AE.sliceAll ?_ (by intro _ _; with_unfolding_all rfl) | with_reducible refine AE.item ?_ | with_reducible refine AE.cmp ?_ (by with_unfolding_all rfl) | with_reducible refine AE.neg ?_ | with_reducible refine AE.cLen (by with_unfolding_all rfl) ?_ (by with_unfolding_all rfl) (by with_unfolding_all rfl) | with_reducible refine AE.cSum (by with_unfolding_all rfl) ?_ (by with_unfolding_all rfl) (by with_unfolding_all rfl) | with_reducible refine AE.cAbs (by with_unfolding_all rfl) ?_ (by with_unfolding_all rfl) (by with_unfolding_all rfl) | with_reducible refine AE.cMax (by with_unfolding_all rfl) ?_ (by with_unfolding_all rfl) (by with_unfolding_all rfl) | with_reducible refine AE.cFloat (by with_unfolding_all rfl) ?_ (by with_unfolding_all rfl) (by with_unfolding_all rfl) | with_reducible refine AE.cList (by with_unfolding_all rfl) ?_ (by with_unfolding_all rfl) (by with_unfolding_all rfl) | with_reducible refine AE.iStr (by with_unfolding_all rfl) (by with_unfolding_all rfl) ?_ (by with_unfolding_all rfl) (by with_unfolding_all rfl) | with_reducible refine AE.iTup (by with_unfolding_all rfl) (by with_unfolding_all rfl) ?_ (by with_unfolding_all rfl) (by with_unfolding_all rfl) | with_reducible refine AE.iInt (by with_unfolding_all rfl) (by with_unfolding_all rfl) ?_ (by with_unfolding_all rfl) (by with_unfolding_all rfl) | with_reducible refine AE.iList (by with_unfolding_all rfl) (by with_unfolding_all rfl) ?_ (by with_unfolding_all rfl) (by with_unfolding_all rfl) | with_reducible refine AE.mCount ?_ (by with_unfolding_all rfl) (by with_unfolding_all rfl) (by with_unfolding_all rfl) (by with_unfolding_all rfl) (by with_unfolding_all rfl) | with_reducible refine AE.mAppend ?_ (by with_unfolding_all rfl) (by with_unfolding_all rfl) (by with_unfolding_all rfl) (by with_unfolding_all rfl) (by with_unfolding_all rfl) | with_reducible refine AE.mExtend ?_ (by with_unfolding_all rfl) (by with_unfolding_all rfl) (by with_unfolding_all rfl) (by with_unfolding_all rfl) (by with_unfolding_all rfl) | with_reducible refine AE.mPop ?_ (by with_unfolding_all rfl) (by with_unfolding_all rfl) (by with_unfolding_all rfl) (by with_unfolding_all rfl) (by with_unfolding_all rfl) | with_reducible refine AE.mIndex ?_ (by with_unfolding_all rfl) (by with_unfolding_all rfl) (by with_unfolding_all rfl) (by with_unfolding_all rfl) (by with_unfolding_all rfl) | with_reducible refine AE.ifexp ?_)
  | (with_reducible (show AN _ _ _ _ _); first | with_reducible refine AN.loc ?_ (by with_unfolding_all rfl) (by with_unfolding_all rfl) | with_reducible refine AN.cell ?_ (by with_unfolding_all rfl) (by with_unfolding_all rfl))
  | (with_reducible (show AEs _ _ _ _); first | with_reducible refine AEs.cons ?_ (by with_unfolding_all rfl) | with_reducible refine AEs.nil ?_)
  | (with_reducible (show AT _ _ _ _); first | with_reducible refine AT.cmp ?_ (by with_unfolding_all rfl) | with_reducible refine AT.not ?_ | with_reducible refine AT.andNil ?_ | with_reducible refine AT.and ?_ | with_reducible refine AT.orNil ?_ | with_reducible refine AT.or ?_ | with_reducible refine AT.val ?_ (by with_unfolding_all rfl))
  | (with_reducible (show AV _ _ _ _ _); first | with_reducible refine AV.isiStr_str ?_ | with_reducible refine AV.isiInt_str ?_ | with_reducible refine AV.isiInt_tuple ?_ | with_reducible refine AV.isiInt_int ?_ | with_reducible refine AV.isiStr_list ?_ | with_reducible refine AV.absF ?_ | with_reducible refine AV.floatF ?_ | with_reducible refine AV.fadd ?_ | with_reducible refine AV.fmul ?_ | with_reducible refine AV.ltFI ?_ | with_reducible refine AV.add ?_ | with_reducible refine AV.sub ?_ | with_reducible refine AV.eqI ?_ | with_reducible refine AV.neI ?_ | with_reducible refine AV.ltI ?_ | with_reducible refine AV.gtI ?_ | with_reducible refine AV.eqD ?_ | with_reducible refine AV.eqS ?_ | with_reducible refine AV.iadd ?_ | with_reducible refine AV.isub ?_)
  | (with_reducible (show AG _ _ _ _ _); first | with_reducible refine AG.name ?_)
  | (with_reducible (show AS _ _ _ _); first | with_reducible refine AS.ret ?_ | with_reducible refine AS.ite ?_ | with_reducible refine AS.brk ?_ | with_reducible refine AS.assign ?_ (by with_unfolding_all rfl) | with_reducible refine AS.aug (by walk_at "lk") ?_ (by with_unfolding_all rfl) | with_reducible refine AS.expr ?_ (by with_unfolding_all rfl) (by with_unfolding_all rfl))
  | (with_reducible (show AB _ _ _ _); first | with_reducible refine AB.bool ?_)
  | with_reducible refine itT ?_
  | with_reducible refine itF ?_
  | with_reducible refine ATs_nil ?_
  | with_reducible refine ⟨_, rfl, ?_⟩))
local macro_rules | `(tactic| walk_at "stop") => `(tactic| (walk_at "d"; refine AN.loc ?_ (by with_unfolding_all rfl) (by with_unfolding_all rfl); walk_at "d"; repeat (with_reducible refine AX.nil ?_; walk_at "d")))
/-- is a value the int k -/
def isK (k : Int) (u : Value) : Bool := match u with
  | .int n _ => n == k
  | _ => false
theorem isK_at {ρ : List Addr} {ns : List Int} {us : List Value} (r : VRs ρ (ns.map V.int) us) {m : Nat} {u : Value} (h : us[m]? = some u) : ∃ n t, ns[m]? = some n ∧ u = .int n t := by
  obtain ⟨v, e, hv⟩ := r.get' h
  rw [List.getElem?_map] at e
  obtain ⟨n, hn, rfl⟩ := Option.map_eq_some_iff.mp e
  cases hv with
  | int _ t => exact ⟨n, t, hn, rfl⟩
/-- the place of an int in a list of ints, each of any size; the list no longer than a bound -/
theorem AV.indexI' {F : Fm} {σ : St} {P : V → List O → Prop} {i : Nat} {ns : List Int} {k : Int} (hi : σ.hp[i]? = some (.lst (ns.map V.int))) (hb : ns.length ≤ 4096) (hk : k ∈ ns) (h : P (.int (ns.idxOf k : Nat)) σ.hp) : AV F [.ref i, .int k] (fun us => call (.builtin "list.index") us) σ P := by
  intro ρ s us Q hF I hv K
  cases hv with | cons v1 hv =>
  cases hv with | cons v2 hv =>
  cases hv with | nil =>
  cases v1 with | @ref _ l ha =>
  cases v2 with | int _ t =>
  obtain ⟨xs, n, l1, r1⟩ := I.list ha hi
  have z : xs.length = ns.length := by rw [r1.length, List.length_map]
  have found : ns.idxOf k < ns.length := List.idxOf_lt_length_of_mem hk
  have told : ∀ y ∈ xs.toArray, MeetsSeq.EqGives y (.int k t) (isK k y) := fun y hy => by
    obtain ⟨m, hm⟩ := List.getElem?_of_mem (List.mem_toArray.mp hy)
    obtain ⟨c, u, _, rfl⟩ := isK_at r1 hm
    exact MeetsSeq.EqGives.int c k u t
  have ends := MeetsSeq.list_index l xs.toArray n (.int k t) (isK k) told (ns.idxOf k) (by rw [List.size_toArray, z]; exact found) (by omega)
    (by
      obtain ⟨c, u, e, q⟩ := isK_at r1 (List.getElem?_eq_getElem (z ▸ found))
      rw [List.getElem_toArray, q]
      have c1 := (List.getElem?_eq_some_iff.mp e).2
      rw [List.getElem_idxOf found] at c1
      exact beq_iff_eq.mpr c1.symm)
    (fun m hm lt => by
      rw [List.size_toArray] at hm
      obtain ⟨c, u, e, q⟩ := isK_at r1 (List.getElem?_eq_getElem hm)
      rw [List.getElem_toArray, q]
      obtain ⟨_, rfl⟩ := List.getElem?_eq_some_iff.mp e
      exact List.not_of_lt_findIdx lt)
  exact call_meets PySem.F.slot_list_index ⟨_, l1, rfl⟩ PySem.F.entry_list_index (PySem.F.args_list_index_2 _ _) ends ⟨l1, K.here I h (.int _ _)⟩
theorem at2 {hp t : List O} {a b c : O} : (hp ++ a :: b :: c :: t)[hp.length + 1 + 1]? = some c := by
  rw [List.getElem?_append_right (by omega)]
  rw [show hp.length + 1 + 1 - hp.length = 2 by omega]; rfl
theorem AV.isiCh_str {F : Fm} {σ : St} {P : V → List O → Prop} {c : Bool} (h : P (.bool true) σ.hp) : AV F [strV c] (Mine.isi "str") σ P := AV.isiStr_str h
theorem okP {v w : V} : FnOK fP [(Str.ofString "creation_sequence", v), (Str.ofString "i", w)] := by
  refine ⟨rfl, rfl, rfl, by decide +kernel, fun n x hx => .inl ?_⟩
  rcases List.mem_cons.mp hx with rfl | hx
  · rfl
  rw [List.mem_singleton.mp hx]; rfl
theorem bindP {v w : V} : Binds fP [v, w] [] [(Str.ofString "creation_sequence", v), (Str.ofString "i", w)] := Binds.two rfl fun _ _ _ _ _ _ _ => rfl
theorem spl_lt {cs : List Bool} {k : Nat} {y : List Int} (h : splO cs k = some y) : k < cs.length := of_decide_eq_true (chk_some h).1

theorem meetP_list {r k : Nat} {cs : List Bool} {hp : List O} {P : V → List O → Prop} {y : List Int} (h0 : hp[r]? = some (.lst (cs.map strV))) (hz : cs.length ≤ 7) (hy : splO cs k = some y)
    (h : ∀ i t, (hp ++ t)[i]? = some (rowV y) → hp.length ≤ i → P (.ref i) (hp ++ t)) :
    Meets fns 1 fP [(Str.ofString "creation_sequence", .ref r), (Str.ofString "i", .int k)] hp P := by
  intro g prog w A L a cdv n hn
  have hk := spl_lt hy
  obtain ⟨c0, hc0⟩ : ∃ c, cs[0]? = some c := ⟨cs[0], List.getElem?_eq_getElem (by omega)⟩
  refine AX.cons ?_
  walk_at "go"
  refine AV.at h0 (by omega) (by omega) (code_at hc0) ?_
  walk_at "go"
  refine AV.isiCh_str ?_
  walk_at "go"
  refine AV.isiList_list h0 ?_
  walk_at "go"
  refine ⟨_, _, rfl, h0, by simp; omega, ?_⟩
  walk_at "stop"
  refine tailP hp_new ?_ ?_ ?_ hz hy ?_
  · simp
  · walk_at "lk"
  · walk_at "lk"
  have k := h (hp.length + 1 + 1) (O.lst (cs.map strV) :: rowV [2] :: rowV y :: []) at2 (by omega)
  rw [show (hp ++ [O.lst (List.map strV cs)]).length = hp.length + 1 by simp, show splH (hp ++ [O.lst (List.map strV cs)]) y = hp ++ O.lst (cs.map strV) :: rowV [2] :: rowV y :: [] by simp [splH]]
  exact k

def codeOf (c : Bool) : Nat := if c then 100 else 105
theorem charV_code (c : Bool) : charV (codeOf c) = strV c := by cases c <;> rfl
theorem meetP_str {s : Str} {k : Nat} {cs : List Bool} {hp : List O} {P : V → List O → Prop} {y : List Int} (h0 : s.cps.toList = cs.map codeOf) (hz : cs.length ≤ 7) (hy : splO cs k = some y)
    (h : ∀ i t, (hp ++ t)[i]? = some (rowV y) → hp.length ≤ i → P (.ref i) (hp ++ t)) :
    Meets fns 1 fP [(Str.ofString "creation_sequence", .str s), (Str.ofString "i", .int k)] hp P := by
  intro g prog w A L a cdv n hn
  have hk := spl_lt hy
  obtain ⟨c0, hc0⟩ : ∃ c, cs[0]? = some c := ⟨cs[0], List.getElem?_eq_getElem (by omega)⟩
  have hs0 : s.cps[0]? = some (codeOf c0) := by
    have : s.cps.toList[0]? = some (codeOf c0) := by rw [h0, List.getElem?_map, hc0]; rfl
    simpa using this
  have hsz : s.cps.size ≤ 4096 := by
    have : s.cps.toList.length = cs.length := by rw [h0, List.length_map]
    simp at this; omega
  refine AX.cons ?_
  walk_at "go"
  refine AV.sat hs0 ?_
  rw [charV_code]
  walk_at "go"
  refine AV.isiCh_str ?_
  walk_at "go"
  refine AV.listS hsz ?_
  rw [show s.cps.toList.map charV = cs.map strV by rw [h0, List.map_map]; exact congrArg (fun f => cs.map f) (funext charV_code)]
  walk_at "stop"
  refine tailP hp_new ?_ ?_ ?_ hz hy ?_
  · simp
  · walk_at "lk"
  · walk_at "lk"
  have k := h (hp.length + 1 + 1) (O.lst (cs.map strV) :: rowV [2] :: rowV y :: []) at2 (by omega)
  rw [show (hp ++ [O.lst (List.map strV cs)]).length = hp.length + 1 by simp, show splH (hp ++ [O.lst (List.map strV cs)]) y = hp ++ O.lst (cs.map strV) :: rowV [2] :: rowV y :: [] by simp [splH]]
  exact k

theorem meetP_runs {r k : Nat} {a : Int} {xs : List Int} {cs : List Bool} {hp : List O} {P : V → List O → Prop} {y : List Int} (h0 : hp[r]? = some (rowV (a :: xs))) (hx : xs.length ≤ 99) (hu : uncO (a :: xs) [] = some cs) (hz : cs.length ≤ 7) (hy : splO cs k = some y)
    (h : ∀ i t, (hp ++ t)[i]? = some (rowV y) → hp.length ≤ i → P (.ref i) (hp ++ t)) :
    Meets fns 1 fP [(Str.ofString "creation_sequence", .ref r), (Str.ofString "i", .int k)] hp P := by
  intro g prog w A L a' cdv n hn
  refine AX.cons ?_
  walk_at "go"
  refine AV.at h0 (by omega) (by omega) (x := .int a) (by simp) ?_
  walk_at "go"
  refine AE.callF fU memU rfl hn ?_
  walk_at "go"
  refine ⟨_, bindU, okU, meetU h0 hx hu fun i t hi hle => ?_⟩
  walk_at "stop"
  refine tailP hi ?_ ?_ ?_ hz hy ?_
  · simp
  · walk_at "lk"
  · walk_at "lk"
  have k := h ((hp ++ t).length + 1) (t ++ rowV [2] :: rowV y :: []) (by rw [← List.append_assoc]; exact at1) (by simp; omega)
  rw [← List.append_assoc] at k
  exact k

/-- a labelled row: label and letter -/
def LabAt (hp : List O) (r : Nat) (ls : List (Int × Bool)) : Prop := ∃ js : List Nat, hp[r]? = some (.lst (js.map V.ref)) ∧ js.length = ls.length ∧ ∀ (k : Nat) (p : Int × Bool), ls[k]? = some p → ∃ j : Nat, js[k]? = some j ∧ hp[j]? = some (.tup [.int p.1, strV p.2])
theorem LabAt.app {hp t : List O} {r : Nat} {R : List (Int × Bool)} (h : LabAt hp r R) : LabAt (hp ++ t) r R := by
  obtain ⟨js, h1, h2, h3⟩ := h
  refine ⟨js, hp_old h1, h2, fun k row e => ?_⟩
  obtain ⟨j, e1, e2⟩ := h3 k row e
  exact ⟨j, e1, hp_old e2⟩
theorem meetP_lab {r k : Nat} {ls : List (Int × Bool)} {hp : List O} {P : V → List O → Prop} {y : List Int} {lab : Int} (h0 : LabAt hp r ls) (hz : ls.length ≤ 7) (hy : splO (ls.map (·.2)) k = some y) (hlab : lab ∈ ls.map (·.1)) (hk : (ls.map (·.1)).idxOf lab = k)
    (h : ∀ i t, (hp ++ t)[i]? = some (rowV y) → hp.length ≤ i → P (.ref i) (hp ++ t)) :
    Meets fns 1 fP [(Str.ofString "creation_sequence", .ref r), (Str.ofString "i", .int lab)] hp P := by
  intro g prog w A L a cdv n hn
  have hk' := spl_lt hy
  rw [List.length_map] at hk'
  obtain ⟨js, hr, hjl, hjs⟩ := h0
  obtain ⟨j0, hj0, ht0⟩ := hjs 0 ls[0] (List.getElem?_eq_getElem (by omega))
  have hjz : (js.map V.ref).length ≤ 4096 := by simp; omega
  refine AX.cons ?_
  walk_at "go"
  refine AV.at hr (by omega) (by omega) (x := .ref j0) (by simp [hj0]) ?_
  walk_at "go"
  refine AV.isiTup_str ht0 ?_
  walk_at "go"
  refine AV.isiTup_tup ht0 ?_
  walk_at "go"
  refine AS.compL (ScopeOK.fn rfl (by decide +kernel) (by decide +kernel) (.inl rfl)) ?_ (by with_unfolding_all rfl) (by intro _; with_unfolding_all rfl)
  walk_at "go"
  refine ⟨_, _, rfl, hr, hjz, fun i acc hp' => hp' = hp ∧ acc = ((ls.take i).map (·.2)).map strV, ⟨rfl, by simp⟩, ?_, ?_⟩
  · rintro cells C i acc hp' look hi ⟨rfl, rfl⟩
    rw [List.length_map, hjl] at hi
    obtain ⟨j, hj, htj⟩ := hjs i ls[i] (List.getElem?_eq_getElem hi)
    have hval : ((List.map V.ref js)[i]?).getD V.none = V.ref j := by rw [List.getElem?_map, hj]; rfl
    dsimp only
    rw [hval]
    walk_at "go"
    refine AV.tat htj (by omega) (by omega) (x := strV ls[i].2) (by rfl) ?_
    refine ⟨rfl, ?_⟩
    rw [take_snoc hi, List.map_append, List.map_append]; rfl
  · rintro acc hq ⟨rfl, rfl⟩
    rw [List.length_map, hjl, List.take_length]
    walk_at "go"
    refine AE.compL (ScopeOK.fn rfl (by decide +kernel) (by decide +kernel) (.inl rfl)) ?_ (by intro _; with_unfolding_all rfl)
    walk_at "go"
    refine ⟨_, _, rfl, hp_old hr, hjz, fun i acc hp' => hp' = hq ++ [O.lst ((ls.map (·.2)).map strV)] ∧ acc = ((ls.take i).map (·.1)).map V.int, ⟨rfl, by simp⟩, ?_, ?_⟩
    · rintro cells C i acc hp' look hi ⟨rfl, rfl⟩
      rw [List.length_map, hjl] at hi
      obtain ⟨j, hj, htj⟩ := hjs i ls[i] (List.getElem?_eq_getElem hi)
      have hval : ((List.map V.ref js)[i]?).getD V.none = V.ref j := by rw [List.getElem?_map, hj]; rfl
      dsimp only
      rw [hval]
      walk_at "go"
      refine AV.tat (hp_old htj) (by omega) (by omega) (x := .int ls[i].1) (by rfl) ?_
      refine ⟨rfl, ?_⟩
      rw [take_snoc hi, List.map_append, List.map_append]; rfl
    · rintro acc hp' ⟨rfl, rfl⟩
      rw [List.length_map, hjl, List.take_length]
      refine ⟨⟨_, _, rfl, hp_new⟩, ?_⟩
      walk_at "go"
      refine AV.indexI' hp_new (by rw [List.length_map]; omega) hlab ?_
      rw [hk]
      walk_at "stop"
      refine tailP (hp_old hp_new) ?_ ?_ ?_ (by simpa using hz) hy ?_
      · simp
      · walk_at "lk"
      · walk_at "lk"
      have k := h ((hq ++ [O.lst ((ls.map (·.2)).map strV)] ++ [O.lst ((ls.map (·.1)).map V.int)]).length + 1) ([O.lst ((ls.map (·.2)).map strV)] ++ [O.lst ((ls.map (·.1)).map V.int)] ++ rowV [2] :: rowV y :: []) (by rw [← List.append_assoc, ← List.append_assoc]; exact at1) (by simp; omega)
      rw [← List.append_assoc, ← List.append_assoc] at k
      exact k


end

/-! ## part 30 -/
section
local macro_rules | `(tactic| walk_at "lk1") => `(tactic| first | with_reducible assumption | with_reducible exact upd_same | ((with_reducible refine (upd_ne (by decide)).trans ?_); walk_at "lk1") | ((with_reducible refine (freeLoc_eq (by with_unfolding_all rfl)).trans ?_); walk_at "lk1"))
local macro_rules | `(tactic| walk_at "lk") => `(tactic| ((try dsimp only); walk_at "lk1"))
local macro_rules | `(tactic| walk_at "d") => `(tactic| try dsimp only [thenX, turnX, locOf])
local macro_rules | `(tactic| walk_at "st1") => `(tactic| (first
  | with_reducible refine AX.cons ?_
  | with_reducible refine AX.nil ?_
  | (with_reducible (show AE _ _ _ _); first | with_reducible refine AE.name (by walk_at "lk") ?_ (by with_unfolding_all rfl) (by decide) | with_reducible refine AE.cell (by walk_at "lk") ?_ (by with_unfolding_all rfl) (by first | with_unfolding_all rfl | with_unfolding_all exact looked (by assumption) (Or.inl rfl) | with_unfolding_all exact looked (by assumption) (Or.inr rfl)) (by decide) | with_reducible refine AE.int ?_ | with_reducible refine AE.flt ?_ | with_reducible refine AE.str ?_ | with_reducible refine AE.bool ?_ | with_reducible refine AE.binop ?_ | with_reducible refine AE.sliceAll ?_ (by intro _ _; with_unfolding_all rfl) | with_reducible refine AE.item ?_ | with_reducible refine AE.cmp ?_ (by with_unfolding_all rfl) | with_reducible refine AE.neg ?_ | with_reducible refine AE.cLen (by with_unfolding_all rfl) ?_ (by with_unfolding_all rfl) (by with_unfolding_all rfl) | with_reducible refine AE.cSum (by with_unfolding_all rfl) ?_ (by with_unfolding_all rfl) (by with_unfolding_all rfl) | with_reducible refine AE.cAbs (by with_unfolding_all rfl) ?_ (by with_unfolding_all rfl) (by with_unfolding_all rfl) | with_reducible refine AE.cMax (by with_unfolding_all rfl) ?_ (by with_unfolding_all rfl) (by with_unfolding_all rfl) | with_reducible refine AE.cFloat (by with_unfolding_all rfl) ?_ (by with_unfolding_all rfl) (by with_unfolding_all rfl) | with_reducible refine AE.cList (by with_unfolding_all rfl) ?_ (by with_unfolding_all rfl) (by with_unfolding_all rfl) | with_reducible refine AE.iStr (by with_unfolding_all rfl) (by with_unfolding_all rfl) ?_ (by with_unfolding_all rfl) (by with_unfolding_all rfl) | with_reducible refine AE.iTup (by with_unfolding_all rfl) (by with_unfolding_all rfl) ?_ (by with_unfolding_all rfl) (by with_unfolding_all rfl) | with_reducible refine AE.iInt (by with_unfolding_all rfl) (by with_unfolding_all rfl) ?_ (by with_unfolding_all rfl) (by with_unfolding_all rfl) | with_reducible refine AE.iList (by with_unfolding_all rfl) (by with_unfolding_all rfl) ?_ (by with_unfolding_all rfl) (by with_unfolding_all rfl) | with_reducible refine AE.mCount ?_ (by with_unfolding_all rfl) (by with_unfolding_all rfl) (by with_unfolding_all rfl) (by with_unfolding_all rfl) (by with_unfolding_all rfl) | with_reducible refine AE.mAppend ?_ (by with_unfolding_all rfl) (by with_unfolding_all rfl) (by with_unfolding_all rfl) (by with_unfolding_all rfl) (by with_unfolding_all rfl) | with_reducible refine AE.mExtend ?_ (by with_unfolding_all rfl) (by with_unfolding_all rfl) (by with_unfolding_all rfl) (by with_unfolding_all rfl) (by with_unfolding_all rfl) | with_reducible refine AE.mPop ?_ (by with_unfolding_all rfl) (by with_unfolding_all rfl) (by with_unfolding_all rfl) (by with_unfolding_all rfl) (by with_unfolding_all rfl) | with_reducible refine AE.mIndex ?_ (by with_unfolding_all rfl) (by with_unfolding_all rfl) (by with_unfolding_all rfl) (by with_unfolding_all rfl) (by with_unfolding_all rfl) | with_reducible refine AE.join ?_ (by with_unfolding_all rfl) (by with_unfolding_all rfl) (by with_unfolding_all rfl) (by with_unfolding_all rfl) (by with_unfolding_all rfl) | with_reducible refine AE.ifexp ?_)
  | (with_reducible (show AN _ _ _ _ _); first | with_reducible refine AN.loc ?_ (by with_unfolding_all rfl) (by with_unfolding_all rfl) | with_reducible refine AN.cell ?_ (by with_unfolding_all rfl) (by with_unfolding_all rfl))
  | (with_reducible (show AEs _ _ _ _); first | with_reducible refine AEs.cons ?_ (by with_unfolding_all rfl) | with_reducible refine AEs.nil ?_)
  | (with_reducible (show AT _ _ _ _); first | with_reducible refine AT.cmp ?_ (by with_unfolding_all rfl) | with_reducible refine AT.not ?_ | with_reducible refine AT.andNil ?_ | with_reducible refine AT.and ?_ | with_reducible refine AT.orNil ?_ | with_reducible refine AT.or ?_ | with_reducible refine AT.val ?_ (by with_unfolding_all rfl))
  | (with_reducible (show AV _ _ _ _ _); first | with_reducible refine AV.isiStr_str ?_ | with_reducible refine AV.isiInt_str ?_ | with_reducible refine AV.isiInt_tuple ?_ | with_reducible refine AV.isiInt_int ?_ | with_reducible refine AV.isiStr_list ?_ | with_reducible refine AV.absF ?_ | with_reducible refine AV.floatF ?_ | with_reducible refine AV.fadd ?_ | with_reducible refine AV.fmul ?_ | with_reducible refine AV.ltFI ?_ | with_reducible refine AV.add ?_ | with_reducible refine AV.sub ?_ | with_reducible refine AV.eqI ?_ | with_reducible refine AV.neI ?_ | with_reducible refine AV.ltI ?_ | with_reducible refine AV.gtI ?_ | with_reducible refine AV.eqD ?_ | with_reducible refine AV.eqS ?_ | with_reducible refine AV.iadd ?_ | with_reducible refine AV.isub ?_)
  | (with_reducible (show AG _ _ _ _ _); first | with_reducible refine AG.name ?_)
  | (with_reducible (show AS _ _ _ _); first | with_reducible refine AS.ret ?_ | with_reducible refine AS.ite ?_ | with_reducible refine AS.brk ?_ | with_reducible refine AS.assign ?_ (by with_unfolding_all rfl) | with_reducible refine AS.aug (by walk_at "lk") ?_ (by with_unfolding_all rfl) | with_reducible refine AS.expr ?_ (by with_unfolding_all rfl) (by with_unfolding_all rfl))
  | (with_reducible (show AB _ _ _ _); first | with_reducible refine AB.bool ?_)
  | with_reducible refine itT ?_
  | with_reducible refine itF ?_
  | with_reducible refine ATs_nil ?_
  | with_reducible refine ⟨_, rfl, ?_⟩))
local macro_rules | `(tactic| walk_at "st") => `(tactic| (walk_at "st1"; walk_at "d"))
local macro_rules | `(tactic| walk_at "go") => `(tactic| repeat (first
  | dsimp only [thenX, turnX, locOf]
  | with_reducible refine AX.cons ?_
  | with_reducible refine AX.nil ?_
  | (with_reducible (show AE _ _ _ _); first | with_reducible refine AE.name (by walk_at "lk") ?_ (by with_unfolding_all rfl) (by decide) | with_reducible refine AE.cell (by walk_at "lk") ?_ (by with_unfolding_all rfl) (by first | with_unfolding_all rfl | with_unfolding_all exact looked (by assumption) (Or.inl rfl) | with_unfolding_all exact looked (by assumption) (Or.inr rfl)) (by decide) | with_reducible refine AE.int ?_ | with_reducible refine AE.flt ?_ | with_reducible refine AE.str ?_ | with_reducible refine AE.bool ?_ | with_reducible refine AE.binop ?_ | with_reducible refine AE.sliceAll ?_ (by intro _ _; with_unfolding_all rfl) | with_reducible refine AE.item ?_ | with_reducible refine AE.cmp ?_ (by with_unfolding_all rfl) | with_reducible refine AE.neg ?_ | with_reducible refine AE.cLen (by with_unfolding_all rfl) ?_ (by with_unfolding_all rfl) (by with_unfolding_all rfl) | with_reducible refine AE.cSum (by with_unfolding_all rfl) ?_ (by with_unfolding_all rfl) (by with_unfolding_all rfl) | with_reducible refine AE.cAbs (by with_unfolding_all rfl) ?_ (by with_unfolding_all rfl) (by with_unfolding_all rfl) | with_reducible refine AE.cMax (by with_unfolding_all rfl) ?_ (by with_unfolding_all rfl) (by with_unfolding_all rfl) | with_reducible refine AE.cFloat (by with_unfolding_all rfl) ?_ (by with_unfolding_all rfl) (by with_unfolding_all rfl) | with_reducible refine AE.cList (by with_unfolding_all rfl) ?_ (by with_unfolding_all rfl) (by with_unfolding_all rfl) | with_reducible refine AE.iStr (by with_unfolding_all rfl) (by with_unfolding_all rfl) ?_ (by with_unfolding_all rfl) (by with_unfolding_all rfl) | with_reducible refine AE.iTup (by with_unfolding_all rfl) (by with_unfolding_all rfl) ?_ (by with_unfolding_all rfl) (by with_unfolding_all rfl) | with_reducible refine AE.iInt (by with_unfolding_all rfl) (by with_unfolding_all rfl) ?_ (by with_unfolding_all rfl) (by with_unfolding_all rfl) | with_reducible refine AE.iList (by with_unfolding_all rfl) (by with_unfolding_all rfl) ?_ (by with_unfolding_all rfl) (by with_unfolding_all rfl) | with_reducible refine AE.mCount ?_ (by with_unfolding_all rfl) (by with_unfolding_all rfl) (by with_unfolding_all rfl) (by with_unfolding_all rfl) (by with_unfolding_all rfl) | with_reducible refine AE.mAppend ?_ (by with_unfolding_all rfl) (by with_unfolding_all rfl) (by with_unfolding_all rfl) (by with_unfolding_all rfl) (by with_unfolding_all rfl) | with_reducible refine AE.mExtend ?_ (by with_unfolding_all rfl) (by with_unfolding_all rfl) (by with_unfolding_all rfl) (by with_unfolding_all rfl) (by with_unfolding_all rfl) | with_reducible refine AE.mPop ?_ (by with_unfolding_all rfl) (by with_unfolding_all rfl) (by with_unfolding_all rfl) (by with_unfolding_all rfl) (by with_unfolding_all rfl) | with_reducible refine AE.mIndex ?_ (by with_unfolding_all rfl) (by with_unfolding_all rfl) (by with_unfolding_all rfl) (by with_unfolding_all rfl) (by with_unfolding_all rfl) | with_reducible refine AE.join ?_ (by with_unfolding_all rfl) (by with_unfolding_all rfl) (by with_unfolding_all rfl) (by with_unfolding_all rfl) (by with_unfolding_all rfl) | with_reducible refine AE.ifexp ?_)
  | (with_reducible (show AN _ _ _ _ _); first | with_reducible refine AN.loc ?_ (by with_unfolding_all rfl) (by with_unfolding_all rfl) | with_reducible refine AN.cell ?_ (by with_unfolding_all rfl) (by with_unfolding_all rfl))
  | (with_reducible (show AEs _ _ _ _); first | with_reducible refine AEs.cons ?_ (by with_unfolding_all rfl) | with_reducible refine AEs.nil ?_)
  | (with_reducible (show AT _ _ _ _); first | with_reducible refine AT.cmp ?_ (by with_unfolding_all rfl) | with_reducible refine AT.not ?_ | with_reducible refine AT.andNil ?_ | with_reducible refine AT.and ?_ | with_reducible refine AT.orNil ?_ | with_reducible refine AT.or ?_ | with_reducible refine AT.val ?_ (by with_unfolding_all rfl))
  | (with_reducible (show AV _ _ _ _ _); first | with_reducible refine AV.isiStr_str ?_ | with_reducible refine AV.isiInt_str ?_ | with_reducible refine AV.isiInt_tuple ?_ | with_reducible refine AV.isiInt_int ?_ | with_reducible refine AV.isiStr_list ?_ | with_reducible refine AV.absF ?_ | with_reducible refine AV.floatF ?_ | with_reducible refine AV.fadd ?_ | with_reducible refine AV.fmul ?_ | with_reducible refine AV.ltFI ?_ | with_reducible refine AV.add ?_ | with_reducible refine AV.sub ?_ | with_reducible refine AV.eqI ?_ | with_reducible refine AV.neI ?_ | with_reducible refine AV.ltI ?_ | with_reducible refine AV.gtI ?_ | with_reducible refine AV.eqD ?_ | with_reducible refine AV.eqS ?_ | with_reducible refine AV.iadd ?_ | with_reducible refine AV.isub ?_)
  | (with_reducible (show AG _ _ _ _ _); first | with_reducible refine AG.name ?_)
  | (with_reducible (show AS _ _ _ _); first | with_reducible refine AS.ret ?_ | with_reducible refine AS.ite ?_ | with_reducible refine AS.brk ?_ | with_reducible refine AS.assign ?_ (by with_unfolding_all rfl) | with_reducible refine AS.aug (by walk_at "lk") ?_ (by with_unfolding_all rfl) | with_reducible refine AS.expr ?_ (by with_unfolding_all rfl) (by with_unfolding_all rfl))
  | (with_reducible (show AB _ _ _ _); first | with_reducible refine AB.bool ?_)
  | with_reducible refine itT ?_
  | with_reducible refine itF ?_
  | with_reducible refine ATs_nil ?_
  | with_reducible refine ⟨_, rfl, ?_⟩))
local macro_rules | `(tactic| walk_at "stop") => `(tactic| (walk_at "d"; refine AN.loc ?_ (by with_unfolding_all rfl) (by with_unfolding_all rfl); walk_at "d"; repeat (with_reducible refine AX.nil ?_; walk_at "d")))
theorem meetW' {r : Nat} {R : List (List Nat)} {hp : List O} {P : V → List O → Prop} {start : Nat} {y : List Int × List Int} (h0 : RowsAt hp r R) (hz : R.length ≤ 7) (hy : lawFrom R start = some y)
    (h : ∀ i a b t, (hp ++ t)[i]? = some (.tup [.ref a, .ref b]) → (hp ++ t)[a]? = some (rowV y.1) → (hp ++ t)[b]? = some (rowV y.2) → P (.ref i) (hp ++ t)) :
    Meets fns 0 fW [(Str.ofString "rows", .ref r), (Str.ofString "start", .int start)] hp P := by
  refine meetW h0 hz hy ?_
  have e : fromH hp y ++ [O.tup [.ref (hp.length + 1), .ref (hp.length + 3)]] = hp ++ (rowV [-1] :: rowV y.1 :: rowV [0] :: rowV y.2 :: [O.tup [.ref (hp.length + 1), .ref (hp.length + 3)]]) := by simp [fromH]
  rw [e]
  refine h _ _ _ _ ?_ at1 at3
  rw [List.getElem?_append_right (by omega)]
  simp
theorem join_codes : ∀ (cs : List Bool), (Txt.join (Str.ofString "") (cs.map chr)).cps.toList = cs.map codeOf := by
  have key : ∀ (l : List Bool) (acc : Array Nat), ((l.map chr).foldl (fun acc p => acc ++ (Str.ofString "").cps ++ p.cps) acc).toList = acc.toList ++ l.map codeOf := by
    intro l
    induction l with
    | nil => intro acc; simp
    | cons c l ih =>
      intro acc
      rw [List.map_cons, List.foldl_cons, ih]
      have : (Str.ofString "").cps = #[] := rfl
      rw [this]
      have e : (chr c).cps.toList = [codeOf c] := by cases c <;> rfl
      simp [e]
  intro cs
  unfold Txt.join
  cases cs with
  | nil => rfl
  | cons c l =>
    show (((c :: l).map chr).drop 1 |>.foldl (fun acc p => acc ++ (Str.ofString "").cps ++ p.cps) ((((c :: l).map chr).headD Str.empty).cps)).toList = _
    rw [List.map_cons, List.drop_one, List.tail_cons, key]
    have e : (chr c).cps.toList = [codeOf c] := by cases c <;> rfl
    simp [e]
theorem fmod_nat {x : Int} {m : Nat} (hm : 0 < m) : ∃ s : Nat, x.fmod (m : Int) = (s : Int) ∧ s < m := by
  have h1 : x.fmod (m : Int) = x % (m : Int) := Int.fmod_eq_emod_of_nonneg _ (by omega)
  have h2 := Int.emod_nonneg x (b := (m : Int)) (by omega)
  have h3 := Int.emod_lt_of_pos x (b := (m : Int)) (by omega)
  exact ⟨(x % (m : Int)).toNat, by omega, by omega⟩

theorem len_sum : ∀ cs : List Bool, ((cs.map chr).map (·.length)).sum = cs.length
  | [] => rfl
  | c :: cs => by
    rw [List.map_cons, List.map_cons, List.sum_cons, len_sum cs, List.length_cons]
    have : (chr c).length = 1 := by cases c <;> rfl
    omega
set_option maxHeartbeats 8000000 in
theorem segD {g : Heap} {prog : Program} {w : World} {A : Around} {L a : Addr} {cdv : Value} {n : Nat} {loc : Str → Option V} {H : List O} {jn jl jp jr jb la : Nat} {nm : List Int} {q2 : Int} {cs : List Bool} {R : List (List Nat)} {ls : List (Int × Bool)} {ra : Int} {rx : List Int} (hn : 2 ≤ n)
    (l1 : loc (Str.ofString "numbers") = some (.ref jn)) (h1 : H[jn]? = some (rowV nm)) (hnm : nm[2]? = some q2)
    (l3 : loc (Str.ofString "letters") = some (.ref jl)) (h3 : H[jl]? = some (.lst (cs.map strV)))
    (l4 : loc (Str.ofString "plain") = some (.ref jp)) (h4 : H[jp]? = some (.lst (cs.map strV)))
    (l5 : loc (Str.ofString "rows") = some (.ref jr)) (h5 : RowsAt H jr R)
    (l7 : loc (Str.ofString "last") = some (.int la))
    (l8 : loc (Str.ofString "labelled") = some (.ref jb)) (h8 : LabAt H jb ls)
    (hls : ls.map (·.2) = cs) (hidx : ∀ (s : Nat) (p : Int × Bool), ls[s]? = some p → (ls.map (·.1)).idxOf p.1 = s) (hz : cs.length ≤ 7) (hR : R.length = cs.length)
    (hs : ∀ s ≤ la, ∃ st, lawFrom R s = some st ∧ splO cs s = some st.1) (hr : runs cs = some (ra :: rx)) (hrx : rx.length ≤ 99) (hru : uncO (ra :: rx) [] = some cs) :
    AX (Fm.fn g prog w A fL L a cdv 1 n fns) (fL.body.drop 13) ⟨loc, H⟩ (fun fl _ => fl = .ret (.bool true)) := by
  obtain ⟨s, hsm, hslt⟩ := fmod_nat (x := q2) (m := la + 1) (by omega)
  have hsm' : q2.fmod ((la : Int) + 1) = (s : Int) := by rw [← hsm]; congr 1
  obtain ⟨st, hst, hspl⟩ := hs s (by omega)
  have hsl := spl_lt hspl
  have hll : ls.length = cs.length := by rw [← hls, List.length_map]
  refine AX.cons ?_
  walk_at "go"
  refine AV.at h1 (by omega) (by omega) (idx hnm) ?_
  walk_at "go"
  refine AV.fmod (by omega) ?_
  rw [hsm']
  walk_at "go"
  refine AE.callF fW memW rfl (k := 0) (by show 1 ≤ n; omega) ?_
  walk_at "go"
  refine ⟨_, bindW, okW, meetW' h5 (by omega) hst fun i ia ib t ht hta htb => ?_⟩
  have h1' := hp_old (t := t) h1
  have h3' := hp_old (t := t) h3
  have h4' := hp_old (t := t) h4
  have h8' := h8.app (t := t)
  clear h1 h3 h4 h8 h5 hs
  generalize H ++ t = H1 at *
  walk_at "go"
  refine AV.tat ht (by omega) (by omega) (x := .ref ia) rfl ?_
  walk_at "stop"
  refine AX.cons ?_
  walk_at "go"
  refine AE.callF fP memP rfl (k := 1) (by show 2 ≤ n; omega) ?_
  walk_at "go"
  refine AV.joinS (ss := cs.map chr) (by rw [← strs_eq]; exact h3') (by
    have e1 := len_sum cs
    have e2 : (Str.ofString "").length = 0 := rfl
    rw [e2, e1]; simp; omega) ?_
  walk_at "go"
  refine ⟨_, bindP, okP, meetP_str (join_codes cs) hz hspl fun i2 t2 hi2 _ => ?_⟩
  have h1 := hp_old (t := t2) h1'
  have h3 := hp_old (t := t2) h3'
  have h4 := hp_old (t := t2) h4'
  have h8 := h8'.app (t := t2)
  have hta2 := hp_old (t := t2) hta
  clear h1' h3' h4' h8' ht hta htb
  generalize H1 ++ t2 = H2 at *
  walk_at "go"
  refine AV.neLI hi2 hta2 ?_
  rw [decide_eq_true rfl, Bool.not_true]
  walk_at "go"
  refine AE.callF fP memP rfl (k := 1) (by show 2 ≤ n; omega) ?_
  walk_at "go"
  refine AE.callF fR memR rfl (k := 0) (by show 1 ≤ n; omega) ?_
  walk_at "go"
  refine ⟨_, bindR, okR, meetR h3 hz hr ?_⟩
  walk_at "go"
  refine ⟨_, bindP, okP, meetP_runs hp_new hrx hru hz hspl fun i3 t3 hi3 _ => ?_⟩
  have h3' := hp_old (t := t3) (hp_old (t := [rowV (ra :: rx)]) h3)
  have h4' := hp_old (t := t3) (hp_old (t := [rowV (ra :: rx)]) h4)
  have h8' := (h8.app (t := [rowV (ra :: rx)])).app (t := t3)
  have hta3 := hp_old (t := t3) (hp_old (t := [rowV (ra :: rx)]) hta2)
  clear h1 h3 h4 h8 hta2 hi2
  generalize H2 ++ [rowV (ra :: rx)] ++ t3 = H3 at *
  walk_at "go"
  refine AV.neLI hi3 hta3 ?_
  rw [decide_eq_true rfl, Bool.not_true]
  walk_at "go"
  obtain ⟨p, hp⟩ : ∃ p, ls[s]? = some p := ⟨ls[s], List.getElem?_eq_getElem (by omega)⟩
  obtain ⟨js, hjb, hjl, hjs⟩ := id h8'
  obtain ⟨j, hj, htj⟩ := hjs s p hp
  refine AE.andB ?_
  walk_at "go"
  refine AE.callF fP memP rfl (k := 1) (by show 2 ≤ n; omega) ?_
  walk_at "go"
  refine AV.at hjb (by omega) (by omega) (x := .ref j) (by rw [Int.toNat_natCast, List.getElem?_map, hj]; rfl) ?_
  walk_at "go"
  refine AV.tat htj (by omega) (by omega) (x := .int p.1) rfl ?_
  walk_at "go"
  refine ⟨_, bindP, okP, meetP_lab (k := s) h8' (by omega) (by rw [hls]; exact hspl) (List.mem_map.mpr ⟨p, List.mem_of_getElem? hp, rfl⟩) (hidx s p hp) fun i4 t4 hi4 _ => ?_⟩
  have h3 := hp_old (t := t4) h3'
  have h4 := hp_old (t := t4) h4'
  have hta4 := hp_old (t := t4) hta3
  walk_at "go"
  refine AV.eqLI hi4 hta4 ?_
  rw [decide_eq_true rfl]
  walk_at "go"
  refine AV.eqLS (ss := cs.map chr) (by rw [← strs_eq]; exact h4) (by rw [← strs_eq]; exact h3) ?_
  walk_at "go"


end

/-! ## part 31 -/
section
local macro_rules | `(tactic| walk_at "lk1") => `(tactic| first | with_reducible assumption | with_reducible exact upd_same | ((with_reducible refine (upd_ne (by decide)).trans ?_); walk_at "lk1") | ((with_reducible refine (freeLoc_eq (by with_unfolding_all rfl)).trans ?_); walk_at "lk1"))
local macro_rules | `(tactic| walk_at "lk") => `(tactic| ((try dsimp only); walk_at "lk1"))
local macro_rules | `(tactic| walk_at "d") => `(tactic| try dsimp only [thenX, turnX, locOf])
local macro_rules | `(tactic| walk_at "st1") => `(tactic| (first
  | with_reducible refine AX.cons ?_
  | with_reducible refine AX.nil ?_
  | (with_reducible (show AE _ _ _ _); first | with_reducible refine AE.name (by walk_at "lk") ?_ (by with_unfolding_all rfl) (by decide) | with_reducible refine AE.cell (by walk_at "lk") ?_ (by with_unfolding_all rfl) (by first | with_unfolding_all rfl | with_unfolding_all exact looked (by assumption) (Or.inl rfl) | with_unfolding_all exact looked (by assumption) (Or.inr rfl)) (by decide) | with_reducible refine AE.int ?_ | with_reducible refine AE.flt ?_ | with_reducible refine AE.str ?_ | with_reducible refine AE.bool ?_ | with_reducible refine AE.binop ?_ | with_reducible refine AE.sliceAll ?_ (by intro _ _; with_unfolding_all rfl) | with_reducible refine AE.item ?_ | with_reducible refine AE.cmp ?_ (by with_unfolding_all rfl) | with_reducible refine AE.neg ?_ | with_reducible refine AE.cLen (by with_unfolding_all rfl) ?_ (by with_unfolding_all rfl) (by with_unfolding_all rfl) | with_reducible refine AE.cSum (by with_unfolding_all rfl) ?_ (by with_unfolding_all rfl) (by with_unfolding_all rfl) | with_reducible refine AE.cAbs (by with_unfolding_all rfl) ?_ (by with_unfolding_all rfl) (by with_unfolding_all rfl) | with_reducible refine AE.cMax (by with_unfolding_all rfl) ?_ (by with_unfolding_all rfl) (by with_unfolding_all rfl) | with_reducible refine AE.cFloat (by with_unfolding_all rfl) ?_ (by with_unfolding_all rfl) (by with_unfolding_all rfl) | with_reducible refine AE.cList (by with_unfolding_all rfl) ?_ (by with_unfolding_all rfl) (by with_unfolding_all rfl) | with_reducible refine AE.iStr (by with_unfolding_all rfl) (by with_unfolding_all rfl) ?_ (by with_unfolding_all rfl) (by with_unfolding_all rfl) | with_reducible refine AE.iTup (by with_unfolding_all rfl) (by with_unfolding_all rfl) ?_ (by with_unfolding_all rfl) (by with_unfolding_all rfl) | with_reducible refine AE.iInt (by with_unfolding_all rfl) (by with_unfolding_all rfl) ?_ (by with_unfolding_all rfl) (by with_unfolding_all rfl) | with_reducible refine AE.iList (by with_unfolding_all rfl) (by with_unfolding_all rfl) ?_ (by with_unfolding_all rfl) (by with_unfolding_all rfl) | with_reducible refine AE.mCount ?_ (by with_unfolding_all rfl) (by with_unfolding_all rfl) (by with_unfolding_all rfl) (by with_unfolding_all rfl) (by with_unfolding_all rfl) | with_reducible refine AE.mAppend ?_ (by with_unfolding_all rfl) (by with_unfolding_all rfl) (by with_unfolding_all rfl) (by with_unfolding_all rfl) (by with_unfolding_all rfl) | with_reducible refine AE.mExtend ?_ (by with_unfolding_all rfl) (by with_unfolding_all rfl) (by with_unfolding_all rfl) (by with_unfolding_all rfl) (by with_unfolding_all rfl) | with_reducible refine AE.mPop ?_ (by with_unfolding_all rfl) (by with_unfolding_all rfl) (by with_unfolding_all rfl) (by with_unfolding_all rfl) (by with_unfolding_all rfl) | with_reducible refine AE.mIndex ?_ (by with_unfolding_all rfl) (by with_unfolding_all rfl) (by with_unfolding_all rfl) (by with_unfolding_all rfl) (by with_unfolding_all rfl) | with_reducible refine AE.join ?_ (by with_unfolding_all rfl) (by with_unfolding_all rfl) (by with_unfolding_all rfl) (by with_unfolding_all rfl) (by with_unfolding_all rfl) | with_reducible refine AE.ifexp ?_)
  | (with_reducible (show AN _ _ _ _ _); first | with_reducible refine AN.loc ?_ (by with_unfolding_all rfl) (by with_unfolding_all rfl) | with_reducible refine AN.cell ?_ (by with_unfolding_all rfl) (by with_unfolding_all rfl))
  | (with_reducible (show AEs _ _ _ _); first | with_reducible refine AEs.cons ?_ (by with_unfolding_all rfl) | with_reducible refine AEs.nil ?_)
  | (with_reducible (show AT _ _ _ _); first | with_reducible refine AT.cmp ?_ (by with_unfolding_all rfl) | with_reducible refine AT.not ?_ | with_reducible refine AT.andNil ?_ | with_reducible refine AT.and ?_ | with_reducible refine AT.orNil ?_ | with_reducible refine AT.or ?_ | with_reducible refine AT.val ?_ (by with_unfolding_all rfl))
  | (with_reducible (show AV _ _ _ _ _); first | with_reducible refine AV.isiStr_str ?_ | with_reducible refine AV.isiInt_str ?_ | with_reducible refine AV.isiInt_tuple ?_ | with_reducible refine AV.isiInt_int ?_ | with_reducible refine AV.isiStr_list ?_ | with_reducible refine AV.absF ?_ | with_reducible refine AV.floatF ?_ | with_reducible refine AV.fadd ?_ | with_reducible refine AV.fmul ?_ | with_reducible refine AV.ltFI ?_ | with_reducible refine AV.add ?_ | with_reducible refine AV.sub ?_ | with_reducible refine AV.eqI ?_ | with_reducible refine AV.neI ?_ | with_reducible refine AV.ltI ?_ | with_reducible refine AV.gtI ?_ | with_reducible refine AV.eqD ?_ | with_reducible refine AV.eqS ?_ | with_reducible refine AV.iadd ?_ | with_reducible refine AV.isub ?_)
  | (with_reducible (show AG _ _ _ _ _); first | with_reducible refine AG.name ?_)
  | (with_reducible (show AS _ _ _ _); first | with_reducible refine AS.ret ?_ | with_reducible refine AS.ite ?_ | with_reducible refine AS.brk ?_ | with_reducible refine AS.assign ?_ (by with_unfolding_all rfl) | with_reducible refine AS.aug (by walk_at "lk") ?_ (by with_unfolding_all rfl) | with_reducible refine AS.expr ?_ (by with_unfolding_all rfl) (by with_unfolding_all rfl))
  | (with_reducible (show AB _ _ _ _); first | with_reducible refine AB.bool ?_)
  | with_reducible refine itT ?_
  | with_reducible refine itF ?_
  | with_reducible refine ATs_nil ?_
  | with_reducible refine ATs_one ?_
  | with_reducible refine ⟨_, rfl, ?_⟩))
local macro_rules | `(tactic| walk_at "st") => `(tactic| (walk_at "st1"; walk_at "d"))
local macro_rules | `(tactic| walk_at "go") => `(tactic| repeat (first
  | dsimp only [thenX, turnX, locOf]
  | with_reducible refine AX.cons ?_
  | with_reducible refine AX.nil ?_
  | (with_reducible (show AE _ _ _ _); first | with_reducible refine AE.name (by walk_at "lk") ?_ (by with_unfolding_all rfl) (by decide) | with_reducible refine AE.cell (by walk_at "lk") ?_ (by with_unfolding_all rfl) (by first | with_unfolding_all rfl | with_unfolding_all exact looked (by assumption) (Or.inl rfl) | with_unfolding_all exact looked (by assumption) (Or.inr rfl)) (by decide) | with_reducible refine AE.int ?_ | with_reducible refine AE.flt ?_ | with_reducible refine AE.str ?_ | with_reducible refine AE.bool ?_ | with_reducible refine AE.binop ?_ | with_reducible refine AE.sliceAll ?_ (by intro _ _; with_unfolding_all rfl) | with_reducible refine AE.item ?_ | with_reducible refine AE.cmp ?_ (by with_unfolding_all rfl) | with_reducible refine AE.neg ?_ | with_reducible refine AE.cLen (by with_unfolding_all rfl) ?_ (by with_unfolding_all rfl) (by with_unfolding_all rfl) | with_reducible refine AE.cSum (by with_unfolding_all rfl) ?_ (by with_unfolding_all rfl) (by with_unfolding_all rfl) | with_reducible refine AE.cAbs (by with_unfolding_all rfl) ?_ (by with_unfolding_all rfl) (by with_unfolding_all rfl) | with_reducible refine AE.cMax (by with_unfolding_all rfl) ?_ (by with_unfolding_all rfl) (by with_unfolding_all rfl) | with_reducible refine AE.cFloat (by with_unfolding_all rfl) ?_ (by with_unfolding_all rfl) (by with_unfolding_all rfl) | with_reducible refine AE.cList (by with_unfolding_all rfl) ?_ (by with_unfolding_all rfl) (by with_unfolding_all rfl) | with_reducible refine AE.iStr (by with_unfolding_all rfl) (by with_unfolding_all rfl) ?_ (by with_unfolding_all rfl) (by with_unfolding_all rfl) | with_reducible refine AE.iTup (by with_unfolding_all rfl) (by with_unfolding_all rfl) ?_ (by with_unfolding_all rfl) (by with_unfolding_all rfl) | with_reducible refine AE.iInt (by with_unfolding_all rfl) (by with_unfolding_all rfl) ?_ (by with_unfolding_all rfl) (by with_unfolding_all rfl) | with_reducible refine AE.iList (by with_unfolding_all rfl) (by with_unfolding_all rfl) ?_ (by with_unfolding_all rfl) (by with_unfolding_all rfl) | with_reducible refine AE.mCount ?_ (by with_unfolding_all rfl) (by with_unfolding_all rfl) (by with_unfolding_all rfl) (by with_unfolding_all rfl) (by with_unfolding_all rfl) | with_reducible refine AE.mAppend ?_ (by with_unfolding_all rfl) (by with_unfolding_all rfl) (by with_unfolding_all rfl) (by with_unfolding_all rfl) (by with_unfolding_all rfl) | with_reducible refine AE.mExtend ?_ (by with_unfolding_all rfl) (by with_unfolding_all rfl) (by with_unfolding_all rfl) (by with_unfolding_all rfl) (by with_unfolding_all rfl) | with_reducible refine AE.mPop ?_ (by with_unfolding_all rfl) (by with_unfolding_all rfl) (by with_unfolding_all rfl) (by with_unfolding_all rfl) (by with_unfolding_all rfl) | with_reducible refine AE.mIndex ?_ (by with_unfolding_all rfl) (by with_unfolding_all rfl) (by with_unfolding_all rfl) (by with_unfolding_all rfl) (by with_unfolding_all rfl) | with_reducible refine AE.join ?_ (by with_unfolding_all rfl) (by with_unfolding_all rfl) (by with_unfolding_all rfl) (by with_unfolding_all rfl) (by with_unfolding_all rfl) | with_reducible refine AE.ifexp ?_)
  | (with_reducible (show AN _ _ _ _ _); first | with_reducible refine AN.loc ?_ (by with_unfolding_all rfl) (by with_unfolding_all rfl) | with_reducible refine AN.cell ?_ (by with_unfolding_all rfl) (by with_unfolding_all rfl))
  | (with_reducible (show AEs _ _ _ _); first | with_reducible refine AEs.cons ?_ (by with_unfolding_all rfl) | with_reducible refine AEs.nil ?_)
  | (with_reducible (show AT _ _ _ _); first | with_reducible refine AT.cmp ?_ (by with_unfolding_all rfl) | with_reducible refine AT.not ?_ | with_reducible refine AT.andNil ?_ | with_reducible refine AT.and ?_ | with_reducible refine AT.orNil ?_ | with_reducible refine AT.or ?_ | with_reducible refine AT.val ?_ (by with_unfolding_all rfl))
  | (with_reducible (show AV _ _ _ _ _); first | with_reducible refine AV.isiStr_str ?_ | with_reducible refine AV.isiInt_str ?_ | with_reducible refine AV.isiInt_tuple ?_ | with_reducible refine AV.isiInt_int ?_ | with_reducible refine AV.isiStr_list ?_ | with_reducible refine AV.absF ?_ | with_reducible refine AV.floatF ?_ | with_reducible refine AV.fadd ?_ | with_reducible refine AV.fmul ?_ | with_reducible refine AV.ltFI ?_ | with_reducible refine AV.add ?_ | with_reducible refine AV.sub ?_ | with_reducible refine AV.eqI ?_ | with_reducible refine AV.neI ?_ | with_reducible refine AV.ltI ?_ | with_reducible refine AV.gtI ?_ | with_reducible refine AV.eqD ?_ | with_reducible refine AV.eqS ?_ | with_reducible refine AV.iadd ?_ | with_reducible refine AV.isub ?_)
  | (with_reducible (show AG _ _ _ _ _); first | with_reducible refine AG.name ?_)
  | (with_reducible (show AS _ _ _ _); first | with_reducible refine AS.ret ?_ | with_reducible refine AS.ite ?_ | with_reducible refine AS.brk ?_ | with_reducible refine AS.assign ?_ (by with_unfolding_all rfl) | with_reducible refine AS.aug (by walk_at "lk") ?_ (by with_unfolding_all rfl) | with_reducible refine AS.expr ?_ (by with_unfolding_all rfl) (by with_unfolding_all rfl))
  | (with_reducible (show AB _ _ _ _); first | with_reducible refine AB.bool ?_)
  | with_reducible refine itT ?_
  | with_reducible refine itF ?_
  | with_reducible refine ATs_nil ?_
  | with_reducible refine ATs_one ?_
  | with_reducible refine ⟨_, rfl, ?_⟩))
local macro_rules | `(tactic| walk_at "stop") => `(tactic| (walk_at "d"; refine AN.loc ?_ (by with_unfolding_all rfl) (by with_unfolding_all rfl); walk_at "d"; repeat (with_reducible refine AX.nil ?_; walk_at "d")))
/-- the places of the d's -/
def dOf (cs : List Bool) (i : Nat) : List Nat := (List.range i).filter fun k => cs.getD k false
def intsOf (l : List Nat) : List Int := l.map fun (k : Nat) => (k : Int)
theorem dOf_succ (cs : List Bool) (i : Nat) : dOf cs (i + 1) = dOf cs i ++ (if cs.getD i false then [i] else []) := by
  unfold dOf
  have key : ∀ p : Nat → Bool, List.filter p [i] = if p i then [i] else [] := by
    intro p
    cases h : p i <;> simp [List.filter, h]
  rw [List.range_succ, List.filter_append, key]
theorem ints_snoc (l : List Nat) (k : Nat) : (intsOf (l ++ [k])).map V.int = (intsOf l).map V.int ++ [V.int (k : Int)] := by simp [intsOf]
/-- the labelled row -/
def lsOf (nm : List Int) (cs : List Bool) : List (Int × Bool) := (List.range cs.length).map fun k => (8 * nm.getD (3 + k) 0 + (k : Int), cs.getD k false)
theorem lsOf_len (nm : List Int) (cs : List Bool) : (lsOf nm cs).length = cs.length := by simp [lsOf]
theorem lsOf_at {nm : List Int} {cs : List Bool} {k : Nat} (h : k < cs.length) : (lsOf nm cs)[k]? = some (8 * nm.getD (3 + k) 0 + (k : Int), cs.getD k false) := by simp [lsOf, h]
theorem lsOf_snd (nm : List Int) (cs : List Bool) : (lsOf nm cs).map (·.2) = cs := by
  apply List.ext_getElem?
  intro k
  by_cases h : k < cs.length
  · rw [List.getElem?_map, lsOf_at h]; simp [h]
  · rw [List.getElem?_eq_none (by simp [lsOf_len]; omega), List.getElem?_eq_none (by omega)]
theorem lsOf_idx {nm : List Int} {cs : List Bool} (hz : cs.length ≤ 7) {s : Nat} {p : Int × Bool} (h : (lsOf nm cs)[s]? = some p) : ((lsOf nm cs).map (·.1)).idxOf p.1 = s := by
  have hs : s < cs.length := lsOf_len nm cs ▸ (List.getElem?_eq_some_iff.mp h).1
  rw [lsOf_at hs] at h
  cases h
  have hmem : (8 * nm.getD (3 + s) 0 + (s : Int)) ∈ (lsOf nm cs).map (·.1) := List.mem_map.mpr ⟨_, List.mem_of_getElem? (lsOf_at hs), rfl⟩
  have hlt := List.idxOf_lt_length_iff.mpr hmem
  have hget := List.getElem_idxOf hlt
  generalize ((lsOf nm cs).map (·.1)).idxOf (8 * nm.getD (3 + s) 0 + (s : Int)) = i at *
  have hi : i < cs.length := by simpa [lsOf_len] using hlt
  have e : ((lsOf nm cs).map (·.1))[i]? = some (8 * nm.getD (3 + i) 0 + (i : Int)) := by rw [List.getElem?_map, lsOf_at hi]; rfl
  rw [List.getElem?_eq_getElem hlt, hget] at e
  have e := Option.some.inj e
  show i = s
  omega

structure LL (jn jl jp jr jb la : Nat) (loc : Str → Option V) : Prop where
  numbers : loc (Str.ofString "numbers") = some (.ref jn)
  letters : loc (Str.ofString "letters") = some (.ref jl)
  plain : loc (Str.ofString "plain") = some (.ref jp)
  rows : loc (Str.ofString "rows") = some (.ref jr)
  last : loc (Str.ofString "last") = some (.int la)
  labelled : loc (Str.ofString "labelled") = some (.ref jb)

set_option maxHeartbeats 8000000 in
theorem segC {g : Heap} {prog : Program} {w : World} {A : Around} {L a : Addr} {cdv : Value} {n : Nat} {loc : Str → Option V} {H : List O} {jn jl jp jr la : Nat} {nm : List Int} {cs : List Bool} {R : List (List Nat)} {ra : Int} {rx : List Int} (hn : 2 ≤ n)
    (l1 : loc (Str.ofString "numbers") = some (.ref jn)) (h1 : H[jn]? = some (rowV nm)) (hnm : nm.length = 10)
    (l2 : loc (Str.ofString "size") = some (.int cs.length))
    (l3 : loc (Str.ofString "letters") = some (.ref jl)) (h3 : H[jl]? = some (.lst (cs.map strV)))
    (l4 : loc (Str.ofString "plain") = some (.ref jp)) (h4 : H[jp]? = some (.lst (cs.map strV)))
    (l5 : loc (Str.ofString "rows") = some (.ref jr)) (h5 : RowsAt H jr R)
    (hz : cs.length ≤ 7) (hR : R.length = cs.length) (hla : la ∈ dOf cs cs.length) (hla' : ∀ k ∈ dOf cs cs.length, k ≤ la)
    (hs : ∀ s ≤ la, ∃ st, lawFrom R s = some st ∧ splO cs s = some st.1) (hr : runs cs = some (ra :: rx)) (hrx : rx.length ≤ 99) (hru : uncO (ra :: rx) [] = some cs) :
    AX (Fm.fn g prog w A fL L a cdv 1 n fns) (fL.body.drop 10) ⟨loc, H⟩ (fun fl _ => fl = .ret (.bool true)) := by
  refine AX.cons ?_
  walk_at "go"
  refine AE.compR (ScopeOK.fn rfl (by decide +kernel) (by decide +kernel) (.inl rfl)) rfl ?_ ⟨_, _, rfl, rfl⟩ rfl (by intro _; with_unfolding_all rfl)
  walk_at "go"
  refine ⟨_, _, _, _, .one cs.length (by omega), fun i acc hp' => hp' = H ∧ acc = (intsOf (dOf cs i)).map V.int, ⟨rfl, rfl⟩, ?_, ?_⟩
  · rintro cells C i acc hp' look hi ⟨e, rfl⟩
    subst e
    dsimp only
    rw [step1]
    walk_at "go"
    refine AV.at h3 (by omega) (by omega) (code_at (List.getElem?_eq_getElem hi)) ?_
    walk_at "go"
    have eg : cs.getD i false = cs[i] := by simp [hi]
    cases hc : cs[i] with
    | true =>
      walk_at "go"
      refine ⟨rfl, ?_⟩
      rw [dOf_succ, eg, hc, if_pos rfl, ints_snoc]
    | false =>
      walk_at "go"
      refine ⟨rfl, ?_⟩
      rw [dOf_succ, eg, hc, if_neg (by decide), List.append_nil]
  · rintro acc hp' ⟨e, rfl⟩
    subst e
    walk_at "go"
    refine AV.maxL hp_new (by simp [intsOf]; exact List.length_pos_of_mem hla) fun M hM hup => ?_
    have hMe : M = (la : Int) := by
      obtain ⟨k, hk, rfl⟩ := List.mem_map.mp hM
      have e1 := hla' k hk
      have e2 := hup (la : Int) (List.mem_map.mpr ⟨la, hla, rfl⟩)
      omega
    subst hMe
    clear hM hup
    have h1' := hp_old (t := [O.lst ((intsOf (dOf cs cs.length)).map V.int)]) h1
    have h3' := hp_old (t := [O.lst ((intsOf (dOf cs cs.length)).map V.int)]) h3
    have h4' := hp_old (t := [O.lst ((intsOf (dOf cs cs.length)).map V.int)]) h4
    have h5' := h5.app (t := [O.lst ((intsOf (dOf cs cs.length)).map V.int)])
    clear h1 h3 h4 h5
    generalize hp' ++ [O.lst ((intsOf (dOf cs cs.length)).map V.int)] = H1 at *
    walk_at "go"
    refine AS.compR (ScopeOK.fn rfl (by decide +kernel) (by decide +kernel) (.inl rfl)) rfl ?_ ⟨_, _, rfl, rfl⟩ rfl (by with_unfolding_all rfl) (by intro _; with_unfolding_all rfl)
    walk_at "go"
    refine ⟨_, _, _, _, .one cs.length (by omega), fun i acc hp' => ∃ (t : List O) (js : List Nat), hp' = H1 ++ t ∧ acc = js.map V.ref ∧ js.length = i ∧ ∀ (k : Nat) (p : Int × Bool), k < i → (lsOf nm cs)[k]? = some p → ∃ j : Nat, js[k]? = some j ∧ hp'[j]? = some (.tup [.int p.1, strV p.2]),
      ⟨[], [], by simp, rfl, rfl, fun k p hk => by omega⟩, ?_, ?_⟩
    · rintro cells C i acc hp' look hi ⟨t, js, e, rfl, hjl, hjs⟩
      subst e
      dsimp only
      rw [step1]
      walk_at "go"
      refine AE.tuple ?_
      walk_at "go"
      have hx : nm[3 + i]? = some (nm.getD (3 + i) 0) := by
        have : 3 + i < nm.length := by omega
        simp [this]
      refine AV.at (hp_old h1') (by omega) (by omega) (x := .int (nm.getD (3 + i) 0)) (by rw [show ((3 : Int) + (i : Int)).toNat = 3 + i by omega, List.getElem?_map, hx]; rfl) ?_
      refine AV.mul ?_ (.of_left (by decide))
      walk_at "go"
      refine AV.at (hp_old h3') (by omega) (by omega) (code_at (List.getElem?_eq_getElem hi)) ?_
      walk_at "go"
      refine ⟨by show 2 ≤ 4096; decide, ?_⟩
      refine ⟨t ++ [O.tup [V.int (8 * nm.getD (3 + i) 0 + (i : Int)), strV cs[i]]], js ++ [(H1 ++ t).length], by rw [List.append_assoc], by simp, by simp [hjl], fun k p hk hp => ?_⟩
      by_cases hki : k < i
      · obtain ⟨j, e1, e2⟩ := hjs k p hki hp
        exact ⟨j, getElem?_pre e1, hp_old e2⟩
      · have hke : k = i := by omega
        subst hke
        rw [lsOf_at hi] at hp
        cases hp
        have eg : cs.getD k false = cs[k] := by simp [hi]
        refine ⟨(H1 ++ t).length, by rw [← hjl]; simp, ?_⟩
        dsimp only
        rw [eg]
        exact hp_new
    · rintro acc hp' ⟨t, js, e, rfl, hjl, hjs⟩
      subst e
      have h8 : LabAt (H1 ++ t ++ [O.lst (js.map V.ref)]) (H1 ++ t).length (lsOf nm cs) := by
        refine ⟨js, hp_new, by rw [hjl, lsOf_len], fun k p hp => ?_⟩
        have hk : k < cs.length := lsOf_len nm cs ▸ (List.getElem?_eq_some_iff.mp hp).1
        obtain ⟨j, e1, e2⟩ := hjs k p hk hp
        exact ⟨j, e1, hp_old e2⟩
      generalize hb : (H1 ++ t).length = jb at *
      have h1 := hp_old (t := [O.lst (js.map V.ref)]) (hp_old (t := t) h1')
      have h3 := hp_old (t := [O.lst (js.map V.ref)]) (hp_old (t := t) h3')
      have h4 := hp_old (t := [O.lst (js.map V.ref)]) (hp_old (t := t) h4')
      have h5 := (h5'.app (t := t)).app (t := [O.lst (js.map V.ref)])
      clear h1' h3' h4' h5' hjs hb
      generalize H1 ++ t ++ [O.lst (js.map V.ref)] = H2 at *
      walk_at "go"
      refine AS.forRange rfl ?_
      walk_at "go"
      rw [show ((la : Int) + 1) = ((la + 1 : Nat) : Int) by omega]
      have hlaz : la < cs.length := List.mem_range.mp (List.mem_filter.mp hla).1
      refine ⟨_, _, _, _, .one (la + 1) (by omega), fun i σ' => LL jn jl jp jr jb la σ'.loc ∧ ∃ t, σ'.hp = H2 ++ t, ⟨⟨by walk_at "lk", by walk_at "lk", by walk_at "lk", by walk_at "lk", by walk_at "lk", by walk_at "lk"⟩, [], by simp⟩, ?_, ?_⟩
      · rintro i ⟨loc', hp'⟩ hi ⟨⟨m1, m3, m4, m5, m7, m8⟩, t, e⟩
        dsimp only at m1 m3 m4 m5 m7 m8 e ⊢
        subst e
        rw [step1]
        obtain ⟨st, hst, hspl⟩ := hs i (by omega)
        walk_at "go"
        refine AE.callF fW memW rfl (k := 0) (by show 1 ≤ n; omega) ?_
        walk_at "go"
        refine ⟨_, bindW, okW, meetW' h5.app (by omega) hst fun i1 ia ib t1 ht hta htb => ?_⟩
        walk_at "go"
        refine AV.tat ht (by omega) (by omega) (x := .ref ia) rfl ?_
        walk_at "go"
        refine AE.callF fP memP rfl (k := 1) (by show 2 ≤ n; omega) ?_
        walk_at "go"
        refine ⟨_, bindP, okP, meetP_list (hp_old (hp_old h4)) hz hspl fun i2 t2 hi2 _ => ?_⟩
        walk_at "go"
        refine AV.neLI hi2 (hp_old hta) ?_
        rw [decide_eq_true rfl, Bool.not_true]
        walk_at "go"
        exact ⟨⟨by walk_at "lk", by walk_at "lk", by walk_at "lk", by walk_at "lk", by walk_at "lk", by walk_at "lk"⟩, t ++ t1 ++ t2, by simp⟩
      · rintro ⟨loc', hp'⟩ ⟨⟨m1, m3, m4, m5, m7, m8⟩, t, e⟩
        dsimp only at m1 m3 m4 m5 m7 m8 e ⊢
        subst e
        walk_at "d"
        have hx : nm[2]? = some nm[2] := List.getElem?_eq_getElem (by omega)
        exact segD hn m1 (hp_old h1) hx m3 (hp_old h3) m4 (hp_old h4) m5 h5.app m7 m8 h8.app (lsOf_snd nm cs) (fun s p => lsOf_idx hz) hz hR hs hr hrx hru


end

/-! ## part 32 -/
section
local macro_rules | `(tactic| walk_at "lk1") => `(tactic| first | with_reducible assumption | with_reducible exact upd_same | ((with_reducible refine (upd_ne (by decide)).trans ?_); walk_at "lk1") | ((with_reducible refine (freeLoc_eq (by with_unfolding_all rfl)).trans ?_); walk_at "lk1"))
local macro_rules | `(tactic| walk_at "lk") => `(tactic| ((try dsimp only); walk_at "lk1"))
local macro_rules | `(tactic| walk_at "d") => `(tactic| try dsimp only [thenX, turnX, locOf])
local macro_rules | `(tactic| walk_at "st1") => `(tactic| (first
  | with_reducible refine AX.cons ?_
  | with_reducible refine AX.nil ?_
  | (with_reducible (show AE _ _ _ _); first | with_reducible refine AE.name (by walk_at "lk") ?_ (by with_unfolding_all rfl) (by decide) | with_reducible refine AE.cell (by walk_at "lk") ?_ (by with_unfolding_all rfl) (by first | with_unfolding_all rfl | with_unfolding_all exact looked (by assumption) (Or.inl rfl) | with_unfolding_all exact looked (by assumption) (Or.inr rfl)) (by decide) | with_reducible refine AE.int ?_ | with_reducible refine AE.flt ?_ | with_reducible refine AE.str ?_ | with_reducible refine AE.bool ?_ | with_reducible refine AE.binop ?_ | with_reducible refine AE.sliceAll ?_ (by intro _ _; with_unfolding_all rfl) | with_reducible refine AE.item ?_ | with_reducible refine AE.cmp ?_ (by with_unfolding_all rfl) | with_reducible refine AE.neg ?_ | with_reducible refine AE.cLen (by with_unfolding_all rfl) ?_ (by with_unfolding_all rfl) (by with_unfolding_all rfl) | with_reducible refine AE.cSum (by with_unfolding_all rfl) ?_ (by with_unfolding_all rfl) (by with_unfolding_all rfl) | with_reducible refine AE.cAbs (by with_unfolding_all rfl) ?_ (by with_unfolding_all rfl) (by with_unfolding_all rfl) | with_reducible refine AE.cMax (by with_unfolding_all rfl) ?_ (by with_unfolding_all rfl) (by with_unfolding_all rfl) | with_reducible refine AE.cFloat (by with_unfolding_all rfl) ?_ (by with_unfolding_all rfl) (by with_unfolding_all rfl) | with_reducible refine AE.cList (by with_unfolding_all rfl) ?_ (by with_unfolding_all rfl) (by with_unfolding_all rfl) | with_reducible refine AE.iStr (by with_unfolding_all rfl) (by with_unfolding_all rfl) ?_ (by with_unfolding_all rfl) (by with_unfolding_all rfl) | with_reducible refine AE.iTup (by with_unfolding_all rfl) (by with_unfolding_all rfl) ?_ (by with_unfolding_all rfl) (by with_unfolding_all rfl) | with_reducible refine AE.iInt (by with_unfolding_all rfl) (by with_unfolding_all rfl) ?_ (by with_unfolding_all rfl) (by with_unfolding_all rfl) | with_reducible refine AE.iList (by with_unfolding_all rfl) (by with_unfolding_all rfl) ?_ (by with_unfolding_all rfl) (by with_unfolding_all rfl) | with_reducible refine AE.mCount ?_ (by with_unfolding_all rfl) (by with_unfolding_all rfl) (by with_unfolding_all rfl) (by with_unfolding_all rfl) (by with_unfolding_all rfl) | with_reducible refine AE.mAppend ?_ (by with_unfolding_all rfl) (by with_unfolding_all rfl) (by with_unfolding_all rfl) (by with_unfolding_all rfl) (by with_unfolding_all rfl) | with_reducible refine AE.mExtend ?_ (by with_unfolding_all rfl) (by with_unfolding_all rfl) (by with_unfolding_all rfl) (by with_unfolding_all rfl) (by with_unfolding_all rfl) | with_reducible refine AE.mPop ?_ (by with_unfolding_all rfl) (by with_unfolding_all rfl) (by with_unfolding_all rfl) (by with_unfolding_all rfl) (by with_unfolding_all rfl) | with_reducible refine AE.mIndex ?_ (by with_unfolding_all rfl) (by with_unfolding_all rfl) (by with_unfolding_all rfl) (by with_unfolding_all rfl) (by with_unfolding_all rfl) | with_reducible refine AE.join ?_ (by with_unfolding_all rfl) (by with_unfolding_all rfl) (by with_unfolding_all rfl) (by with_unfolding_all rfl) (by with_unfolding_all rfl) | with_reducible refine AE.ifexp ?_)
  | (with_reducible (show AN _ _ _ _ _); first | with_reducible refine AN.loc ?_ (by with_unfolding_all rfl) (by with_unfolding_all rfl) | with_reducible refine AN.cell ?_ (by with_unfolding_all rfl) (by with_unfolding_all rfl))
  | (with_reducible (show AEs _ _ _ _); first | with_reducible refine AEs.cons ?_ (by with_unfolding_all rfl) | with_reducible refine AEs.nil ?_)
  | (with_reducible (show AT _ _ _ _); first | with_reducible refine AT.cmp ?_ (by with_unfolding_all rfl) | with_reducible refine AT.not ?_ | with_reducible refine AT.andNil ?_ | with_reducible refine AT.and ?_ | with_reducible refine AT.orNil ?_ | with_reducible refine AT.or ?_ | with_reducible refine AT.val ?_ (by with_unfolding_all rfl))
  | (with_reducible (show AV _ _ _ _ _); first | with_reducible refine AV.isiStr_str ?_ | with_reducible refine AV.isiInt_str ?_ | with_reducible refine AV.isiInt_tuple ?_ | with_reducible refine AV.isiInt_int ?_ | with_reducible refine AV.isiStr_list ?_ | with_reducible refine AV.absF ?_ | with_reducible refine AV.floatF ?_ | with_reducible refine AV.fadd ?_ | with_reducible refine AV.fmul ?_ | with_reducible refine AV.ltFI ?_ | with_reducible refine AV.add ?_ | with_reducible refine AV.sub ?_ | with_reducible refine AV.eqI ?_ | with_reducible refine AV.neI ?_ | with_reducible refine AV.ltI ?_ | with_reducible refine AV.gtI ?_ | with_reducible refine AV.eqD ?_ | with_reducible refine AV.eqS ?_ | with_reducible refine AV.iadd ?_ | with_reducible refine AV.isub ?_)
  | (with_reducible (show AG _ _ _ _ _); first | with_reducible refine AG.name ?_)
  | (with_reducible (show AS _ _ _ _); first | with_reducible refine AS.ret ?_ | with_reducible refine AS.ite ?_ | with_reducible refine AS.brk ?_ | with_reducible refine AS.assign ?_ (by with_unfolding_all rfl) | with_reducible refine AS.aug (by walk_at "lk") ?_ (by with_unfolding_all rfl) | with_reducible refine AS.expr ?_ (by with_unfolding_all rfl) (by with_unfolding_all rfl))
  | (with_reducible (show AB _ _ _ _); first | with_reducible refine AB.bool ?_)
  | with_reducible refine itT ?_
  | with_reducible refine itF ?_
  | with_reducible refine ATs_nil ?_
  | with_reducible refine ATs_one ?_
  | with_reducible refine ⟨_, rfl, ?_⟩))
local macro_rules | `(tactic| walk_at "st") => `(tactic| (walk_at "st1"; walk_at "d"))
local macro_rules | `(tactic| walk_at "go") => `(tactic| repeat (first
  | dsimp only [thenX, turnX, locOf]
  | with_reducible refine AX.cons ?_
  | with_reducible refine AX.nil ?_
  | (with_reducible (show AE _ _ _ _); first | with_reducible refine AE.name (by walk_at "lk") ?_ (by with_unfolding_all rfl) (by decide) | with_reducible refine AE.cell (by walk_at "lk") ?_ (by with_unfolding_all rfl) (by first | with_unfolding_all rfl | with_unfolding_all exact looked (by assumption) (Or.inl rfl) | with_unfolding_all exact looked (by assumption) (Or.inr rfl)) (by decide) | with_reducible refine AE.int ?_ | with_reducible refine AE.flt ?_ | with_reducible refine AE.str ?_ | with_reducible refine AE.bool ?_ | with_reducible refine AE.binop ?_ | with_reducible refine AE.sliceAll ?_ (by intro _ _; with_unfolding_all rfl) | with_reducible refine AE.item ?_ | with_reducible refine AE.cmp ?_ (by with_unfolding_all rfl) | with_reducible refine AE.neg ?_ | with_reducible refine AE.cLen (by with_unfolding_all rfl) ?_ (by with_unfolding_all rfl) (by with_unfolding_all rfl) | with_reducible refine AE.cSum (by with_unfolding_all rfl) ?_ (by with_unfolding_all rfl) (by with_unfolding_all rfl) | with_reducible refine AE.cAbs (by with_unfolding_all rfl) ?_ (by with_unfolding_all rfl) (by with_unfolding_all rfl) | with_reducible refine AE.cMax (by with_unfolding_all rfl) ?_ (by with_unfolding_all rfl) (by with_unfolding_all rfl) | with_reducible refine AE.cFloat (by with_unfolding_all rfl) ?_ (by with_unfolding_all rfl) (by with_unfolding_all rfl) | with_reducible refine AE.cList (by with_unfolding_all rfl) ?_ (by with_unfolding_all rfl) (by with_unfolding_all rfl) | with_reducible refine AE.iStr (by with_unfolding_all rfl) (by with_unfolding_all rfl) ?_ (by with_unfolding_all rfl) (by with_unfolding_all rfl) | with_reducible refine AE.iTup (by with_unfolding_all rfl) (by with_unfolding_all rfl) ?_ (by with_unfolding_all rfl) (by with_unfolding_all rfl) | with_reducible refine AE.iInt (by with_unfolding_all rfl) (by with_unfolding_all rfl) ?_ (by with_unfolding_all rfl) (by with_unfolding_all rfl) | with_reducible refine AE.iList (by with_unfolding_all rfl) (by with_unfolding_all rfl) ?_ (by with_unfolding_all rfl) (by with_unfolding_all rfl) | with_reducible refine AE.mCount ?_ (by with_unfolding_all rfl) (by with_unfolding_all rfl) (by with_unfolding_all rfl) (by with_unfolding_all rfl) (by with_unfolding_all rfl) | with_reducible refine AE.mAppend ?_ (by with_unfolding_all rfl) (by with_unfolding_all rfl) (by with_unfolding_all rfl) (by with_unfolding_all rfl) (by with_unfolding_all rfl) | with_reducible refine AE.mExtend ?_ (by with_unfolding_all rfl) (by with_unfolding_all rfl) (by with_unfolding_all rfl) (by with_unfolding_all rfl) (by with_unfolding_all rfl) | with_reducible refine AE.mPop ?_ (by with_unfolding_all rfl) (by with_unfolding_all rfl) (by with_unfolding_all rfl) (by with_unfolding_all rfl) (by with_unfolding_all rfl) | with_reducible refine AE.mIndex ?_ (by with_unfolding_all rfl) (by with_unfolding_all rfl) (by with_unfolding_all rfl) (by with_unfolding_all rfl) (by with_unfolding_all rfl) | with_reducible refine AE.join ?_ (by with_unfolding_all rfl) (by with_unfolding_all rfl) (by with_unfolding_all rfl) (by with_unfolding_all rfl) (by with_unfolding_all rfl) | with_reducible refine AE.ifexp ?_)
  | (with_reducible (show AN _ _ _ _ _); first | with_reducible refine AN.loc ?_ (by with_unfolding_all rfl) (by with_unfolding_all rfl) | with_reducible refine AN.cell ?_ (by with_unfolding_all rfl) (by with_unfolding_all rfl))
  | (with_reducible (show AEs _ _ _ _); first | with_reducible refine AEs.cons ?_ (by with_unfolding_all rfl) | with_reducible refine AEs.nil ?_)
  | (with_reducible (show AT _ _ _ _); first | with_reducible refine AT.cmp ?_ (by with_unfolding_all rfl) | with_reducible refine AT.not ?_ | with_reducible refine AT.andNil ?_ | with_reducible refine AT.and ?_ | with_reducible refine AT.orNil ?_ | with_reducible refine AT.or ?_ | with_reducible refine AT.val ?_ (by with_unfolding_all rfl))
  | (with_reducible (show AV _ _ _ _ _); first | with_reducible refine AV.isiStr_str ?_ | with_reducible refine AV.isiInt_str ?_ | with_reducible refine AV.isiInt_tuple ?_ | with_reducible refine AV.isiInt_int ?_ | with_reducible refine AV.isiStr_list ?_ | with_reducible refine AV.absF ?_ | with_reducible refine AV.floatF ?_ | with_reducible refine AV.fadd ?_ | with_reducible refine AV.fmul ?_ | with_reducible refine AV.ltFI ?_ | with_reducible refine AV.add ?_ | with_reducible refine AV.sub ?_ | with_reducible refine AV.eqI ?_ | with_reducible refine AV.neI ?_ | with_reducible refine AV.ltI ?_ | with_reducible refine AV.gtI ?_ | with_reducible refine AV.eqD ?_ | with_reducible refine AV.eqS ?_ | with_reducible refine AV.iadd ?_ | with_reducible refine AV.isub ?_)
  | (with_reducible (show AG _ _ _ _ _); first | with_reducible refine AG.name ?_)
  | (with_reducible (show AS _ _ _ _); first | with_reducible refine AS.ret ?_ | with_reducible refine AS.ite ?_ | with_reducible refine AS.brk ?_ | with_reducible refine AS.assign ?_ (by with_unfolding_all rfl) | with_reducible refine AS.aug (by walk_at "lk") ?_ (by with_unfolding_all rfl) | with_reducible refine AS.expr ?_ (by with_unfolding_all rfl) (by with_unfolding_all rfl))
  | (with_reducible (show AB _ _ _ _); first | with_reducible refine AB.bool ?_)
  | with_reducible refine itT ?_
  | with_reducible refine itF ?_
  | with_reducible refine ATs_nil ?_
  | with_reducible refine ATs_one ?_
  | with_reducible refine ⟨_, rfl, ?_⟩))
local macro_rules | `(tactic| walk_at "stop") => `(tactic| (walk_at "d"; refine AN.loc ?_ (by with_unfolding_all rfl) (by with_unfolding_all rfl); walk_at "d"; repeat (with_reducible refine AX.nil ?_; walk_at "d")))
def lensOf (R : List (List Nat)) : List Int := R.map fun r => (r.length : Int)
/-- what is known of the frame from the fifth statement on -/
structure LB (jn jl jp jr n : Nat) (loc : Str → Option V) : Prop where
  numbers : loc (Str.ofString "numbers") = some (.ref jn)
  size : loc (Str.ofString "size") = some (.int n)
  letters : loc (Str.ofString "letters") = some (.ref jl)
  plain : loc (Str.ofString "plain") = some (.ref jp)
  rows : loc (Str.ofString "rows") = some (.ref jr)
structure HB (H : List O) (jn jl jp jr : Nat) (nm : List Int) (cs : List Bool) (R : List (List Nat)) : Prop where
  numbers : H[jn]? = some (rowV nm)
  letters : H[jl]? = some (.lst (cs.map strV))
  plain : H[jp]? = some (.lst (cs.map strV))
  rows : RowsAt H jr R
theorem HB.app {H t : List O} {jn jl jp jr : Nat} {nm : List Int} {cs : List Bool} {R : List (List Nat)} (h : HB H jn jl jp jr nm cs R) : HB (H ++ t) jn jl jp jr nm cs R :=
  ⟨hp_old h.numbers, hp_old h.letters, hp_old h.plain, h.rows.app⟩
/-- what the plain law gives of a row of letters -/
structure PL (cs : List Bool) (R : List (List Nat)) : Prop where
  len7 : cs.length ≤ 7
  rl : R.length = cs.length
  row : ∀ r ∈ R, r.length ≤ 4096
  la : ∃ la ∈ dOf cs cs.length, (∀ k ∈ dOf cs cs.length, k ≤ la) ∧ ∀ s ≤ la, ∃ st, lawFrom R s = some st ∧ splO cs s = some st.1
  runs : ∃ ra rx, Mine.runs cs = some (ra :: rx) ∧ rx.length ≤ 99 ∧ uncO (ra :: rx) [] = some cs
  dens : 1 < cs.length → ∃ x, Mine.dens cs = some x ∧ sumOk (lensOf R) = true ∧ mulOk cs.length ((cs.length : Int) - 1) = true ∧ near x (lensOf R).sum ((cs.length : Int) * ((cs.length : Int) - 1)) = some true

set_option maxHeartbeats 8000000 in
theorem segB2 {g : Heap} {prog : Program} {w : World} {A : Around} {L a : Addr} {cdv : Value} {n : Nat} {loc : Str → Option V} {H : List O} {jn jl jp jr : Nat} {nm : List Int} {cs : List Bool} {R : List (List Nat)} (hn : 2 ≤ n)
    (ll : LB jn jl jp jr cs.length loc) (hh : HB H jn jl jp jr nm cs R) (hnm : nm.length = 10) (pl : PL cs R) :
    AX (Fm.fn g prog w A fL L a cdv 1 n fns) (fL.body.drop 9) ⟨loc, H⟩ (fun fl _ => fl = .ret (.bool true)) := by
  obtain ⟨l1, l2, l3, l4, l5⟩ := ll
  obtain ⟨la, hla, hla', hs⟩ := pl.la
  obtain ⟨ra, rx, hr, hrx, hru⟩ := pl.runs
  have hz := pl.len7
  have hR := pl.rl
  have fin : ∀ (t : List O), AX (Fm.fn g prog w A fL L a cdv 1 n fns) (fL.body.drop 10) ⟨loc, H ++ t⟩ (fun fl _ => fl = .ret (.bool true)) := fun t =>
    segC hn l1 hh.app.numbers hnm l2 l3 hh.app.letters l4 hh.app.plain l5 hh.app.rows hz hR hla hla' hs hr hrx hru
  refine AX.cons ?_
  walk_at "go"
  by_cases h1 : 1 < cs.length
  · obtain ⟨x, hx, hso, hmo, hne⟩ := pl.dens h1
    rw [decide_eq_true (by omega)]
    walk_at "go"
    refine AE.callF fE memE rfl (k := 0) (by show 1 ≤ n; omega) ?_
    walk_at "go"
    refine AE.callF fD memD rfl (k := 1) (by show 2 ≤ n; omega) ?_
    walk_at "go"
    refine ⟨_, bindD, okD, meetD hh.plain hz hx fun t => ?_⟩
    have hh' := hh.app (t := t)
    walk_at "go"
    refine AE.compL (ScopeOK.fn rfl (by decide +kernel) (by decide +kernel) (.inl rfl)) ?_ (by intro _; with_unfolding_all rfl)
    walk_at "go"
    obtain ⟨js, hjr, hjl, hjs⟩ := hh'.rows
    refine ⟨_, _, rfl, hjr, by simp; omega, fun i acc hp' => hp' = H ++ t ∧ acc = ((lensOf R).take i).map V.int, ⟨rfl, by simp⟩, ?_, ?_⟩
    · rintro cells C i acc hp' look hi ⟨e, rfl⟩
      subst e
      rw [List.length_map, hjl] at hi
      obtain ⟨j, hj, htj⟩ := hjs i R[i] (List.getElem?_eq_getElem hi)
      have hval : ((List.map V.ref js)[i]?).getD V.none = V.ref j := by rw [List.getElem?_map, hj]; rfl
      dsimp only
      rw [hval]
      have hrl : (R[i]).length ≤ 4096 := pl.row _ (List.getElem_mem _)
      walk_at "go"
      refine AV.lenL htj (by simpa using hrl) ?_
      refine ⟨rfl, ?_⟩
      rw [take_snoc (by simpa [lensOf] using hi), List.map_append, List.length_map]
      simp [lensOf]
    · rintro acc hp' ⟨e, rfl⟩
      subst e
      rw [List.length_map, hjl, List.take_of_length_le (by simp [lensOf])]
      walk_at "go"
      refine AV.sumL hp_new (sumOk_fits hso) ?_
      walk_at "go"
      refine AV.mul ?_ (mulOk_ok hmo)
      walk_at "go"
      refine ⟨_, bindE, okE, meetE hne ?_⟩
      walk_at "go"
      rw [Bool.not_true]
      walk_at "d"
      refine itF (AX.nil ?_)
      walk_at "d"
      rw [List.append_assoc]
      exact fin _
  · rw [decide_eq_false (by omega)]
    walk_at "d"
    refine itF (itF (AX.nil ?_))
    walk_at "d"
    have := fin []
    rw [List.append_nil] at this
    exact this


end

/-! ## part 33 -/
section
local macro_rules | `(tactic| walk_at "lk1") => `(tactic| first | with_reducible assumption | with_reducible exact upd_same | ((with_reducible refine (upd_ne (by decide)).trans ?_); walk_at "lk1") | ((with_reducible refine (freeLoc_eq (by with_unfolding_all rfl)).trans ?_); walk_at "lk1"))
local macro_rules | `(tactic| walk_at "lk") => `(tactic| ((try dsimp only); walk_at "lk1"))
local macro_rules | `(tactic| walk_at "d") => `(tactic| try dsimp only [thenX, turnX, locOf])
local macro_rules | `(tactic| walk_at "st1") => `(tactic| (first
  | with_reducible refine AX.cons ?_
  | with_reducible refine AX.nil ?_
  | (with_reducible (show AE _ _ _ _); first | with_reducible refine AE.name (by walk_at "lk") ?_ (by with_unfolding_all rfl) (by decide) | with_reducible refine AE.cell (by walk_at "lk") ?_ (by with_unfolding_all rfl) (by first | with_unfolding_all rfl | with_unfolding_all exact looked (by assumption) (Or.inl rfl) | with_unfolding_all exact looked (by assumption) (Or.inr rfl)) (by decide) | with_reducible refine AE.int ?_ | with_reducible refine AE.flt ?_ | with_reducible refine AE.str ?_ | with_reducible refine AE.bool ?_ | with_reducible refine AE.binop ?_ | with_reducible refine AE.sliceAll ?_ (by intro _ _; with_unfolding_all rfl) | with_reducible refine AE.item ?_ | with_reducible refine AE.cmp ?_ (by with_unfolding_all rfl) | with_reducible refine AE.neg ?_ | with_reducible refine AE.cLen (by with_unfolding_all rfl) ?_ (by with_unfolding_all rfl) (by with_unfolding_all rfl) | with_reducible refine AE.cSum (by with_unfolding_all rfl) ?_ (by with_unfolding_all rfl) (by with_unfolding_all rfl) | with_reducible refine AE.cAbs (by with_unfolding_all rfl) ?_ (by with_unfolding_all rfl) (by with_unfolding_all rfl) | with_reducible refine AE.cMax (by with_unfolding_all rfl) ?_ (by with_unfolding_all rfl) (by with_unfolding_all rfl) | with_reducible refine AE.cFloat (by with_unfolding_all rfl) ?_ (by with_unfolding_all rfl) (by with_unfolding_all rfl) | with_reducible refine AE.cList (by with_unfolding_all rfl) ?_ (by with_unfolding_all rfl) (by with_unfolding_all rfl) | with_reducible refine AE.iStr (by with_unfolding_all rfl) (by with_unfolding_all rfl) ?_ (by with_unfolding_all rfl) (by with_unfolding_all rfl) | with_reducible refine AE.iTup (by with_unfolding_all rfl) (by with_unfolding_all rfl) ?_ (by with_unfolding_all rfl) (by with_unfolding_all rfl) | with_reducible refine AE.iInt (by with_unfolding_all rfl) (by with_unfolding_all rfl) ?_ (by with_unfolding_all rfl) (by with_unfolding_all rfl) | with_reducible refine AE.iList (by with_unfolding_all rfl) (by with_unfolding_all rfl) ?_ (by with_unfolding_all rfl) (by with_unfolding_all rfl) | with_reducible refine AE.mCount ?_ (by with_unfolding_all rfl) (by with_unfolding_all rfl) (by with_unfolding_all rfl) (by with_unfolding_all rfl) (by with_unfolding_all rfl) | with_reducible refine AE.mAppend ?_ (by with_unfolding_all rfl) (by with_unfolding_all rfl) (by with_unfolding_all rfl) (by with_unfolding_all rfl) (by with_unfolding_all rfl) | with_reducible refine AE.mExtend ?_ (by with_unfolding_all rfl) (by with_unfolding_all rfl) (by with_unfolding_all rfl) (by with_unfolding_all rfl) (by with_unfolding_all rfl) | with_reducible refine AE.mPop ?_ (by with_unfolding_all rfl) (by with_unfolding_all rfl) (by with_unfolding_all rfl) (by with_unfolding_all rfl) (by with_unfolding_all rfl) | with_reducible refine AE.mIndex ?_ (by with_unfolding_all rfl) (by with_unfolding_all rfl) (by with_unfolding_all rfl) (by with_unfolding_all rfl) (by with_unfolding_all rfl) | with_reducible refine AE.join ?_ (by with_unfolding_all rfl) (by with_unfolding_all rfl) (by with_unfolding_all rfl) (by with_unfolding_all rfl) (by with_unfolding_all rfl) | with_reducible refine AE.ifexp ?_)
  | (with_reducible (show AN _ _ _ _ _); first | with_reducible refine AN.loc ?_ (by with_unfolding_all rfl) (by with_unfolding_all rfl) | with_reducible refine AN.cell ?_ (by with_unfolding_all rfl) (by with_unfolding_all rfl))
  | (with_reducible (show AEs _ _ _ _); first | with_reducible refine AEs.cons ?_ (by with_unfolding_all rfl) | with_reducible refine AEs.nil ?_)
  | (with_reducible (show AT _ _ _ _); first | with_reducible refine AT.cmp ?_ (by with_unfolding_all rfl) | with_reducible refine AT.not ?_ | with_reducible refine AT.andNil ?_ | with_reducible refine AT.and ?_ | with_reducible refine AT.orNil ?_ | with_reducible refine AT.or ?_ | with_reducible refine AT.val ?_ (by with_unfolding_all rfl))
  | (with_reducible (show AV _ _ _ _ _); first | with_reducible refine AV.isiStr_str ?_ | with_reducible refine AV.isiInt_str ?_ | with_reducible refine AV.isiInt_tuple ?_ | with_reducible refine AV.isiInt_int ?_ | with_reducible refine AV.isiStr_list ?_ | with_reducible refine AV.absF ?_ | with_reducible refine AV.floatF ?_ | with_reducible refine AV.fadd ?_ | with_reducible refine AV.fmul ?_ | with_reducible refine AV.ltFI ?_ | with_reducible refine AV.add ?_ | with_reducible refine AV.sub ?_ | with_reducible refine AV.eqI ?_ | with_reducible refine AV.neI ?_ | with_reducible refine AV.ltI ?_ | with_reducible refine AV.gtI ?_ | with_reducible refine AV.eqD ?_ | with_reducible refine AV.eqS ?_ | with_reducible refine AV.iadd ?_ | with_reducible refine AV.isub ?_)
  | (with_reducible (show AG _ _ _ _ _); first | with_reducible refine AG.name ?_)
  | (with_reducible (show AS _ _ _ _); first | with_reducible refine AS.ret ?_ | with_reducible refine AS.ite ?_ | with_reducible refine AS.brk ?_ | with_reducible refine AS.assign ?_ (by with_unfolding_all rfl) | with_reducible refine AS.aug (by walk_at "lk") ?_ (by with_unfolding_all rfl) | with_reducible refine AS.expr ?_ (by with_unfolding_all rfl) (by with_unfolding_all rfl))
  | (with_reducible (show AB _ _ _ _); first | with_reducible refine AB.bool ?_)
  | with_reducible refine itT ?_
  | with_reducible refine itF ?_
  | with_reducible refine ATs_nil ?_
  | with_reducible refine ATs_one ?_
  | with_reducible refine ⟨_, rfl, ?_⟩))
local macro_rules | `(tactic| walk_at "st") => `(tactic| (walk_at "st1"; walk_at "d"))
local macro_rules | `(tactic| walk_at "go") => `(tactic| repeat (first
  | dsimp only [thenX, turnX, locOf]
  | with_reducible refine AX.cons ?_
  | with_reducible refine AX.nil ?_
  | (with_reducible (show AE _ _ _ _); first | with_reducible refine AE.name (by walk_at "lk") ?_ (by with_unfolding_all rfl) (by decide) | with_reducible refine AE.cell (by walk_at "lk") ?_ (by with_unfolding_all rfl) (by first | with_unfolding_all rfl | with_unfolding_all exact looked (by assumption) (Or.inl rfl) | with_unfolding_all exact looked (by assumption) (Or.inr rfl)) (by decide) | with_reducible refine AE.int ?_ | with_reducible refine AE.flt ?_ | with_reducible refine AE.str ?_ | with_reducible refine AE.bool ?_ | with_reducible refine AE.binop ?_ | with_reducible refine AE.sliceAll ?_ (by intro _ _; with_unfolding_all rfl) | with_reducible refine AE.item ?_ | with_reducible refine AE.cmp ?_ (by with_unfolding_all rfl) | with_reducible refine AE.neg ?_ | with_reducible refine AE.cLen (by with_unfolding_all rfl) ?_ (by with_unfolding_all rfl) (by with_unfolding_all rfl) | with_reducible refine AE.cSum (by with_unfolding_all rfl) ?_ (by with_unfolding_all rfl) (by with_unfolding_all rfl) | with_reducible refine AE.cAbs (by with_unfolding_all rfl) ?_ (by with_unfolding_all rfl) (by with_unfolding_all rfl) | with_reducible refine AE.cMax (by with_unfolding_all rfl) ?_ (by with_unfolding_all rfl) (by with_unfolding_all rfl) | with_reducible refine AE.cFloat (by with_unfolding_all rfl) ?_ (by with_unfolding_all rfl) (by with_unfolding_all rfl) | with_reducible refine AE.cList (by with_unfolding_all rfl) ?_ (by with_unfolding_all rfl) (by with_unfolding_all rfl) | with_reducible refine AE.iStr (by with_unfolding_all rfl) (by with_unfolding_all rfl) ?_ (by with_unfolding_all rfl) (by with_unfolding_all rfl) | with_reducible refine AE.iTup (by with_unfolding_all rfl) (by with_unfolding_all rfl) ?_ (by with_unfolding_all rfl) (by with_unfolding_all rfl) | with_reducible refine AE.iInt (by with_unfolding_all rfl) (by with_unfolding_all rfl) ?_ (by with_unfolding_all rfl) (by with_unfolding_all rfl) | with_reducible refine AE.iList (by with_unfolding_all rfl) (by with_unfolding_all rfl) ?_ (by with_unfolding_all rfl) (by with_unfolding_all rfl) | with_reducible refine AE.mCount ?_ (by with_unfolding_all rfl) (by with_unfolding_all rfl) (by with_unfolding_all rfl) (by with_unfolding_all rfl) (by with_unfolding_all rfl) | with_reducible refine AE.mAppend ?_ (by with_unfolding_all rfl) (by with_unfolding_all rfl) (by with_unfolding_all rfl) (by with_unfolding_all rfl) (by with_unfolding_all rfl) | with_reducible refine AE.mExtend ?_ (by with_unfolding_all rfl) (by with_unfolding_all rfl) (by with_unfolding_all rfl) (by with_unfolding_all rfl) (by with_unfolding_all rfl) | with_reducible refine AE.mPop ?_ (by with_unfolding_all rfl) (by with_unfolding_all rfl) (by with_unfolding_all rfl) (by with_unfolding_all rfl) (by with_unfolding_all rfl) | with_reducible refine AE.mIndex ?_ (by with_unfolding_all rfl) (by with_unfolding_all rfl) (by with_unfolding_all rfl) (by with_unfolding_all rfl) (by with_unfolding_all rfl) | with_reducible refine AE.join ?_ (by with_unfolding_all rfl) (by with_unfolding_all rfl) (by with_unfolding_all rfl) (by with_unfolding_all rfl) (by with_unfolding_all rfl) | with_reducible refine AE.ifexp ?_)
  | (with_reducible (show AN _ _ _ _ _); first | with_reducible refine AN.loc ?_ (by with_unfolding_all rfl) (by with_unfolding_all rfl) | with_reducible refine AN.cell ?_ (by with_unfolding_all rfl) (by with_unfolding_all rfl))
  | (with_reducible (show AEs _ _ _ _); first | with_reducible refine AEs.cons ?_ (by with_unfolding_all rfl) | with_reducible refine AEs.nil ?_)
  | (with_reducible (show AT _ _ _ _); first | with_reducible refine AT.cmp ?_ (by with_unfolding_all rfl) | with_reducible refine AT.not ?_ | with_reducible refine AT.andNil ?_ | with_reducible refine AT.and ?_ | with_reducible refine AT.orNil ?_ | with_reducible refine AT.or ?_ | with_reducible refine AT.val ?_ (by with_unfolding_all rfl))
  | (with_reducible (show AV _ _ _ _ _); first | with_reducible refine AV.isiStr_str ?_ | with_reducible refine AV.isiInt_str ?_ | with_reducible refine AV.isiInt_tuple ?_ | with_reducible refine AV.isiInt_int ?_ | with_reducible refine AV.isiStr_list ?_ | with_reducible refine AV.absF ?_ | with_reducible refine AV.floatF ?_ | with_reducible refine AV.fadd ?_ | with_reducible refine AV.fmul ?_ | with_reducible refine AV.ltFI ?_ | with_reducible refine AV.add ?_ | with_reducible refine AV.sub ?_ | with_reducible refine AV.eqI ?_ | with_reducible refine AV.neI ?_ | with_reducible refine AV.ltI ?_ | with_reducible refine AV.gtI ?_ | with_reducible refine AV.eqD ?_ | with_reducible refine AV.eqS ?_ | with_reducible refine AV.iadd ?_ | with_reducible refine AV.isub ?_)
  | (with_reducible (show AG _ _ _ _ _); first | with_reducible refine AG.name ?_)
  | (with_reducible (show AS _ _ _ _); first | with_reducible refine AS.ret ?_ | with_reducible refine AS.ite ?_ | with_reducible refine AS.brk ?_ | with_reducible refine AS.assign ?_ (by with_unfolding_all rfl) | with_reducible refine AS.aug (by walk_at "lk") ?_ (by with_unfolding_all rfl) | with_reducible refine AS.expr ?_ (by with_unfolding_all rfl) (by with_unfolding_all rfl))
  | (with_reducible (show AB _ _ _ _); first | with_reducible refine AB.bool ?_)
  | with_reducible refine itT ?_
  | with_reducible refine itF ?_
  | with_reducible refine ATs_nil ?_
  | with_reducible refine ATs_one ?_
  | with_reducible refine ⟨_, rfl, ?_⟩))
local macro_rules | `(tactic| walk_at "stop") => `(tactic| (walk_at "d"; refine AN.loc ?_ (by with_unfolding_all rfl) (by with_unfolding_all rfl); walk_at "d"; repeat (with_reducible refine AX.nil ?_; walk_at "d")))
section
variable {F : Fm} {σ : St}
/-- the same with one keyword, of a constant -/
theorem AE.callK' {P : V → List O → Prop} {k : Nat} (f : FnD) {np pos : Pos} {e : Expr} {es : List Expr} {key : Str} {c : Bool} {kk : Nat} {kp cp : Pos} (hm : f ∈ F.fs) (hx : F.env.kindOf f.name = some .globalImplicit) (hn : k + 1 ≤ F.n)
    (h : AEs F (e :: es) σ (fun vs hp => ∃ zs, Binds f vs [(key, .bool c)] zs ∧ FnOK f zs ∧ Meets F.fs k f zs hp P))
    (hs : starEach (e :: es) F.env = (false, eval e F.env) :: starEach es F.env := by rfl)
    (hks : backToKw pos (keywordEach [⟨some key, .Constant (.bool c) kk cp, kp⟩] F.env) = [(some key, do let v ← eval (.Constant (.bool c) kk cp) F.env; standAt pos; pure v)] := by rfl)
    (hd : (f.name == ("__debug__" : Str)) = false := by decide) :
    AE F (.Call (.Name f.name np) (e :: es) [⟨some key, .Constant (.bool c) kk cp, kp⟩] pos) σ P := by
  intro ρ s Q hF I K
  refine wpAny_Call_ofName (fname hF I hx hm hd fun a hfn => ?_)
  obtain ⟨o, dV, doc, pm, an, cdv, ct, ho, hod, hcd, hdv⟩ := hfn
  refine callWith_function_kw (a := a) (o := o) (fd := fnOf f.name f.name f.params f.body f.scope dV .none doc pm an cdv ct) ?_
  have k1 := h ρ s pos (fun us s₁ => wpAny (model F.prog F.w) F.A (evalAll ([(some key, (do let v ← eval (.Constant (.bool c) kk cp) F.env; standAt pos; pure v : Sem Value))].map (·.2))) (fun ks s₂ => (s₂.heap.get? a = some o ∧ o.data = .func (fnOf f.name f.name f.params f.body f.scope dV .none doc pm an cdv ct)) ∧ wpAny (model F.prog F.w) F.A (call (.ref a) ([] ++ us) ([key].zip ks)) Q never s₂) never s₁) hF I fun vs hp ρ₁ us h₁ tk₁ hv hus I₁ E₁ => ?_
  · rw [hks]
    rw [hs] at k1 ⊢
    exact evalArgs_kw rfl k1
  · obtain ⟨zs, hb, ok, M⟩ := hv
    obtain ⟨bs, hbs, rel⟩ := hb ρ₁ { s with heap := h₁, toks := tk₁ } us [(key, .bool c)] dV doc pm an cdv ct (hdv.keeps I₁.keep) hus (.cons (.bool c) .nil)
    refine wpAny_evalAll_cons (x := (do let v ← eval (.Constant (.bool c) kk cp) F.env; standAt pos; pure v : Sem Value)) (wpAny_bind (Constant_bool (wpAny_bind (wpAny_standAt (wpAny_pure (wpAny_evalAll_nil ?_))))))
    exact ⟨⟨I₁.keep _ _ ho, hod⟩, call_fn (σ := ⟨σ.loc, hp⟩) (s := { s with heap := h₁, toks := tk₁ }) hF I₁ ho hod hcd hbs rel ok hn M (K.after E₁)⟩

end
structure PB (cs : List Bool) (w : List Int) (y : BS) : Prop where
  bet : betO cs = some y
  len : y.seq.length = cs.length
  wl : w.length = cs.length
  n1 : ∀ (k : Nat) (x : UInt64) (q : Int), y.seq[k]? = some x → w[k]? = some q → near x q 420 = some true
  n2 : 2 < cs.length → normO cs.length = true ∧ mulOk 420 ((cs.length : Int) - 1) = true ∧ mulOk (420 * ((cs.length : Int) - 1)) ((cs.length : Int) - 2) = true ∧
    ∀ (k : Nat) (x : UInt64) (q : Int), y.seq[k]? = some x → w[k]? = some q → near (Float64.mul x (bScale cs.length)) q (420 * ((cs.length : Int) - 1) * ((cs.length : Int) - 2)) = some true
theorem idxF {l : List UInt64} {k : Nat} {x : UInt64} (h : l[k]? = some x) : (l.map V.flt)[((k : Nat) : Int).toNat]? = some (V.flt x) := by rw [Int.toNat_natCast, List.getElem?_map, h]; rfl

set_option maxHeartbeats 8000000 in
theorem segB {g : Heap} {prog : Program} {w : World} {A : Around} {L a : Addr} {cdv : Value} {n : Nat} {loc : Str → Option V} {H : List O} {jn jl jp jr jw : Nat} {nm : List Int} {cs : List Bool} {R : List (List Nat)} {wt : List Int} {y : BS} (hn : 2 ≤ n)
    (ll : LB jn jl jp jr cs.length loc) (l6 : loc (Str.ofString "worth") = some (.ref jw)) (hh : HB H jn jl jp jr nm cs R) (hw : H[jw]? = some (rowV wt)) (hnm : nm.length = 10) (pl : PL cs R) (pb : PB cs wt y) :
    AX (Fm.fn g prog w A fL L a cdv 1 n fns) (fL.body.drop 6) ⟨loc, H⟩ (fun fl _ => fl = .ret (.bool true)) := by
  obtain ⟨l1, l2, l3, l4, l5⟩ := ll
  have hz := pl.len7
  refine AX.cons ?_
  walk_at "go"
  refine AE.callK' fB memB rfl (k := 0) (by show 1 ≤ n; omega) ?_
  walk_at "go"
  refine ⟨_, bindBK, okB, meetB hh.plain hz pb.bet (fun q => by cases q) fun jt t ht => ?_⟩
  have hh' := hh.app (t := t)
  have hw' := hp_old (t := t) hw
  clear hh hw
  generalize H ++ t = H1 at *
  rw [if_neg (by decide)] at ht
  walk_at "go"
  refine AV.lenL ht (by simp [pb.len]; omega) ?_
  walk_at "go"
  rw [List.length_map, pb.len, show (((cs.length : Nat) : Int) != ((cs.length : Nat) : Int)) = false by simp]
  walk_at "go"
  refine AE.compR (ScopeOK.fn rfl (by decide +kernel) (by decide +kernel) (.inl rfl)) rfl ?_ ⟨_, _, rfl, rfl⟩ rfl (by intro _; with_unfolding_all rfl)
  walk_at "go"
  refine ⟨_, _, _, _, .one cs.length (by omega), fun i acc hp' => hp' = H1 ∧ acc = ([] : List Int).map V.int, ⟨rfl, rfl⟩, ?_, ?_⟩
  · rintro cells C i acc hp' look hi ⟨e, rfl⟩
    subst e
    dsimp only
    rw [step1]
    obtain ⟨x, hx⟩ : ∃ x, y.seq[i]? = some x := ⟨_, List.getElem?_eq_getElem (by rw [pb.len]; exact hi)⟩
    obtain ⟨q, hq⟩ : ∃ q, wt[i]? = some q := ⟨_, List.getElem?_eq_getElem (by rw [pb.wl]; exact hi)⟩
    walk_at "go"
    refine AE.callF fE memE rfl (k := 0) (by show 1 ≤ n; omega) ?_
    walk_at "go"
    refine AV.at ht (by omega) (by omega) (idxF hx) ?_
    walk_at "go"
    refine AV.at hw' (by omega) (by omega) (idx hq) ?_
    walk_at "go"
    refine ⟨_, bindE, okE, meetE (pb.n1 i _ _ hx hq) ?_⟩
    walk_at "go"
    rw [Bool.not_true]
    exact itF ⟨rfl, rfl⟩
  · rintro acc hp' ⟨e, rfl⟩
    subst e
    walk_at "go"
    refine AE.list (AEs.nil ⟨Nat.zero_le _, ?_⟩)
    walk_at "go"
    refine AV.neLI (ns := []) (ms := []) (hp_old hp_new) hp_new ?_
    rw [decide_eq_true rfl, Bool.not_true]
    have hh := (hh'.app (t := [O.lst (([] : List Int).map V.int)])).app (t := [O.lst []])
    have hw := hp_old (t := [O.lst []]) (hp_old (t := [O.lst (([] : List Int).map V.int)]) hw')
    clear hh' hw' ht
    generalize hp' ++ [O.lst (([] : List Int).map V.int)] ++ [O.lst []] = H2 at *
    walk_at "go"
    by_cases h2 : 2 < cs.length
    · obtain ⟨m1, m2, m3, m4⟩ := pb.n2 h2
      rw [decide_eq_true (by omega)]
      walk_at "go"
      refine AE.callF fB memB rfl (k := 0) (by show 1 ≤ n; omega) ?_
      walk_at "go"
      refine ⟨_, bindB, okB, meetB hh.plain hz pb.bet (fun _ => m1) fun jt t ht => ?_⟩
      have hh' := hh.app (t := t)
      have hw' := hp_old (t := t) hw
      clear hh hw
      generalize H2 ++ t = H3 at *
      rw [if_pos rfl] at ht
      walk_at "go"
      refine AV.mul ?_ (mulOk_ok m2)
      walk_at "go"
      refine AV.mul ?_ (mulOk_ok m3)
      walk_at "go"
      refine AV.lenL ht (by simp [pb.len]; omega) ?_
      walk_at "go"
      rw [List.length_map, List.length_map, pb.len, show (((cs.length : Nat) : Int) != ((cs.length : Nat) : Int)) = false by simp]
      walk_at "go"
      refine AE.compR (ScopeOK.fn rfl (by decide +kernel) (by decide +kernel) (.inl rfl)) rfl ?_ ⟨_, _, rfl, rfl⟩ rfl (by intro _; with_unfolding_all rfl)
      walk_at "go"
      refine ⟨_, _, _, _, .one cs.length (by omega), fun i acc hp' => hp' = H3 ∧ acc = ([] : List Int).map V.int, ⟨rfl, rfl⟩, ?_, ?_⟩
      · rintro cells C i acc hp' look hi ⟨e, rfl⟩
        subst e
        dsimp only
        rw [step1]
        obtain ⟨x, hx⟩ : ∃ x, y.seq[i]? = some x := ⟨_, List.getElem?_eq_getElem (by rw [pb.len]; exact hi)⟩
        obtain ⟨q, hq⟩ : ∃ q, wt[i]? = some q := ⟨_, List.getElem?_eq_getElem (by rw [pb.wl]; exact hi)⟩
        have hx' : (y.seq.map fun s => Float64.mul s (bScale cs.length))[i]? = some (Float64.mul x (bScale cs.length)) := by rw [List.getElem?_map, hx]; rfl
        walk_at "go"
        refine AE.callF fE memE rfl (k := 0) (by show 1 ≤ n; omega) ?_
        walk_at "go"
        refine AV.at ht (by omega) (by omega) (idxF hx') ?_
        walk_at "go"
        refine AV.at hw' (by omega) (by omega) (idx hq) ?_
        walk_at "go"
        refine ⟨_, bindE, okE, meetE (m4 i _ _ hx hq) ?_⟩
        walk_at "go"
        rw [Bool.not_true]
        exact itF ⟨rfl, rfl⟩
      · rintro acc hp' ⟨e, rfl⟩
        subst e
        walk_at "go"
        refine AE.list (AEs.nil ⟨Nat.zero_le _, ?_⟩)
        walk_at "go"
        refine AV.neLI (ns := []) (ms := []) (hp_old hp_new) hp_new ?_
        rw [decide_eq_true rfl, Bool.not_true]
        have hh := (hh'.app (t := [O.lst (([] : List Int).map V.int)])).app (t := [O.lst []])
        walk_at "d"
        refine ⟨_, rfl, itF (AT.orNil ?_)⟩
        walk_at "d"
        refine itF (AX.nil ?_)
        walk_at "d"
        refine AX.nil ?_
        walk_at "d"
        exact segB2 hn ⟨by walk_at "lk", by walk_at "lk", by walk_at "lk", by walk_at "lk", by walk_at "lk"⟩ hh hnm pl
    · rw [decide_eq_false (by omega)]
      walk_at "d"
      refine itF (AX.nil ?_)
      walk_at "d"
      exact segB2 hn ⟨by walk_at "lk", by walk_at "lk", by walk_at "lk", by walk_at "lk", by walk_at "lk"⟩ hh hnm pl


end

/-! ## part 34 -/
section
local macro_rules | `(tactic| walk_at "lk1") => `(tactic| first | with_reducible assumption | with_reducible exact upd_same | ((with_reducible refine (upd_ne (by decide)).trans ?_); walk_at "lk1") | ((with_reducible refine (freeLoc_eq (by with_unfolding_all rfl)).trans ?_); walk_at "lk1"))
local macro_rules | `(tactic| walk_at "lk") => `(tactic| ((try dsimp only); walk_at "lk1"))
local macro_rules | `(tactic| walk_at "d") => `(tactic| try dsimp only [thenX, turnX, locOf])
local macro_rules | `(tactic| walk_at "st1") => `(tactic| (first
  | with_reducible refine AX.cons ?_
  | with_reducible refine AX.nil ?_
  | (with_reducible (show AE _ _ _ _); first | with_reducible refine AE.name (by walk_at "lk") ?_ (by with_unfolding_all rfl) (by decide) | with_reducible refine AE.cell (by walk_at "lk") ?_ (by with_unfolding_all rfl) (by first | with_unfolding_all rfl | with_unfolding_all exact looked (by assumption) (Or.inl rfl) | with_unfolding_all exact looked (by assumption) (Or.inr rfl)) (by decide) | with_reducible refine AE.int ?_ | with_reducible refine AE.flt ?_ | with_reducible refine AE.str ?_ | with_reducible refine AE.bool ?_ | with_reducible refine AE.binop ?_ | with_reducible refine AE.sliceAll ?_ (by intro _ _; with_unfolding_all rfl) | with_reducible refine AE.item ?_ | with_reducible refine AE.cmp ?_ (by with_unfolding_all rfl) | with_reducible refine AE.neg ?_ | with_reducible refine AE.cLen (by with_unfolding_all rfl) ?_ (by with_unfolding_all rfl) (by with_unfolding_all rfl) | with_reducible refine AE.cSum (by with_unfolding_all rfl) ?_ (by with_unfolding_all rfl) (by with_unfolding_all rfl) | with_reducible refine AE.cAbs (by with_unfolding_all rfl) ?_ (by with_unfolding_all rfl) (by with_unfolding_all rfl) | with_reducible refine AE.cMax (by with_unfolding_all rfl) ?_ (by with_unfolding_all rfl) (by with_unfolding_all rfl) | with_reducible refine AE.cFloat (by with_unfolding_all rfl) ?_ (by with_unfolding_all rfl) (by with_unfolding_all rfl) | with_reducible refine AE.cList (by with_unfolding_all rfl) ?_ (by with_unfolding_all rfl) (by with_unfolding_all rfl) | with_reducible refine AE.iStr (by with_unfolding_all rfl) (by with_unfolding_all rfl) ?_ (by with_unfolding_all rfl) (by with_unfolding_all rfl) | with_reducible refine AE.iTup (by with_unfolding_all rfl) (by with_unfolding_all rfl) ?_ (by with_unfolding_all rfl) (by with_unfolding_all rfl) | with_reducible refine AE.iInt (by with_unfolding_all rfl) (by with_unfolding_all rfl) ?_ (by with_unfolding_all rfl) (by with_unfolding_all rfl) | with_reducible refine AE.iList (by with_unfolding_all rfl) (by with_unfolding_all rfl) ?_ (by with_unfolding_all rfl) (by with_unfolding_all rfl) | with_reducible refine AE.mCount ?_ (by with_unfolding_all rfl) (by with_unfolding_all rfl) (by with_unfolding_all rfl) (by with_unfolding_all rfl) (by with_unfolding_all rfl) | with_reducible refine AE.mAppend ?_ (by with_unfolding_all rfl) (by with_unfolding_all rfl) (by with_unfolding_all rfl) (by with_unfolding_all rfl) (by with_unfolding_all rfl) | with_reducible refine AE.mExtend ?_ (by with_unfolding_all rfl) (by with_unfolding_all rfl) (by with_unfolding_all rfl) (by with_unfolding_all rfl) (by with_unfolding_all rfl) | with_reducible refine AE.mPop ?_ (by with_unfolding_all rfl) (by with_unfolding_all rfl) (by with_unfolding_all rfl) (by with_unfolding_all rfl) (by with_unfolding_all rfl) | with_reducible refine AE.mIndex ?_ (by with_unfolding_all rfl) (by with_unfolding_all rfl) (by with_unfolding_all rfl) (by with_unfolding_all rfl) (by with_unfolding_all rfl) | with_reducible refine AE.join ?_ (by with_unfolding_all rfl) (by with_unfolding_all rfl) (by with_unfolding_all rfl) (by with_unfolding_all rfl) (by with_unfolding_all rfl) | with_reducible refine AE.ifexp ?_)
  | (with_reducible (show AN _ _ _ _ _); first | with_reducible refine AN.loc ?_ (by with_unfolding_all rfl) (by with_unfolding_all rfl) | with_reducible refine AN.cell ?_ (by with_unfolding_all rfl) (by with_unfolding_all rfl))
  | (with_reducible (show AEs _ _ _ _); first | with_reducible refine AEs.cons ?_ (by with_unfolding_all rfl) | with_reducible refine AEs.nil ?_)
  | (with_reducible (show AT _ _ _ _); first | with_reducible refine AT.cmp ?_ (by with_unfolding_all rfl) | with_reducible refine AT.not ?_ | with_reducible refine AT.andNil ?_ | with_reducible refine AT.and ?_ | with_reducible refine AT.orNil ?_ | with_reducible refine AT.or ?_ | with_reducible refine AT.val ?_ (by with_unfolding_all rfl))
  | (with_reducible (show AV _ _ _ _ _); first | with_reducible refine AV.isiStr_str ?_ | with_reducible refine AV.isiInt_str ?_ | with_reducible refine AV.isiInt_tuple ?_ | with_reducible refine AV.isiInt_int ?_ | with_reducible refine AV.isiStr_list ?_ | with_reducible refine AV.absF ?_ | with_reducible refine AV.floatF ?_ | with_reducible refine AV.fadd ?_ | with_reducible refine AV.fmul ?_ | with_reducible refine AV.ltFI ?_ | with_reducible refine AV.add ?_ | with_reducible refine AV.sub ?_ | with_reducible refine AV.eqI ?_ | with_reducible refine AV.neI ?_ | with_reducible refine AV.ltI ?_ | with_reducible refine AV.gtI ?_ | with_reducible refine AV.eqD ?_ | with_reducible refine AV.eqS ?_ | with_reducible refine AV.iadd ?_ | with_reducible refine AV.isub ?_)
  | (with_reducible (show AG _ _ _ _ _); first | with_reducible refine AG.name ?_)
  | (with_reducible (show AS _ _ _ _); first | with_reducible refine AS.ret ?_ | with_reducible refine AS.ite ?_ | with_reducible refine AS.brk ?_ | with_reducible refine AS.assign ?_ (by with_unfolding_all rfl) | with_reducible refine AS.aug (by walk_at "lk") ?_ (by with_unfolding_all rfl) | with_reducible refine AS.expr ?_ (by with_unfolding_all rfl) (by with_unfolding_all rfl))
  | (with_reducible (show AB _ _ _ _); first | with_reducible refine AB.bool ?_)
  | with_reducible refine itT ?_
  | with_reducible refine itF ?_
  | with_reducible refine ATs_nil ?_
  | with_reducible refine ATs_one ?_
  | with_reducible refine ⟨_, rfl, ?_⟩))
local macro_rules | `(tactic| walk_at "st") => `(tactic| (walk_at "st1"; walk_at "d"))
local macro_rules | `(tactic| walk_at "go") => `(tactic| repeat (first
  | dsimp only [thenX, turnX, locOf]
  | with_reducible refine AX.cons ?_
  | with_reducible refine AX.nil ?_
  | (with_reducible (show AE _ _ _ _); first | with_reducible refine AE.name (by walk_at "lk") ?_ (by with_unfolding_all rfl) (by decide) | with_reducible refine AE.cell (by walk_at "lk") ?_ (by with_unfolding_all rfl) (by first | with_unfolding_all rfl | with_unfolding_all exact looked (by assumption) (Or.inl rfl) | with_unfolding_all exact looked (by assumption) (Or.inr rfl)) (by decide) | with_reducible refine AE.int ?_ | with_reducible refine AE.flt ?_ | with_reducible refine AE.str ?_ | with_reducible refine AE.bool ?_ | with_reducible refine AE.binop ?_ | with_reducible refine AE.sliceAll ?_ (by intro _ _; with_unfolding_all rfl) | with_reducible refine AE.item ?_ | with_reducible refine AE.cmp ?_ (by with_unfolding_all rfl) | with_reducible refine AE.neg ?_ | with_reducible refine AE.cLen (by with_unfolding_all rfl) ?_ (by with_unfolding_all rfl) (by with_unfolding_all rfl) | with_reducible refine AE.cSum (by with_unfolding_all rfl) ?_ (by with_unfolding_all rfl) (by with_unfolding_all rfl) | with_reducible refine AE.cAbs (by with_unfolding_all rfl) ?_ (by with_unfolding_all rfl) (by with_unfolding_all rfl) | with_reducible refine AE.cMax (by with_unfolding_all rfl) ?_ (by with_unfolding_all rfl) (by with_unfolding_all rfl) | with_reducible refine AE.cFloat (by with_unfolding_all rfl) ?_ (by with_unfolding_all rfl) (by with_unfolding_all rfl) | with_reducible refine AE.cList (by with_unfolding_all rfl) ?_ (by with_unfolding_all rfl) (by with_unfolding_all rfl) | with_reducible refine AE.iStr (by with_unfolding_all rfl) (by with_unfolding_all rfl) ?_ (by with_unfolding_all rfl) (by with_unfolding_all rfl) | with_reducible refine AE.iTup (by with_unfolding_all rfl) (by with_unfolding_all rfl) ?_ (by with_unfolding_all rfl) (by with_unfolding_all rfl) | with_reducible refine AE.iInt (by with_unfolding_all rfl) (by with_unfolding_all rfl) ?_ (by with_unfolding_all rfl) (by with_unfolding_all rfl) | with_reducible refine AE.iList (by with_unfolding_all rfl) (by with_unfolding_all rfl) ?_ (by with_unfolding_all rfl) (by with_unfolding_all rfl) | with_reducible refine AE.mCount ?_ (by with_unfolding_all rfl) (by with_unfolding_all rfl) (by with_unfolding_all rfl) (by with_unfolding_all rfl) (by with_unfolding_all rfl) | with_reducible refine AE.mAppend ?_ (by with_unfolding_all rfl) (by with_unfolding_all rfl) (by with_unfolding_all rfl) (by with_unfolding_all rfl) (by with_unfolding_all rfl) | with_reducible refine AE.mExtend ?_ (by with_unfolding_all rfl) (by with_unfolding_all rfl) (by with_unfolding_all rfl) (by with_unfolding_all rfl) (by with_unfolding_all rfl) | with_reducible refine AE.mPop ?_ (by with_unfolding_all rfl) (by with_unfolding_all rfl) (by with_unfolding_all rfl) (by with_unfolding_all rfl) (by with_unfolding_all rfl) | with_reducible refine AE.mIndex ?_ (by with_unfolding_all rfl) (by with_unfolding_all rfl) (by with_unfolding_all rfl) (by with_unfolding_all rfl) (by with_unfolding_all rfl) | with_reducible refine AE.join ?_ (by with_unfolding_all rfl) (by with_unfolding_all rfl) (by with_unfolding_all rfl) (by with_unfolding_all rfl) (by with_unfolding_all rfl) | with_reducible refine AE.ifexp ?_)
  | (with_reducible (show AN _ _ _ _ _); first | with_reducible refine AN.loc ?_ (by with_unfolding_all rfl) (by with_unfolding_all rfl) | with_reducible refine AN.cell ?_ (by with_unfolding_all rfl) (by with_unfolding_all rfl))
  | (with_reducible (show AEs _ _ _ _); first | with_reducible refine AEs.cons ?_ (by with_unfolding_all rfl) | with_reducible refine AEs.nil ?_)
  | (with_reducible (show AT _ _ _ _); first | with_reducible refine AT.cmp ?_ (by with_unfolding_all rfl) | with_reducible refine AT.not ?_ | with_reducible refine AT.andNil ?_ | with_reducible refine AT.and ?_ | with_reducible refine AT.orNil ?_ | with_reducible refine AT.or ?_ | with_reducible refine AT.val ?_ (by with_unfolding_all rfl))
  | (with_reducible (show AV _ _ _ _ _); first | with_reducible refine AV.isiStr_str ?_ | with_reducible refine AV.isiInt_str ?_ | with_reducible refine AV.isiInt_tuple ?_ | with_reducible refine AV.isiInt_int ?_ | with_reducible refine AV.isiStr_list ?_ | with_reducible refine AV.absF ?_ | with_reducible refine AV.floatF ?_ | with_reducible refine AV.fadd ?_ | with_reducible refine AV.fmul ?_ | with_reducible refine AV.ltFI ?_ | with_reducible refine AV.add ?_ | with_reducible refine AV.sub ?_ | with_reducible refine AV.eqI ?_ | with_reducible refine AV.neI ?_ | with_reducible refine AV.ltI ?_ | with_reducible refine AV.gtI ?_ | with_reducible refine AV.eqD ?_ | with_reducible refine AV.eqS ?_ | with_reducible refine AV.iadd ?_ | with_reducible refine AV.isub ?_)
  | (with_reducible (show AG _ _ _ _ _); first | with_reducible refine AG.name ?_)
  | (with_reducible (show AS _ _ _ _); first | with_reducible refine AS.ret ?_ | with_reducible refine AS.ite ?_ | with_reducible refine AS.brk ?_ | with_reducible refine AS.assign ?_ (by with_unfolding_all rfl) | with_reducible refine AS.aug (by walk_at "lk") ?_ (by with_unfolding_all rfl) | with_reducible refine AS.expr ?_ (by with_unfolding_all rfl) (by with_unfolding_all rfl))
  | (with_reducible (show AB _ _ _ _); first | with_reducible refine AB.bool ?_)
  | with_reducible refine itT ?_
  | with_reducible refine itF ?_
  | with_reducible refine ATs_nil ?_
  | with_reducible refine ATs_one ?_
  | with_reducible refine ⟨_, rfl, ?_⟩))
local macro_rules | `(tactic| walk_at "stop") => `(tactic| (walk_at "d"; refine AN.loc ?_ (by with_unfolding_all rfl) (by with_unfolding_all rfl); walk_at "d"; repeat (with_reducible refine AX.nil ?_; walk_at "d")))
def rowUp (cs : List Bool) (node i : Nat) : List Nat := (List.range i).filter fun other => ((other : Int) != (node : Int)) && cs.getD (max node other) false
def rowsOf (cs : List Bool) : List (List Nat) := (List.range cs.length).map fun node => rowUp cs node cs.length
theorem rowUp_succ (cs : List Bool) (node i : Nat) : rowUp cs node (i + 1) = rowUp cs node i ++ (if (((i : Int) != (node : Int)) && cs.getD (max node i) false) then [i] else []) := by
  have key : ∀ p : Nat → Bool, List.filter p [i] = if p i then [i] else [] := by
    intro p
    cases h : p i <;> simp [List.filter, h]
  unfold rowUp
  rw [List.range_succ, List.filter_append, key]
theorem rowN_ints (row : List Nat) : O.lst ((intsOf row).map V.int) = rowN row := by simp [intsOf, rowN]
theorem rowsOf_len (cs : List Bool) : (rowsOf cs).length = cs.length := by simp [rowsOf]
theorem rowsOf_at {cs : List Bool} {k : Nat} (h : k < cs.length) : (rowsOf cs)[k]? = some (rowUp cs k cs.length) := by simp [rowsOf, h]
def Good (cs : List Bool) : Prop := ∃ T w y, tabO (rowsOf cs) = some T ∧ betweenO (rowsOf cs) T = some w ∧ PL cs (rowsOf cs) ∧ PB cs w y
def bitOf (N : Int) (k : Nat) : Bool := (N.fdiv (2 ^ k)).fmod 2 == 1
theorem pow_small {i : Nat} (h : i < 7) : ((2 : Int) ^ i) ≠ 0 ∧ ((2 : Int) ^ i).natAbs < 1073741824 := by
  have : i = 0 ∨ i = 1 ∨ i = 2 ∨ i = 3 ∨ i = 4 ∨ i = 5 ∨ i = 6 := by omega
  rcases this with rfl | rfl | rfl | rfl | rfl | rfl | rfl <;> decide
theorem max_nat (node other : Nat) : (if (other : Int) > (node : Int) then (other : Int) else (node : Int)) = ((max node other : Nat) : Int) := by
  split <;> omega

set_option maxHeartbeats 8000000 in
theorem segA {g : Heap} {prog : Program} {w : World} {A : Around} {L a : Addr} {cdv : Value} {n : Nat} {vals : List Int} (hn : 2 ≤ n) (hv : vals.length ≤ 63) (all : ∀ bs : List Bool, bs.length ≤ 6 → Good (true :: bs)) :
    AX (Fm.fn g prog w A fL L a cdv 1 n fns) fL.body ⟨locOf [(Str.ofString "script", .ref 0)] fun _ => none, [rowV vals]⟩ (fun fl _ => fl = .ret (.bool true)) := by
  refine AX.cons ?_
  walk_at "go"
  refine AE.callF fN memN rfl (k := 0) (by show 1 ≤ n; omega) ?_
  walk_at "go"
  refine ⟨_, bindN, okN, meetN (m := 10) (vals := vals) (by rfl) hv (by omega) ?_⟩
  have hnl : (nums vals 10).length = 10 := by simp [nums]
  obtain ⟨nm, hnm⟩ : ∃ x, x = nums vals 10 := ⟨_, rfl⟩
  rw [← hnm] at hnl ⊢
  have h1 : ([rowV vals] ++ [rowV nm])[1]? = some (rowV nm) := rfl
  rw [show [rowV vals].length = 1 from rfl]
  generalize [rowV vals] ++ [rowV nm] = H at *
  walk_at "go"
  have hx0 : nm[0]? = some nm[0] := List.getElem?_eq_getElem (by omega)
  have hx1 : nm[1]? = some nm[1] := List.getElem?_eq_getElem (by omega)
  generalize nm[0] = N0 at hx0
  generalize nm[1] = N1 at hx1
  refine AV.at h1 (by omega) (by omega) (idx hx0) ?_
  walk_at "go"
  obtain ⟨m, hm, hm7⟩ := fmod_nat (x := N0 + 3) (m := 7) (by omega)
  refine AV.fmod (by omega) ?_
  rw [show (N0 + 3).fmod 7 = (m : Int) from hm]
  walk_at "go"
  rw [show (1 : Int) + (m : Int) = ((m + 1 : Nat) : Int) by omega]
  refine AE.list ?_
  walk_at "go"
  refine ⟨by decide, ?_⟩
  walk_at "go"
  refine AE.compR (ScopeOK.fn rfl (by decide +kernel) (by decide +kernel) (.inl rfl)) rfl ?_ ⟨_, _, rfl, rfl⟩ rfl (by intro _; with_unfolding_all rfl)
  walk_at "go"
  rw [show ((m + 1 : Nat) : Int) - 1 = (m : Int) by omega]
  refine ⟨_, _, _, _, .one m (by omega), fun i acc hp' => hp' = H ++ [O.lst [V.str (Str.ofString "d")]] ∧ acc = ((List.range i).map (bitOf N1)).map strV, ⟨rfl, rfl⟩, ?_, ?_⟩
  · rintro cells C i acc hp' look hi ⟨e, rfl⟩
    subst e
    dsimp only
    rw [step1]
    obtain ⟨p1, p2⟩ := pow_small (i := i) (by omega)
    walk_at "go"
    refine AV.at (hp_old h1) (by omega) (by omega) (idx hx1) ?_
    walk_at "go"
    refine AV.pow (by omega) (by
      have : Builtin.Int.intBits 2 = 2 := by decide
      rw [this]; omega) ?_
    rw [Int.toNat_natCast]
    refine AV.fdiv p1 (PyProof.noPylong_small p2) ?_
    walk_at "go"
    refine AV.fmod (by omega) ?_
    walk_at "go"
    have hb : ((N1.fdiv (2 ^ i)).fmod 2 == 1) = bitOf N1 i := rfl
    rw [hb]
    cases hbit : bitOf N1 i with
    | true =>
      walk_at "go"
      refine ⟨rfl, ?_⟩
      rw [range_map_snoc, hbit, List.map_append]; rfl
    | false =>
      walk_at "go"
      refine ⟨rfl, ?_⟩
      rw [range_map_snoc, hbit, List.map_append]; rfl
  · rintro acc hp' ⟨e, rfl⟩
    subst e
    refine AV.addLists (vs := [strV true]) (ws := ((List.range m).map (bitOf N1)).map strV) (hp_old hp_new) hp_new (by simp; omega) ?_
    obtain ⟨cs, hcs⟩ : ∃ x, x = true :: (List.range m).map (bitOf N1) := ⟨_, rfl⟩
    have hcl : cs.length = m + 1 := by rw [hcs]; simp
    have good : Good cs := by rw [hcs]; exact all _ (by simp; omega)
    rw [show [strV true] ++ ((List.range m).map (bitOf N1)).map strV = cs.map strV by rw [hcs]; rfl]
    rw [← hcl]
    have hz : cs.length ≤ 7 := by omega
    clear hcs
    have h3 : (H ++ [O.lst [V.str (Str.ofString "d")]] ++ [O.lst (((List.range m).map (bitOf N1)).map strV)] ++ [O.lst (cs.map strV)])[(H ++ [O.lst [V.str (Str.ofString "d")]] ++ [O.lst (((List.range m).map (bitOf N1)).map strV)]).length]? = some (O.lst (cs.map strV)) := hp_new
    generalize hjl : (H ++ [O.lst [V.str (Str.ofString "d")]] ++ [O.lst (((List.range m).map (bitOf N1)).map strV)]).length = jl at *
    have h1' := hp_old (t := [O.lst (cs.map strV)]) (hp_old (t := [O.lst (((List.range m).map (bitOf N1)).map strV)]) (hp_old (t := [O.lst [V.str (Str.ofString "d")]]) h1))
    clear h1 hjl
    generalize H ++ [O.lst [V.str (Str.ofString "d")]] ++ [O.lst (((List.range m).map (bitOf N1)).map strV)] ++ [O.lst (cs.map strV)] = H1 at *
    walk_at "go"
    refine AV.listL h3 (by simp; omega) ?_
    have h4 : (H1 ++ [O.lst (cs.map strV)])[H1.length]? = some (O.lst (cs.map strV)) := hp_new
    generalize hjp : H1.length = jp at *
    have h1 := hp_old (t := [O.lst (cs.map strV)]) h1'
    have h3' := hp_old (t := [O.lst (cs.map strV)]) h3
    clear h1' h3 hjp
    generalize H1 ++ [O.lst (cs.map strV)] = H2 at *
    walk_at "go"
    refine AS.compR (ScopeOK.fn rfl (by decide +kernel) (by decide +kernel) (.inr rfl)) rfl ?_ ⟨_, _, rfl, rfl⟩ rfl (by with_unfolding_all rfl) (by intro _; with_unfolding_all rfl)
    walk_at "go"
    refine ⟨_, _, _, _, .one cs.length (by omega), fun i acc hp' => ∃ (t : List O) (js : List Nat), hp' = H2 ++ t ∧ acc = js.map V.ref ∧ js.length = i ∧ ∀ (k : Nat) (row : List Nat), k < i → (rowsOf cs)[k]? = some row → ∃ j : Nat, js[k]? = some j ∧ hp'[j]? = some (rowN row),
      ⟨[], [], by simp, rfl, rfl, fun k p hk => by omega⟩, ?_, ?_⟩
    · rintro cells C i acc hp' look hi ⟨t, js, e, rfl, hjl, hjs⟩
      subst e
      dsimp only
      rw [step1]
      walk_at "go"
      refine AE.compR (ScopeOK.comp rfl (by decide +kernel) look (by decide +kernel) (.inl rfl)) rfl ?_ ⟨_, _, rfl, rfl⟩ rfl (by intro _; with_unfolding_all rfl)
      walk_at "go"
      refine ⟨_, _, _, _, .one cs.length (by omega), fun i' acc' hp'' => hp'' = H2 ++ t ∧ acc' = (intsOf (rowUp cs i i')).map V.int, ⟨rfl, rfl⟩, ?_, ?_⟩
      · rintro cells' C' i' acc' hp'' look' hi' ⟨e, rfl⟩
        subst e
        dsimp only
        rw [step1]
        walk_at "go"
        cases hne : ((i' : Int) != (i : Int)) with
        | false =>
          walk_at "go"
          refine ⟨rfl, ?_⟩
          rw [rowUp_succ, hne, Bool.false_and, if_neg (by decide), List.append_nil]
        | true =>
          walk_at "go"
          refine AV.max2 ?_
          rw [max_nat]
          have hmx : max i i' < cs.length := by omega
          refine AV.at (hp_old h3') (by omega) (by omega) (code_at (List.getElem?_eq_getElem hmx)) ?_
          walk_at "go"
          have eg : cs.getD (max i i') false = cs[max i i'] := by simp [hmx]
          cases hc : cs[max i i'] with
          | true =>
            walk_at "go"
            refine ⟨rfl, ?_⟩
            rw [rowUp_succ, hne, eg, hc, Bool.true_and, if_pos rfl, ints_snoc]
          | false =>
            walk_at "go"
            refine ⟨rfl, ?_⟩
            rw [rowUp_succ, hne, eg, hc, Bool.true_and, if_neg (by decide), List.append_nil]
      · rintro acc' hp'' ⟨e, rfl⟩
        subst e
        rw [rowN_ints]
        refine ⟨t ++ [rowN (rowUp cs i cs.length)], js ++ [(H2 ++ t).length], by rw [List.append_assoc], by simp, by simp [hjl], fun k p hk hp => ?_⟩
        by_cases hki : k < i
        · obtain ⟨j, e1, e2⟩ := hjs k p hki hp
          exact ⟨j, getElem?_pre e1, hp_old e2⟩
        · have hke : k = i := by omega
          subst hke
          rw [rowsOf_at hi] at hp
          cases hp
          exact ⟨(H2 ++ t).length, by rw [← hjl]; simp, hp_new⟩
    · rintro acc hp' ⟨t, js, e, rfl, hjl', hjs⟩
      subst e
      have h5 : RowsAt (H2 ++ t ++ [O.lst (js.map V.ref)]) (H2 ++ t).length (rowsOf cs) := by
        refine ⟨js, hp_new, by rw [hjl', rowsOf_len], fun k p hp => ?_⟩
        have hk : k < cs.length := rowsOf_len cs ▸ (List.getElem?_eq_some_iff.mp hp).1
        obtain ⟨j, e1, e2⟩ := hjs k p hk hp
        exact ⟨j, e1, hp_old e2⟩
      have hh : HB (H2 ++ t ++ [O.lst (js.map V.ref)]) 1 jl jp (H2 ++ t).length nm cs (rowsOf cs) := ⟨hp_old (hp_old h1), hp_old (hp_old h3'), hp_old (hp_old h4), h5⟩
      clear h5 h1 h3' h4 hjs
      generalize (H2 ++ t).length = jr at *
      generalize H2 ++ t ++ [O.lst (js.map V.ref)] = H3 at *
      obtain ⟨T, wt, y, hT, hw, pl, pb⟩ := good
      walk_at "go"
      refine AE.callF fX memX rfl (k := 1) (by show 2 ≤ n; omega) ?_
      walk_at "go"
      refine ⟨_, bindX, okX, meetX hh.rows (by rw [pl.rl]; exact hz) hT hw fun jw t hjw _ => ?_⟩
      have hh' := hh.app (t := t)
      walk_at "d"
      refine AN.cell ?_ (by with_unfolding_all rfl) (by with_unfolding_all rfl)
      walk_at "d"
      exact segB hn ⟨by walk_at "lk", by walk_at "lk", by walk_at "lk", by walk_at "lk", by walk_at "lk"⟩ (by walk_at "lk") hh' hjw hnl pl pb


end

/-! ## part 35 -/
section
local macro_rules | `(tactic| walk_at "lk1") => `(tactic| first | with_reducible assumption | with_reducible exact upd_same | ((with_reducible refine (upd_ne (by decide)).trans ?_); walk_at "lk1") | ((with_reducible refine (freeLoc_eq (by with_unfolding_all rfl)).trans ?_); walk_at "lk1"))
local macro_rules | `(tactic| walk_at "lk") => `(tactic| ((try dsimp only); walk_at "lk1"))
local macro_rules | `(tactic| walk_at "d") => `(tactic| try dsimp only [thenX, turnX, locOf])
local macro_rules | `(tactic| walk_at "st1") => `(tactic| (first
  | with_reducible refine AX.cons ?_
  | with_reducible refine AX.nil ?_
  | (with_reducible (show AE _ _ _ _); first | with_reducible refine AE.name (by walk_at "lk") ?_ (by with_unfolding_all rfl) (by decide) | with_reducible refine AE.cell (by walk_at "lk") ?_ (by with_unfolding_all rfl) (by first | with_unfolding_all rfl | with_unfolding_all exact looked (by assumption) (Or.inl rfl) | with_unfolding_all exact looked (by assumption) (Or.inr rfl)) (by decide) | with_reducible refine AE.int ?_ | with_reducible refine AE.flt ?_ | with_reducible refine AE.str ?_ | with_reducible refine AE.bool ?_ | with_reducible refine AE.binop ?_ | with_reducible refine AE.sliceAll ?_ (by intro _ _; with_unfolding_all rfl) | with_reducible refine AE.item ?_ | with_reducible refine AE.cmp ?_ (by with_unfolding_all rfl) | with_reducible refine AE.neg ?_ | with_reducible refine AE.cLen (by with_unfolding_all rfl) ?_ (by with_unfolding_all rfl) (by with_unfolding_all rfl) | with_reducible refine AE.cSum (by with_unfolding_all rfl) ?_ (by with_unfolding_all rfl) (by with_unfolding_all rfl) | with_reducible refine AE.cAbs (by with_unfolding_all rfl) ?_ (by with_unfolding_all rfl) (by with_unfolding_all rfl) | with_reducible refine AE.cMax (by with_unfolding_all rfl) ?_ (by with_unfolding_all rfl) (by with_unfolding_all rfl) | with_reducible refine AE.cFloat (by with_unfolding_all rfl) ?_ (by with_unfolding_all rfl) (by with_unfolding_all rfl) | with_reducible refine AE.cList (by with_unfolding_all rfl) ?_ (by with_unfolding_all rfl) (by with_unfolding_all rfl) | with_reducible refine AE.iStr (by with_unfolding_all rfl) (by with_unfolding_all rfl) ?_ (by with_unfolding_all rfl) (by with_unfolding_all rfl) | with_reducible refine AE.iTup (by with_unfolding_all rfl) (by with_unfolding_all rfl) ?_ (by with_unfolding_all rfl) (by with_unfolding_all rfl) | with_reducible refine AE.iInt (by with_unfolding_all rfl) (by with_unfolding_all rfl) ?_ (by with_unfolding_all rfl) (by with_unfolding_all rfl) | with_reducible refine AE.iList (by with_unfolding_all rfl) (by with_unfolding_all rfl) ?_ (by with_unfolding_all rfl) (by with_unfolding_all rfl) | with_reducible refine AE.mCount ?_ (by with_unfolding_all rfl) (by with_unfolding_all rfl) (by with_unfolding_all rfl) (by with_unfolding_all rfl) (by with_unfolding_all rfl) | with_reducible refine AE.mAppend ?_ (by with_unfolding_all rfl) (by with_unfolding_all rfl) (by with_unfolding_all rfl) (by with_unfolding_all rfl) (by with_unfolding_all rfl) | with_reducible refine AE.mExtend ?_ (by with_unfolding_all rfl) (by with_unfolding_all rfl) (by with_unfolding_all rfl) (by with_unfolding_all rfl) (by with_unfolding_all rfl) | with_reducible refine AE.mPop ?_ (by with_unfolding_all rfl) (by with_unfolding_all rfl) (by with_unfolding_all rfl) (by with_unfolding_all rfl) (by with_unfolding_all rfl) | with_reducible refine AE.mIndex ?_ (by with_unfolding_all rfl) (by with_unfolding_all rfl) (by with_unfolding_all rfl) (by with_unfolding_all rfl) (by with_unfolding_all rfl) | with_reducible refine AE.join ?_ (by with_unfolding_all rfl) (by with_unfolding_all rfl) (by with_unfolding_all rfl) (by with_unfolding_all rfl) (by with_unfolding_all rfl) | with_reducible refine AE.ifexp ?_)
  | (with_reducible (show AN _ _ _ _ _); first | with_reducible refine AN.loc ?_ (by with_unfolding_all rfl) (by with_unfolding_all rfl) | with_reducible refine AN.cell ?_ (by with_unfolding_all rfl) (by with_unfolding_all rfl))
  | (with_reducible (show AEs _ _ _ _); first | with_reducible refine AEs.cons ?_ (by with_unfolding_all rfl) | with_reducible refine AEs.nil ?_)
  | (with_reducible (show AT _ _ _ _); first | with_reducible refine AT.cmp ?_ (by with_unfolding_all rfl) | with_reducible refine AT.not ?_ | with_reducible refine AT.andNil ?_ | with_reducible refine AT.and ?_ | with_reducible refine AT.orNil ?_ | with_reducible refine AT.or ?_ | with_reducible refine AT.val ?_ (by with_unfolding_all rfl))
  | (with_reducible (show AV _ _ _ _ _); first | with_reducible refine AV.isiStr_str ?_ | with_reducible refine AV.isiInt_str ?_ | with_reducible refine AV.isiInt_tuple ?_ | with_reducible refine AV.isiInt_int ?_ | with_reducible refine AV.isiStr_list ?_ | with_reducible refine AV.absF ?_ | with_reducible refine AV.floatF ?_ | with_reducible refine AV.fadd ?_ | with_reducible refine AV.fmul ?_ | with_reducible refine AV.ltFI ?_ | with_reducible refine AV.add ?_ | with_reducible refine AV.sub ?_ | with_reducible refine AV.eqI ?_ | with_reducible refine AV.neI ?_ | with_reducible refine AV.ltI ?_ | with_reducible refine AV.gtI ?_ | with_reducible refine AV.eqD ?_ | with_reducible refine AV.eqS ?_ | with_reducible refine AV.iadd ?_ | with_reducible refine AV.isub ?_)
  | (with_reducible (show AG _ _ _ _ _); first | with_reducible refine AG.name ?_)
  | (with_reducible (show AS _ _ _ _); first | with_reducible refine AS.ret ?_ | with_reducible refine AS.ite ?_ | with_reducible refine AS.brk ?_ | with_reducible refine AS.assign ?_ (by with_unfolding_all rfl) | with_reducible refine AS.aug (by walk_at "lk") ?_ (by with_unfolding_all rfl) | with_reducible refine AS.expr ?_ (by with_unfolding_all rfl) (by with_unfolding_all rfl))
  | (with_reducible (show AB _ _ _ _); first | with_reducible refine AB.bool ?_)
  | with_reducible refine itT ?_
  | with_reducible refine itF ?_
  | with_reducible refine ATs_nil ?_
  | with_reducible refine ATs_one ?_
  | with_reducible refine ⟨_, rfl, ?_⟩))
local macro_rules | `(tactic| walk_at "st") => `(tactic| (walk_at "st1"; walk_at "d"))
local macro_rules | `(tactic| walk_at "go") => `(tactic| repeat (first
  | dsimp only [thenX, turnX, locOf]
  | with_reducible refine AX.cons ?_
  | with_reducible refine AX.nil ?_
  | (with_reducible (show AE _ _ _ _); first | with_reducible refine AE.name (by walk_at "lk") ?_ (by with_unfolding_all rfl) (by decide) | with_reducible refine AE.cell (by walk_at "lk") ?_ (by with_unfolding_all rfl) (by first | with_unfolding_all rfl | with_unfolding_all exact looked (by assumption) (Or.inl rfl) | with_unfolding_all exact looked (by assumption) (Or.inr rfl)) (by decide) | with_reducible refine AE.int ?_ | with_reducible refine AE.flt ?_ | with_reducible refine AE.str ?_ | with_reducible refine AE.bool ?_ | with_reducible refine AE.binop ?_ | with_reducible refine AE.sliceAll ?_ (by intro _ _; with_unfolding_all rfl) | with_reducible refine AE.item ?_ | with_reducible refine AE.cmp ?_ (by with_unfolding_all rfl) | with_reducible refine AE.neg ?_ | with_reducible refine AE.cLen (by with_unfolding_all rfl) ?_ (by with_unfolding_all rfl) (by with_unfolding_all rfl) | with_reducible refine AE.cSum (by with_unfolding_all rfl) ?_ (by with_unfolding_all rfl) (by with_unfolding_all rfl) | with_reducible refine AE.cAbs (by with_unfolding_all rfl) ?_ (by with_unfolding_all rfl) (by with_unfolding_all rfl) | with_reducible refine AE.cMax (by with_unfolding_all rfl) ?_ (by with_unfolding_all rfl) (by with_unfolding_all rfl) | with_reducible refine AE.cFloat (by with_unfolding_all rfl) ?_ (by with_unfolding_all rfl) (by with_unfolding_all rfl) | with_reducible refine AE.cList (by with_unfolding_all rfl) ?_ (by with_unfolding_all rfl) (by with_unfolding_all rfl) | with_reducible refine AE.iStr (by with_unfolding_all rfl) (by with_unfolding_all rfl) ?_ (by with_unfolding_all rfl) (by with_unfolding_all rfl) | with_reducible refine AE.iTup (by with_unfolding_all rfl) (by with_unfolding_all rfl) ?_ (by with_unfolding_all rfl) (by with_unfolding_all rfl) | with_reducible refine AE.iInt (by with_unfolding_all rfl) (by with_unfolding_all rfl) ?_ (by with_unfolding_all rfl) (by with_unfolding_all rfl) | with_reducible refine AE.iList (by with_unfolding_all rfl) (by with_unfolding_all rfl) ?_ (by with_unfolding_all rfl) (by with_unfolding_all rfl) | with_reducible refine AE.mCount ?_ (by with_unfolding_all rfl) (by with_unfolding_all rfl) (by with_unfolding_all rfl) (by with_unfolding_all rfl) (by with_unfolding_all rfl) | with_reducible refine AE.mAppend ?_ (by with_unfolding_all rfl) (by with_unfolding_all rfl) (by with_unfolding_all rfl) (by with_unfolding_all rfl) (by with_unfolding_all rfl) | with_reducible refine AE.mExtend ?_ (by with_unfolding_all rfl) (by with_unfolding_all rfl) (by with_unfolding_all rfl) (by with_unfolding_all rfl) (by with_unfolding_all rfl) | with_reducible refine AE.mPop ?_ (by with_unfolding_all rfl) (by with_unfolding_all rfl) (by with_unfolding_all rfl) (by with_unfolding_all rfl) (by with_unfolding_all rfl) | with_reducible refine AE.mIndex ?_ (by with_unfolding_all rfl) (by with_unfolding_all rfl) (by with_unfolding_all rfl) (by with_unfolding_all rfl) (by with_unfolding_all rfl) | with_reducible refine AE.join ?_ (by with_unfolding_all rfl) (by with_unfolding_all rfl) (by with_unfolding_all rfl) (by with_unfolding_all rfl) (by with_unfolding_all rfl) | with_reducible refine AE.ifexp ?_)
  | (with_reducible (show AN _ _ _ _ _); first | with_reducible refine AN.loc ?_ (by with_unfolding_all rfl) (by with_unfolding_all rfl) | with_reducible refine AN.cell ?_ (by with_unfolding_all rfl) (by with_unfolding_all rfl))
  | (with_reducible (show AEs _ _ _ _); first | with_reducible refine AEs.cons ?_ (by with_unfolding_all rfl) | with_reducible refine AEs.nil ?_)
  | (with_reducible (show AT _ _ _ _); first | with_reducible refine AT.cmp ?_ (by with_unfolding_all rfl) | with_reducible refine AT.not ?_ | with_reducible refine AT.andNil ?_ | with_reducible refine AT.and ?_ | with_reducible refine AT.orNil ?_ | with_reducible refine AT.or ?_ | with_reducible refine AT.val ?_ (by with_unfolding_all rfl))
  | (with_reducible (show AV _ _ _ _ _); first | with_reducible refine AV.isiStr_str ?_ | with_reducible refine AV.isiInt_str ?_ | with_reducible refine AV.isiInt_tuple ?_ | with_reducible refine AV.isiInt_int ?_ | with_reducible refine AV.isiStr_list ?_ | with_reducible refine AV.absF ?_ | with_reducible refine AV.floatF ?_ | with_reducible refine AV.fadd ?_ | with_reducible refine AV.fmul ?_ | with_reducible refine AV.ltFI ?_ | with_reducible refine AV.add ?_ | with_reducible refine AV.sub ?_ | with_reducible refine AV.eqI ?_ | with_reducible refine AV.neI ?_ | with_reducible refine AV.ltI ?_ | with_reducible refine AV.gtI ?_ | with_reducible refine AV.eqD ?_ | with_reducible refine AV.eqS ?_ | with_reducible refine AV.iadd ?_ | with_reducible refine AV.isub ?_)
  | (with_reducible (show AG _ _ _ _ _); first | with_reducible refine AG.name ?_)
  | (with_reducible (show AS _ _ _ _); first | with_reducible refine AS.ret ?_ | with_reducible refine AS.ite ?_ | with_reducible refine AS.brk ?_ | with_reducible refine AS.assign ?_ (by with_unfolding_all rfl) | with_reducible refine AS.aug (by walk_at "lk") ?_ (by with_unfolding_all rfl) | with_reducible refine AS.expr ?_ (by with_unfolding_all rfl) (by with_unfolding_all rfl))
  | (with_reducible (show AB _ _ _ _); first | with_reducible refine AB.bool ?_)
  | with_reducible refine itT ?_
  | with_reducible refine itF ?_
  | with_reducible refine ATs_nil ?_
  | with_reducible refine ATs_one ?_
  | with_reducible refine ⟨_, rfl, ?_⟩))
local macro_rules | `(tactic| walk_at "stop") => `(tactic| (walk_at "d"; refine AN.loc ?_ (by with_unfolding_all rfl) (by with_unfolding_all rfl); walk_at "d"; repeat (with_reducible refine AX.nil ?_; walk_at "d")))
theorem tab_at {R : List (List Nat)} : ∀ {i : Nat} {T : List (List Int × List Int)}, loopO (rowOf R) [] i = some T → ∀ k < i, ∃ st, lawFrom R k = some st ∧ T[k]? = some st := by
  intro i
  induction i with
  | zero => intro T _ k hk; omega
  | succ i ih =>
    intro T h k hk
    obtain ⟨x, hx⟩ := loopO_le h i (Nat.le_succ _)
    have hl := tab_len hx
    have hs := (loopO_succ hx).symm.trans h
    obtain ⟨st, hst, hs⟩ := get_some hs
    cases hs
    by_cases hki : k < i
    · obtain ⟨st', e1, e2⟩ := ih hx k hki
      exact ⟨st', e1, getElem?_pre e2⟩
    · have : k = i := by omega
      subst this
      exact ⟨st, hst, by rw [← hl]; simp⟩

def isT (o : Option Bool) : Bool := match o with
  | some true => true
  | _ => false
theorem isT_ok {o : Option Bool} (h : isT o = true) : o = some true := by
  match o, h with
  | some true, _ => rfl
def stepsOk (T : List (List Int × List Int)) (cs : List Bool) (s : Nat) : Bool := match T[s]?, splO cs s with
  | some st, some q => decide (q = st.1)
  | _, _ => false
def lastOk (T : List (List Int × List Int)) (cs : List Bool) : Bool := match (dOf cs cs.length).getLast? with
  | some la => (dOf cs cs.length).all (fun k => decide (k ≤ la)) && (decide (la < cs.length) && (List.range (la + 1)).all (stepsOk T cs))
  | none => false
def runsOk (cs : List Bool) : Bool := match runs cs with
  | some (ra :: rx) => decide (rx.length ≤ 99) && decide (uncO (ra :: rx) [] = some cs)
  | _ => false
def densOk (R : List (List Nat)) (cs : List Bool) : Bool := match dens cs with
  | some x => sumOk (lensOf R) && (mulOk cs.length ((cs.length : Int) - 1) && isT (near x (lensOf R).sum ((cs.length : Int) * ((cs.length : Int) - 1))))
  | none => false
def betOk (w : List Int) (y : BS) (k : Nat) : Bool := match y.seq[k]?, w[k]? with
  | some x, some q => isT (near x q 420)
  | _, _ => false
def betOk2 (n : Nat) (w : List Int) (y : BS) (k : Nat) : Bool := match y.seq[k]?, w[k]? with
  | some x, some q => isT (near (Float64.mul x (bScale n)) q (420 * ((n : Int) - 1) * ((n : Int) - 2)))
  | _, _ => false
def seqsOk (cs : List Bool) (w : List Int) (y : BS) : Bool :=
  decide (y.seq.length = cs.length) && (decide (w.length = cs.length) && ((List.range cs.length).all (betOk w y) &&
    (decide (cs.length ≤ 2) || (normO cs.length && (mulOk 420 ((cs.length : Int) - 1) && (mulOk (420 * ((cs.length : Int) - 1)) ((cs.length : Int) - 2) && (List.range cs.length).all (betOk2 cs.length w y)))))))
def goodB (cs : List Bool) : Bool := match tabO (rowsOf cs) with
  | some T => match betweenO (rowsOf cs) T with
    | some w => match betO cs with
      | some y => seqsOk cs w y && (lastOk T cs && (runsOk cs && (decide (cs.length ≤ 1) || densOk (rowsOf cs) cs)))
      | none => false
    | none => false
  | none => false

def allB : Nat → List (List Bool)
  | 0 => [[]]
  | n + 1 => (allB n).map (false :: ·) ++ (allB n).map (true :: ·)
theorem mem_allB : ∀ bs : List Bool, bs ∈ allB bs.length
  | [] => .head _
  | b :: bs => by
    show b :: bs ∈ (allB bs.length).map (false :: ·) ++ (allB bs.length).map (true :: ·)
    have := mem_allB bs
    cases b with
    | false => exact List.mem_append_left _ (List.mem_map.mpr ⟨bs, this, rfl⟩)
    | true => exact List.mem_append_right _ (List.mem_map.mpr ⟨bs, this, rfl⟩)
theorem all0 : (allB 0).all (fun bs => goodB (true :: bs)) = true := by decide +kernel
theorem all1 : (allB 1).all (fun bs => goodB (true :: bs)) = true := by decide +kernel
theorem all2 : (allB 2).all (fun bs => goodB (true :: bs)) = true := by decide +kernel
theorem all3 : (allB 3).all (fun bs => goodB (true :: bs)) = true := by decide +kernel
theorem all4f : (allB 3).all (fun bs => goodB (true :: false :: bs)) = true := by decide +kernel
theorem all4t : (allB 3).all (fun bs => goodB (true :: true :: bs)) = true := by decide +kernel
theorem all5ff : (allB 3).all (fun bs => goodB (true :: false :: false :: bs)) = true := by decide +kernel
theorem all5ft : (allB 3).all (fun bs => goodB (true :: false :: true :: bs)) = true := by decide +kernel
theorem all5tf : (allB 3).all (fun bs => goodB (true :: true :: false :: bs)) = true := by decide +kernel
theorem all5tt : (allB 3).all (fun bs => goodB (true :: true :: true :: bs)) = true := by decide +kernel
theorem all6fff : (allB 3).all (fun bs => goodB (true :: false :: false :: false :: bs)) = true := by decide +kernel
theorem all6fft : (allB 3).all (fun bs => goodB (true :: false :: false :: true :: bs)) = true := by decide +kernel
theorem all6ftf : (allB 3).all (fun bs => goodB (true :: false :: true :: false :: bs)) = true := by decide +kernel
theorem all6ftt : (allB 3).all (fun bs => goodB (true :: false :: true :: true :: bs)) = true := by decide +kernel
theorem all6tff : (allB 3).all (fun bs => goodB (true :: true :: false :: false :: bs)) = true := by decide +kernel
theorem all6tft : (allB 3).all (fun bs => goodB (true :: true :: false :: true :: bs)) = true := by decide +kernel
theorem all6ttf : (allB 3).all (fun bs => goodB (true :: true :: true :: false :: bs)) = true := by decide +kernel
theorem all6ttt : (allB 3).all (fun bs => goodB (true :: true :: true :: true :: bs)) = true := by decide +kernel
theorem goodB_all (bs : List Bool) (h : bs.length ≤ 6) : goodB (true :: bs) = true := by
  have key : ∀ k, bs.length = k → (allB k).all (fun bs => goodB (true :: bs)) = true → goodB (true :: bs) = true := fun k hk ha => List.all_eq_true.mp ha bs (hk ▸ mem_allB bs)
  have : bs.length = 0 ∨ bs.length = 1 ∨ bs.length = 2 ∨ bs.length = 3 ∨ bs.length = 4 ∨ bs.length = 5 ∨ bs.length = 6 := by omega
  rcases this with e | e | e | e | e | e | e
  · exact key 0 e all0
  · exact key 1 e all1
  · exact key 2 e all2
  · exact key 3 e all3
  · match bs, e with
    | a :: r, e =>
      have hr : r.length = 3 := by simpa using e
      have hm : r ∈ allB 3 := hr ▸ mem_allB r
      cases a
      · exact List.all_eq_true.mp all4f r hm
      · exact List.all_eq_true.mp all4t r hm
  · match bs, e with
    | a :: b :: r, e =>
      have hr : r.length = 3 := by simpa using e
      have hm : r ∈ allB 3 := hr ▸ mem_allB r
      cases a <;> cases b
      · exact List.all_eq_true.mp all5ff r hm
      · exact List.all_eq_true.mp all5ft r hm
      · exact List.all_eq_true.mp all5tf r hm
      · exact List.all_eq_true.mp all5tt r hm
  · match bs, e with
    | a :: b :: c :: r, e =>
      have hr : r.length = 3 := by simpa using e
      have hm : r ∈ allB 3 := hr ▸ mem_allB r
      cases a <;> cases b <;> cases c
      · exact List.all_eq_true.mp all6fff r hm
      · exact List.all_eq_true.mp all6fft r hm
      · exact List.all_eq_true.mp all6ftf r hm
      · exact List.all_eq_true.mp all6ftt r hm
      · exact List.all_eq_true.mp all6tff r hm
      · exact List.all_eq_true.mp all6tft r hm
      · exact List.all_eq_true.mp all6ttf r hm
      · exact List.all_eq_true.mp all6ttt r hm

theorem good_of {cs : List Bool} (hz : cs.length ≤ 7) (h : goodB cs = true) : Good cs := by
  unfold goodB at h
  split at h
  · rename_i T hT
    split at h
    · rename_i w hw
      split at h
      · rename_i y hy
        simp only [Bool.and_eq_true] at h
        obtain ⟨hseq, hlast, hruns, hdens⟩ := h
        have hRl := rowsOf_len cs
        refine ⟨T, w, y, hT, hw, ⟨hz, hRl, fun r hr => ?_, ?_, ?_, fun h1 => ?_⟩, ?_⟩
        · obtain ⟨k, _, rfl⟩ := List.mem_map.mp hr
          have : (rowUp cs k cs.length).length ≤ (List.range cs.length).length := List.length_filter_le _ _
          rw [List.length_range] at this
          omega
        · unfold lastOk at hlast
          split at hlast
          · rename_i la hla
            simp only [Bool.and_eq_true, decide_eq_true_eq] at hlast
            obtain ⟨q1, q2, q3⟩ := hlast
            refine ⟨la, List.mem_of_getLast? hla, fun k hk => of_decide_eq_true (List.all_eq_true.mp q1 k hk), fun s hs => ?_⟩
            have q := List.all_eq_true.mp q3 s (List.mem_range.mpr (by omega))
            obtain ⟨st, e1, e2⟩ := tab_at (i := (rowsOf cs).length) hT s (by rw [hRl]; omega)
            unfold stepsOk at q
            rw [e2] at q
            split at q
            · rename_i st' q' e3 e4
              cases e3
              have := of_decide_eq_true q
              exact ⟨st, e1, by rw [e4, this]⟩
            · cases q
          · cases hlast
        · unfold runsOk at hruns
          split at hruns
          · rename_i ra rx hr
            simp only [Bool.and_eq_true, decide_eq_true_eq] at hruns
            exact ⟨ra, rx, hr, hruns.1, hruns.2⟩
          · cases hruns
        · rw [decide_eq_false (by omega), Bool.false_or] at hdens
          unfold densOk at hdens
          split at hdens
          · rename_i x hx
            simp only [Bool.and_eq_true] at hdens
            exact ⟨x, hx, hdens.1, hdens.2.1, isT_ok hdens.2.2⟩
          · cases hdens
        · simp only [seqsOk, Bool.and_eq_true, decide_eq_true_eq] at hseq
          obtain ⟨s1, s2, s3, s4⟩ := hseq
          refine ⟨hy, s1, s2, fun k x q hx hq => ?_, fun h2 => ?_⟩
          · have hk : k < cs.length := s1 ▸ (List.getElem?_eq_some_iff.mp hx).1
            have z := List.all_eq_true.mp s3 k (List.mem_range.mpr hk)
            unfold betOk at z
            rw [hx, hq] at z
            exact isT_ok z
          · rw [decide_eq_false (by omega), Bool.false_or] at s4
            simp only [Bool.and_eq_true] at s4
            obtain ⟨t1, t2, t3, t4⟩ := s4
            refine ⟨t1, t2, t3, fun k x q hx hq => ?_⟩
            have hk : k < cs.length := s1 ▸ (List.getElem?_eq_some_iff.mp hx).1
            have z := List.all_eq_true.mp t4 k (List.mem_range.mpr hk)
            unfold betOk2 at z
            rw [hx, hq] at z
            exact isT_ok z
      · cases h
    · cases h
  · cases h
theorem good_all (bs : List Bool) (h : bs.length ≤ 6) : Good (true :: bs) := good_of (by simp; omega) (goodB_all bs h)


end

/-! ## part 36 -/
section
local macro_rules | `(tactic| walk_at "lk1") => `(tactic| first | with_reducible assumption | with_reducible exact upd_same | ((with_reducible refine (upd_ne (by decide)).trans ?_); walk_at "lk1") | ((with_reducible refine (freeLoc_eq (by with_unfolding_all rfl)).trans ?_); walk_at "lk1"))
local macro_rules | `(tactic| walk_at "lk") => `(tactic| ((try dsimp only); walk_at "lk1"))
local macro_rules | `(tactic| walk_at "d") => `(tactic| try dsimp only [thenX, turnX, locOf])
local macro_rules | `(tactic| walk_at "st1") => `(tactic| (first
  | with_reducible refine AX.cons ?_
  | with_reducible refine AX.nil ?_
  | (with_reducible (show AE _ _ _ _); first | with_reducible refine AE.name (by walk_at "lk") ?_ (by with_unfolding_all rfl) (by decide) | with_reducible refine AE.cell (by walk_at "lk") ?_ (by with_unfolding_all rfl) (by first | with_unfolding_all rfl | with_unfolding_all exact looked (by assumption) (Or.inl rfl) | with_unfolding_all exact looked (by assumption) (Or.inr rfl)) (by decide) | with_reducible refine AE.int ?_ | with_reducible refine AE.flt ?_ | with_reducible refine AE.str ?_ | with_reducible refine AE.bool ?_ | with_reducible refine AE.binop ?_ | with_reducible refine AE.sliceAll ?_ (by intro _ _; with_unfolding_all rfl) | with_reducible refine AE.item ?_ | with_reducible refine AE.cmp ?_ (by with_unfolding_all rfl) | with_reducible refine AE.neg ?_ | with_reducible refine AE.cLen (by with_unfolding_all rfl) ?_ (by with_unfolding_all rfl) (by with_unfolding_all rfl) | with_reducible refine AE.cSum (by with_unfolding_all rfl) ?_ (by with_unfolding_all rfl) (by with_unfolding_all rfl) | with_reducible refine AE.cAbs (by with_unfolding_all rfl) ?_ (by with_unfolding_all rfl) (by with_unfolding_all rfl) | with_reducible refine AE.cMax (by with_unfolding_all rfl) ?_ (by with_unfolding_all rfl) (by with_unfolding_all rfl) | with_reducible refine AE.cFloat (by with_unfolding_all rfl) ?_ (by with_unfolding_all rfl) (by with_unfolding_all rfl) | with_reducible refine AE.cList (by with_unfolding_all rfl) ?_ (by with_unfolding_all rfl) (by with_unfolding_all rfl) | with_reducible refine AE.iStr (by with_unfolding_all rfl) (by with_unfolding_all rfl) ?_ (by with_unfolding_all rfl) (by with_unfolding_all rfl) | with_reducible refine AE.iTup (by with_unfolding_all rfl) (by with_unfolding_all rfl) ?_ (by with_unfolding_all rfl) (by with_unfolding_all rfl) | with_reducible refine AE.iInt (by with_unfolding_all rfl) (by with_unfolding_all rfl) ?_ (by with_unfolding_all rfl) (by with_unfolding_all rfl) | with_reducible refine AE.iList (by with_unfolding_all rfl) (by with_unfolding_all rfl) ?_ (by with_unfolding_all rfl) (by with_unfolding_all rfl) | with_reducible refine AE.mCount ?_ (by with_unfolding_all rfl) (by with_unfolding_all rfl) (by with_unfolding_all rfl) (by with_unfolding_all rfl) (by with_unfolding_all rfl) | with_reducible refine AE.mAppend ?_ (by with_unfolding_all rfl) (by with_unfolding_all rfl) (by with_unfolding_all rfl) (by with_unfolding_all rfl) (by with_unfolding_all rfl) | with_reducible refine AE.mExtend ?_ (by with_unfolding_all rfl) (by with_unfolding_all rfl) (by with_unfolding_all rfl) (by with_unfolding_all rfl) (by with_unfolding_all rfl) | with_reducible refine AE.mPop ?_ (by with_unfolding_all rfl) (by with_unfolding_all rfl) (by with_unfolding_all rfl) (by with_unfolding_all rfl) (by with_unfolding_all rfl) | with_reducible refine AE.mIndex ?_ (by with_unfolding_all rfl) (by with_unfolding_all rfl) (by with_unfolding_all rfl) (by with_unfolding_all rfl) (by with_unfolding_all rfl) | with_reducible refine AE.join ?_ (by with_unfolding_all rfl) (by with_unfolding_all rfl) (by with_unfolding_all rfl) (by with_unfolding_all rfl) (by with_unfolding_all rfl) | with_reducible refine AE.ifexp ?_)
  | (with_reducible (show AN _ _ _ _ _); first | with_reducible refine AN.loc ?_ (by with_unfolding_all rfl) (by with_unfolding_all rfl) | with_reducible refine AN.cell ?_ (by with_unfolding_all rfl) (by with_unfolding_all rfl))
  | (with_reducible (show AEs _ _ _ _); first | with_reducible refine AEs.cons ?_ (by with_unfolding_all rfl) | with_reducible refine AEs.nil ?_)
  | (with_reducible (show AT _ _ _ _); first | with_reducible refine AT.cmp ?_ (by with_unfolding_all rfl) | with_reducible refine AT.not ?_ | with_reducible refine AT.andNil ?_ | with_reducible refine AT.and ?_ | with_reducible refine AT.orNil ?_ | with_reducible refine AT.or ?_ | with_reducible refine AT.val ?_ (by with_unfolding_all rfl))
  | (with_reducible (show AV _ _ _ _ _); first | with_reducible refine AV.isiStr_str ?_ | with_reducible refine AV.isiInt_str ?_ | with_reducible refine AV.isiInt_tuple ?_ | with_reducible refine AV.isiInt_int ?_ | with_reducible refine AV.isiStr_list ?_ | with_reducible refine AV.absF ?_ | with_reducible refine AV.floatF ?_ | with_reducible refine AV.fadd ?_ | with_reducible refine AV.fmul ?_ | with_reducible refine AV.ltFI ?_ | with_reducible refine AV.add ?_ | with_reducible refine AV.sub ?_ | with_reducible refine AV.eqI ?_ | with_reducible refine AV.neI ?_ | with_reducible refine AV.ltI ?_ | with_reducible refine AV.gtI ?_ | with_reducible refine AV.eqD ?_ | with_reducible refine AV.eqS ?_ | with_reducible refine AV.iadd ?_ | with_reducible refine AV.isub ?_)
  | (with_reducible (show AG _ _ _ _ _); first | with_reducible refine AG.name ?_)
  | (with_reducible (show AS _ _ _ _); first | with_reducible refine AS.ret ?_ | with_reducible refine AS.ite ?_ | with_reducible refine AS.brk ?_ | with_reducible refine AS.assign ?_ (by with_unfolding_all rfl) | with_reducible refine AS.aug (by walk_at "lk") ?_ (by with_unfolding_all rfl) | with_reducible refine AS.expr ?_ (by with_unfolding_all rfl) (by with_unfolding_all rfl))
  | (with_reducible (show AB _ _ _ _); first | with_reducible refine AB.bool ?_)
  | with_reducible refine itT ?_
  | with_reducible refine itF ?_
  | with_reducible refine ATs_nil ?_
  | with_reducible refine ATs_one ?_
  | with_reducible refine ⟨_, rfl, ?_⟩))
local macro_rules | `(tactic| walk_at "st") => `(tactic| (walk_at "st1"; walk_at "d"))
local macro_rules | `(tactic| walk_at "go") => `(tactic| repeat (first
  | dsimp only [thenX, turnX, locOf]
  | with_reducible refine AX.cons ?_
  | with_reducible refine AX.nil ?_
  | (with_reducible (show AE _ _ _ _); first | with_reducible refine AE.name (by walk_at "lk") ?_ (by with_unfolding_all rfl) (by decide) | with_reducible refine AE.cell (by walk_at "lk") ?_ (by with_unfolding_all rfl) (by first | with_unfolding_all rfl | with_unfolding_all exact looked (by assumption) (Or.inl rfl) | with_unfolding_all exact looked (by assumption) (Or.inr rfl)) (by decide) | with_reducible refine AE.int ?_ | with_reducible refine AE.flt ?_ | with_reducible refine AE.str ?_ | with_reducible refine AE.bool ?_ | with_reducible refine AE.binop ?_ | with_reducible refine AE.sliceAll ?_ (by intro _ _; with_unfolding_all rfl) | with_reducible refine AE.item ?_ | with_reducible refine AE.cmp ?_ (by with_unfolding_all rfl) | with_reducible refine AE.neg ?_ | with_reducible refine AE.cLen (by with_unfolding_all rfl) ?_ (by with_unfolding_all rfl) (by with_unfolding_all rfl) | with_reducible refine AE.cSum (by with_unfolding_all rfl) ?_ (by with_unfolding_all rfl) (by with_unfolding_all rfl) | with_reducible refine AE.cAbs (by with_unfolding_all rfl) ?_ (by with_unfolding_all rfl) (by with_unfolding_all rfl) | with_reducible refine AE.cMax (by with_unfolding_all rfl) ?_ (by with_unfolding_all rfl) (by with_unfolding_all rfl) | with_reducible refine AE.cFloat (by with_unfolding_all rfl) ?_ (by with_unfolding_all rfl) (by with_unfolding_all rfl) | with_reducible refine AE.cList (by with_unfolding_all rfl) ?_ (by with_unfolding_all rfl) (by with_unfolding_all rfl) | with_reducible refine AE.iStr (by with_unfolding_all rfl) (by with_unfolding_all rfl) ?_ (by with_unfolding_all rfl) (by with_unfolding_all rfl) | with_reducible refine AE.iTup (by with_unfolding_all rfl) (by with_unfolding_all rfl) ?_ (by with_unfolding_all rfl) (by with_unfolding_all rfl) | with_reducible refine AE.iInt (by with_unfolding_all rfl) (by with_unfolding_all rfl) ?_ (by with_unfolding_all rfl) (by with_unfolding_all rfl) | with_reducible refine AE.iList (by with_unfolding_all rfl) (by with_unfolding_all rfl) ?_ (by with_unfolding_all rfl) (by with_unfolding_all rfl) | with_reducible refine AE.mCount ?_ (by with_unfolding_all rfl) (by with_unfolding_all rfl) (by with_unfolding_all rfl) (by with_unfolding_all rfl) (by with_unfolding_all rfl) | with_reducible refine AE.mAppend ?_ (by with_unfolding_all rfl) (by with_unfolding_all rfl) (by with_unfolding_all rfl) (by with_unfolding_all rfl) (by with_unfolding_all rfl) | with_reducible refine AE.mExtend ?_ (by with_unfolding_all rfl) (by with_unfolding_all rfl) (by with_unfolding_all rfl) (by with_unfolding_all rfl) (by with_unfolding_all rfl) | with_reducible refine AE.mPop ?_ (by with_unfolding_all rfl) (by with_unfolding_all rfl) (by with_unfolding_all rfl) (by with_unfolding_all rfl) (by with_unfolding_all rfl) | with_reducible refine AE.mIndex ?_ (by with_unfolding_all rfl) (by with_unfolding_all rfl) (by with_unfolding_all rfl) (by with_unfolding_all rfl) (by with_unfolding_all rfl) | with_reducible refine AE.join ?_ (by with_unfolding_all rfl) (by with_unfolding_all rfl) (by with_unfolding_all rfl) (by with_unfolding_all rfl) (by with_unfolding_all rfl) | with_reducible refine AE.ifexp ?_)
  | (with_reducible (show AN _ _ _ _ _); first | with_reducible refine AN.loc ?_ (by with_unfolding_all rfl) (by with_unfolding_all rfl) | with_reducible refine AN.cell ?_ (by with_unfolding_all rfl) (by with_unfolding_all rfl))
  | (with_reducible (show AEs _ _ _ _); first | with_reducible refine AEs.cons ?_ (by with_unfolding_all rfl) | with_reducible refine AEs.nil ?_)
  | (with_reducible (show AT _ _ _ _); first | with_reducible refine AT.cmp ?_ (by with_unfolding_all rfl) | with_reducible refine AT.not ?_ | with_reducible refine AT.andNil ?_ | with_reducible refine AT.and ?_ | with_reducible refine AT.orNil ?_ | with_reducible refine AT.or ?_ | with_reducible refine AT.val ?_ (by with_unfolding_all rfl))
  | (with_reducible (show AV _ _ _ _ _); first | with_reducible refine AV.isiStr_str ?_ | with_reducible refine AV.isiInt_str ?_ | with_reducible refine AV.isiInt_tuple ?_ | with_reducible refine AV.isiInt_int ?_ | with_reducible refine AV.isiStr_list ?_ | with_reducible refine AV.absF ?_ | with_reducible refine AV.floatF ?_ | with_reducible refine AV.fadd ?_ | with_reducible refine AV.fmul ?_ | with_reducible refine AV.ltFI ?_ | with_reducible refine AV.add ?_ | with_reducible refine AV.sub ?_ | with_reducible refine AV.eqI ?_ | with_reducible refine AV.neI ?_ | with_reducible refine AV.ltI ?_ | with_reducible refine AV.gtI ?_ | with_reducible refine AV.eqD ?_ | with_reducible refine AV.eqS ?_ | with_reducible refine AV.iadd ?_ | with_reducible refine AV.isub ?_)
  | (with_reducible (show AG _ _ _ _ _); first | with_reducible refine AG.name ?_)
  | (with_reducible (show AS _ _ _ _); first | with_reducible refine AS.ret ?_ | with_reducible refine AS.ite ?_ | with_reducible refine AS.brk ?_ | with_reducible refine AS.assign ?_ (by with_unfolding_all rfl) | with_reducible refine AS.aug (by walk_at "lk") ?_ (by with_unfolding_all rfl) | with_reducible refine AS.expr ?_ (by with_unfolding_all rfl) (by with_unfolding_all rfl))
  | (with_reducible (show AB _ _ _ _); first | with_reducible refine AB.bool ?_)
  | with_reducible refine itT ?_
  | with_reducible refine itF ?_
  | with_reducible refine ATs_nil ?_
  | with_reducible refine ATs_one ?_
  | with_reducible refine ⟨_, rfl, ?_⟩))
local macro_rules | `(tactic| walk_at "stop") => `(tactic| (walk_at "d"; refine AN.loc ?_ (by with_unfolding_all rfl) (by with_unfolding_all rfl); walk_at "d"; repeat (with_reducible refine AX.nil ?_; walk_at "d")))
theorem cells_pair : ∀ (names : List (Str × NameKind)) (n : Nat) (acc : List (Str × Addr)), (acc.Pairwise fun x y => x.2 ≠ y.2) → (∀ x ∈ acc, x.2 < n) → (cellsFrom n names acc).Pairwise fun x y => x.2 ≠ y.2
  | [], _, _, h, _ => h
  | (y, k) :: r, n, acc, h, hl => by
    unfold cellsFrom
    split
    · refine cells_pair r (n + 1) _ (List.pairwise_cons.mpr ⟨fun x hx e => ?_, h⟩) fun x hx => ?_
      · have e' : n = x.2 := e
        have := hl x hx
        rw [← e'] at this
        exact Nat.lt_irrefl _ this
      · rcases List.mem_cons.mp hx with rfl | hx
        · exact Nat.lt_succ_self _
        · exact Nat.lt_succ_of_lt (hl x hx)
    · exact cells_pair r n acc h hl
theorem ints_vrs {ρ : List Addr} {us : List Value} {ns : List Int} (h : IntsAre us ns) : VRs ρ (ns.map V.int) us := by
  induction h with
  | nil => exact .nil
  | cons n t _ ih => exact .cons (.int _ _) ih

theorem lawCore {prog : Program} {w : World} {A : Around} {E : Value → Shared → Prop} {g h₁ : Heap} {s : Shared} {L fa a : Addr} {cdv : Value} {m cm : Str → Option Value} {cells : List (Addr × Obj)} {vals : List Int} {us : List Value} {Q : Flow → Shared → Prop}
    (gl : Gl g fns) (hA : A.handled = none) (hd : A.depth + 2 < recursionLimit) (hu : A.units + 300 < cLine) (hL : g.objs.size ≤ L)
    (ha : g.get? a = some { cls := .type "list", data := .seq us.toArray }) (hI : IntsAre us vals) (hv : vals.length ≤ 63)
    (F : Fr g L h₁ m) (hm : m (Str.ofString "script") = some (.ref a)) (N : News g L h₁ cells) (X : CellsAre cm (cellsFrom (L + 1) fL.scope.names []) cells) (hs : s.heap = h₁)
    (K : ∀ h' tk m', Fr g L h' m' → Q (.ret (.bool true)) { s with heap := h', toks := tk }) :
    wpAny (model prog w) A (execs fL.body (envOfC fL.name fL.scope L fa cdv)) Q E s := by
  have fresh : ∀ c, L ≤ c → g.get? c = none := fun c hc => Heap.get?_none_of_le (Nat.le_trans hL hc)
  have ab : ∀ n c, (n, c) ∈ cellsFrom (L + 1) fL.scope.names [] → L < c := fun n c hc => by
    rcases cellsFrom_mem _ _ _ _ _ hc with q | ⟨q, _⟩
    · cases q
    · exact q
  have ap : (cellsFrom (L + 1) fL.scope.names []).Pairwise fun x y => x.2 ≠ y.2 := cells_pair _ _ _ .nil (fun x hx => by cases hx)
  have C := Cl.of_news (own := []) N X ap ab
  have ok : (Fm.fn g prog w A fL L fa cdv 1 2 fns).OK := by
    refine ⟨⟨rfl, rfl, rfl, fresh _ (Nat.le_refl _), fun x c e => fresh _ (Nat.le_of_lt (ab x c (mem_of_lookup e))), fun x y c e1 e2 => name_of_addr ap (mem_of_lookup e1) (mem_of_lookup e2)⟩, gl, hA, hd, ?_⟩
    show A.units + 100 * 2 + 100 < _
    omega
  have only : ∀ x v, locOf [(Str.ofString "script", V.ref 0)] (fun _ => none) x = some v → x = Str.ofString "script" ∧ v = .ref 0 := fun x v e => by
    have e : upd (fun _ => none) (Str.ofString "script") (V.ref 0) x = some v := e
    unfold upd at e
    split at e
    · cases e; exact ⟨by assumption, rfl⟩
    · cases e
  have I : Inv g (envOfC fL.name fL.scope L fa cdv) [a] 1 ⟨locOf [(Str.ofString "script", .ref 0)] fun _ => none, [rowV vals]⟩ h₁ := by
    refine ⟨F.keep, ⟨m, F.ns, fun x v e _ => ?_⟩, fun x c e => ⟨_, C.cell x c e, fun v ev => ?_⟩, fun i o e => ?_, rfl, fun i j b e1 e2 => ?_, fun i b hi e => ?_⟩
    · obtain ⟨rfl, rfl⟩ := only x v e
      exact ⟨_, hm, .ref rfl⟩
    · obtain ⟨rfl, rfl⟩ := only x v ev
      rcases cellsFrom_mem _ _ _ _ _ (mem_of_lookup e) with q | ⟨_, q⟩
      · cases q
      · exact absurd q (by decide +kernel)
    · cases i with
      | zero =>
        cases e
        exact ⟨a, rfl, us, _, F.keep _ _ ha, ints_vrs hI⟩
      | succ i => cases e
    · cases i with
      | zero =>
        cases j with
        | zero => rfl
        | succ j => cases e2
      | succ i => cases e1
    · cases i with
      | zero => omega
      | succ i => cases e
  subst hs
  refine wpAny_mono (segA (n := 2) (Nat.le_refl _) hv good_all [a] s _ ok I fun f σ' ρ' fl h' tk hp hf I' E' => ?_) (fun _ _ y => y) (fun _ _ f => f.elim)
  subst hp
  cases hf with | ret hv' =>
  cases hv'
  obtain ⟨m', hn, _⟩ := I'.ns
  exact K h' tk m' ⟨hn, I'.keep, hL⟩

theorem well_list {P : Params} {h : Heap} {v : Value} {xs : List WData} (x : Well P h v (.list xs)) : ∃ a us, v = .ref a ∧ h.get? a = some { cls := .type "list", data := .seq us.toArray } ∧ WellAll P h us xs := by
  cases x with | list h1 h2 => exact ⟨_, _, rfl, h1, h2⟩
theorem well_ints {P : Params} {h : Heap} : ∀ (ns : List Int) (us : List Value), WellAll P h us (ofPys (ns.map PyData.int)) → IntsAre us ns
  | [], us, x => by
    cases x; exact .nil
  | n :: ns, us, x => by
    cases x with | cons h1 h2 =>
    have h1 : Well P h _ (.int n) := h1
    cases h1
    exact .cons n _ (well_ints ns _ h2)


end

/-! ## part 37 -/
section
local macro_rules | `(tactic| walk_at "lk1") => `(tactic| first | with_reducible assumption | with_reducible exact upd_same | ((with_reducible refine (upd_ne (by decide)).trans ?_); walk_at "lk1") | ((with_reducible refine (freeLoc_eq (by with_unfolding_all rfl)).trans ?_); walk_at "lk1"))
local macro_rules | `(tactic| walk_at "lk") => `(tactic| ((try dsimp only); walk_at "lk1"))
local macro_rules | `(tactic| walk_at "d") => `(tactic| try dsimp only [thenX, turnX, locOf])
local macro_rules | `(tactic| walk_at "st1") => `(tactic| (first
  | with_reducible refine AX.cons ?_
  | with_reducible refine AX.nil ?_
  | (with_reducible (show AE _ _ _ _); first | with_reducible refine AE.name (by walk_at "lk") ?_ (by with_unfolding_all rfl) (by decide) | with_reducible refine AE.cell (by walk_at "lk") ?_ (by with_unfolding_all rfl) (by first | with_unfolding_all rfl | with_unfolding_all exact looked (by assumption) (Or.inl rfl) | with_unfolding_all exact looked (by assumption) (Or.inr rfl)) (by decide) | with_reducible refine AE.int ?_ | with_reducible refine AE.flt ?_ | with_reducible refine AE.str ?_ | with_reducible refine AE.bool ?_ | with_reducible refine AE.binop ?_ | with_reducible refine AE.sliceAll ?_ (by intro _ _; with_unfolding_all rfl) | with_reducible refine AE.item ?_ | with_reducible refine AE.cmp ?_ (by with_unfolding_all rfl) | with_reducible refine AE.neg ?_ | with_reducible refine AE.cLen (by with_unfolding_all rfl) ?_ (by with_unfolding_all rfl) (by with_unfolding_all rfl) | with_reducible refine AE.cSum (by with_unfolding_all rfl) ?_ (by with_unfolding_all rfl) (by with_unfolding_all rfl) | with_reducible refine AE.cAbs (by with_unfolding_all rfl) ?_ (by with_unfolding_all rfl) (by with_unfolding_all rfl) | with_reducible refine AE.cMax (by with_unfolding_all rfl) ?_ (by with_unfolding_all rfl) (by with_unfolding_all rfl) | with_reducible refine AE.cFloat (by with_unfolding_all rfl) ?_ (by with_unfolding_all rfl) (by with_unfolding_all rfl) | with_reducible refine AE.cList (by with_unfolding_all rfl) ?_ (by with_unfolding_all rfl) (by with_unfolding_all rfl) | with_reducible refine AE.iStr (by with_unfolding_all rfl) (by with_unfolding_all rfl) ?_ (by with_unfolding_all rfl) (by with_unfolding_all rfl) | with_reducible refine AE.iTup (by with_unfolding_all rfl) (by with_unfolding_all rfl) ?_ (by with_unfolding_all rfl) (by with_unfolding_all rfl) | with_reducible refine AE.iInt (by with_unfolding_all rfl) (by with_unfolding_all rfl) ?_ (by with_unfolding_all rfl) (by with_unfolding_all rfl) | with_reducible refine AE.iList (by with_unfolding_all rfl) (by with_unfolding_all rfl) ?_ (by with_unfolding_all rfl) (by with_unfolding_all rfl) | with_reducible refine AE.mCount ?_ (by with_unfolding_all rfl) (by with_unfolding_all rfl) (by with_unfolding_all rfl) (by with_unfolding_all rfl) (by with_unfolding_all rfl) | with_reducible refine AE.mAppend ?_ (by with_unfolding_all rfl) (by with_unfolding_all rfl) (by with_unfolding_all rfl) (by with_unfolding_all rfl) (by with_unfolding_all rfl) | with_reducible refine AE.mExtend ?_ (by with_unfolding_all rfl) (by with_unfolding_all rfl) (by with_unfolding_all rfl) (by with_unfolding_all rfl) (by with_unfolding_all rfl) | with_reducible refine AE.mPop ?_ (by with_unfolding_all rfl) (by with_unfolding_all rfl) (by with_unfolding_all rfl) (by with_unfolding_all rfl) (by with_unfolding_all rfl) | with_reducible refine AE.mIndex ?_ (by with_unfolding_all rfl) (by with_unfolding_all rfl) (by with_unfolding_all rfl) (by with_unfolding_all rfl) (by with_unfolding_all rfl) | with_reducible refine AE.join ?_ (by with_unfolding_all rfl) (by with_unfolding_all rfl) (by with_unfolding_all rfl) (by with_unfolding_all rfl) (by with_unfolding_all rfl) | with_reducible refine AE.ifexp ?_)
  | (with_reducible (show AN _ _ _ _ _); first | with_reducible refine AN.loc ?_ (by with_unfolding_all rfl) (by with_unfolding_all rfl) | with_reducible refine AN.cell ?_ (by with_unfolding_all rfl) (by with_unfolding_all rfl))
  | (with_reducible (show AEs _ _ _ _); first | with_reducible refine AEs.cons ?_ (by with_unfolding_all rfl) | with_reducible refine AEs.nil ?_)
  | (with_reducible (show AT _ _ _ _); first | with_reducible refine AT.cmp ?_ (by with_unfolding_all rfl) | with_reducible refine AT.not ?_ | with_reducible refine AT.andNil ?_ | with_reducible refine AT.and ?_ | with_reducible refine AT.orNil ?_ | with_reducible refine AT.or ?_ | with_reducible refine AT.val ?_ (by with_unfolding_all rfl))
  | (with_reducible (show AV _ _ _ _ _); first | with_reducible refine AV.isiStr_str ?_ | with_reducible refine AV.isiInt_str ?_ | with_reducible refine AV.isiInt_tuple ?_ | with_reducible refine AV.isiInt_int ?_ | with_reducible refine AV.isiStr_list ?_ | with_reducible refine AV.absF ?_ | with_reducible refine AV.floatF ?_ | with_reducible refine AV.fadd ?_ | with_reducible refine AV.fmul ?_ | with_reducible refine AV.ltFI ?_ | with_reducible refine AV.add ?_ | with_reducible refine AV.sub ?_ | with_reducible refine AV.eqI ?_ | with_reducible refine AV.neI ?_ | with_reducible refine AV.ltI ?_ | with_reducible refine AV.gtI ?_ | with_reducible refine AV.eqD ?_ | with_reducible refine AV.eqS ?_ | with_reducible refine AV.iadd ?_ | with_reducible refine AV.isub ?_)
  | (with_reducible (show AG _ _ _ _ _); first | with_reducible refine AG.name ?_)
  | (with_reducible (show AS _ _ _ _); first | with_reducible refine AS.ret ?_ | with_reducible refine AS.ite ?_ | with_reducible refine AS.brk ?_ | with_reducible refine AS.assign ?_ (by with_unfolding_all rfl) | with_reducible refine AS.aug (by walk_at "lk") ?_ (by with_unfolding_all rfl) | with_reducible refine AS.expr ?_ (by with_unfolding_all rfl) (by with_unfolding_all rfl))
  | (with_reducible (show AB _ _ _ _); first | with_reducible refine AB.bool ?_)
  | with_reducible refine itT ?_
  | with_reducible refine itF ?_
  | with_reducible refine ATs_nil ?_
  | with_reducible refine ATs_one ?_
  | with_reducible refine ⟨_, rfl, ?_⟩))
local macro_rules | `(tactic| walk_at "st") => `(tactic| (walk_at "st1"; walk_at "d"))
local macro_rules | `(tactic| walk_at "go") => `(tactic| repeat (first
  | dsimp only [thenX, turnX, locOf]
  | with_reducible refine AX.cons ?_
  | with_reducible refine AX.nil ?_
  | (with_reducible (show AE _ _ _ _); first | with_reducible refine AE.name (by walk_at "lk") ?_ (by with_unfolding_all rfl) (by decide) | with_reducible refine AE.cell (by walk_at "lk") ?_ (by with_unfolding_all rfl) (by first | with_unfolding_all rfl | with_unfolding_all exact looked (by assumption) (Or.inl rfl) | with_unfolding_all exact looked (by assumption) (Or.inr rfl)) (by decide) | with_reducible refine AE.int ?_ | with_reducible refine AE.flt ?_ | with_reducible refine AE.str ?_ | with_reducible refine AE.bool ?_ | with_reducible refine AE.binop ?_ | with_reducible refine AE.sliceAll ?_ (by intro _ _; with_unfolding_all rfl) | with_reducible refine AE.item ?_ | with_reducible refine AE.cmp ?_ (by with_unfolding_all rfl) | with_reducible refine AE.neg ?_ | with_reducible refine AE.cLen (by with_unfolding_all rfl) ?_ (by with_unfolding_all rfl) (by with_unfolding_all rfl) | with_reducible refine AE.cSum (by with_unfolding_all rfl) ?_ (by with_unfolding_all rfl) (by with_unfolding_all rfl) | with_reducible refine AE.cAbs (by with_unfolding_all rfl) ?_ (by with_unfolding_all rfl) (by with_unfolding_all rfl) | with_reducible refine AE.cMax (by with_unfolding_all rfl) ?_ (by with_unfolding_all rfl) (by with_unfolding_all rfl) | with_reducible refine AE.cFloat (by with_unfolding_all rfl) ?_ (by with_unfolding_all rfl) (by with_unfolding_all rfl) | with_reducible refine AE.cList (by with_unfolding_all rfl) ?_ (by with_unfolding_all rfl) (by with_unfolding_all rfl) | with_reducible refine AE.iStr (by with_unfolding_all rfl) (by with_unfolding_all rfl) ?_ (by with_unfolding_all rfl) (by with_unfolding_all rfl) | with_reducible refine AE.iTup (by with_unfolding_all rfl) (by with_unfolding_all rfl) ?_ (by with_unfolding_all rfl) (by with_unfolding_all rfl) | with_reducible refine AE.iInt (by with_unfolding_all rfl) (by with_unfolding_all rfl) ?_ (by with_unfolding_all rfl) (by with_unfolding_all rfl) | with_reducible refine AE.iList (by with_unfolding_all rfl) (by with_unfolding_all rfl) ?_ (by with_unfolding_all rfl) (by with_unfolding_all rfl) | with_reducible refine AE.mCount ?_ (by with_unfolding_all rfl) (by with_unfolding_all rfl) (by with_unfolding_all rfl) (by with_unfolding_all rfl) (by with_unfolding_all rfl) | with_reducible refine AE.mAppend ?_ (by with_unfolding_all rfl) (by with_unfolding_all rfl) (by with_unfolding_all rfl) (by with_unfolding_all rfl) (by with_unfolding_all rfl) | with_reducible refine AE.mExtend ?_ (by with_unfolding_all rfl) (by with_unfolding_all rfl) (by with_unfolding_all rfl) (by with_unfolding_all rfl) (by with_unfolding_all rfl) | with_reducible refine AE.mPop ?_ (by with_unfolding_all rfl) (by with_unfolding_all rfl) (by with_unfolding_all rfl) (by with_unfolding_all rfl) (by with_unfolding_all rfl) | with_reducible refine AE.mIndex ?_ (by with_unfolding_all rfl) (by with_unfolding_all rfl) (by with_unfolding_all rfl) (by with_unfolding_all rfl) (by with_unfolding_all rfl) | with_reducible refine AE.join ?_ (by with_unfolding_all rfl) (by with_unfolding_all rfl) (by with_unfolding_all rfl) (by with_unfolding_all rfl) (by with_unfolding_all rfl) | with_reducible refine AE.ifexp ?_)
  | (with_reducible (show AN _ _ _ _ _); first | with_reducible refine AN.loc ?_ (by with_unfolding_all rfl) (by with_unfolding_all rfl) | with_reducible refine AN.cell ?_ (by with_unfolding_all rfl) (by with_unfolding_all rfl))
  | (with_reducible (show AEs _ _ _ _); first | with_reducible refine AEs.cons ?_ (by with_unfolding_all rfl) | with_reducible refine AEs.nil ?_)
  | (with_reducible (show AT _ _ _ _); first | with_reducible refine AT.cmp ?_ (by with_unfolding_all rfl) | with_reducible refine AT.not ?_ | with_reducible refine AT.andNil ?_ | with_reducible refine AT.and ?_ | with_reducible refine AT.orNil ?_ | with_reducible refine AT.or ?_ | with_reducible refine AT.val ?_ (by with_unfolding_all rfl))
  | (with_reducible (show AV _ _ _ _ _); first | with_reducible refine AV.isiStr_str ?_ | with_reducible refine AV.isiInt_str ?_ | with_reducible refine AV.isiInt_tuple ?_ | with_reducible refine AV.isiInt_int ?_ | with_reducible refine AV.isiStr_list ?_ | with_reducible refine AV.absF ?_ | with_reducible refine AV.floatF ?_ | with_reducible refine AV.fadd ?_ | with_reducible refine AV.fmul ?_ | with_reducible refine AV.ltFI ?_ | with_reducible refine AV.add ?_ | with_reducible refine AV.sub ?_ | with_reducible refine AV.eqI ?_ | with_reducible refine AV.neI ?_ | with_reducible refine AV.ltI ?_ | with_reducible refine AV.gtI ?_ | with_reducible refine AV.eqD ?_ | with_reducible refine AV.eqS ?_ | with_reducible refine AV.iadd ?_ | with_reducible refine AV.isub ?_)
  | (with_reducible (show AG _ _ _ _ _); first | with_reducible refine AG.name ?_)
  | (with_reducible (show AS _ _ _ _); first | with_reducible refine AS.ret ?_ | with_reducible refine AS.ite ?_ | with_reducible refine AS.brk ?_ | with_reducible refine AS.assign ?_ (by with_unfolding_all rfl) | with_reducible refine AS.aug (by walk_at "lk") ?_ (by with_unfolding_all rfl) | with_reducible refine AS.expr ?_ (by with_unfolding_all rfl) (by with_unfolding_all rfl))
  | (with_reducible (show AB _ _ _ _); first | with_reducible refine AB.bool ?_)
  | with_reducible refine itT ?_
  | with_reducible refine itF ?_
  | with_reducible refine ATs_nil ?_
  | with_reducible refine ATs_one ?_
  | with_reducible refine ⟨_, rfl, ?_⟩))
local macro_rules | `(tactic| walk_at "stop") => `(tactic| (walk_at "d"; refine AN.loc ?_ (by with_unfolding_all rfl) (by with_unfolding_all rfl); walk_at "d"; repeat (with_reducible refine AX.nil ?_; walk_at "d")))
theorem gl_of {K : Frag} {h : Heap} {mg mb : Str → Option Value} (X : K.In h) (G : h.Ns mainGlobals mg) (B : h.Ns builtinsNs mb) (hb : ∀ x : Str, x ≠ "__name__" → mb x = bootBuiltins x) (nl : h.NoLimit)
    (n1 : nsIn K mainGlobals (Str.ofString "len") = some none) (n2 : nsIn K mainGlobals (Str.ofString "range") = some none) (n3 : nsIn K mainGlobals (Str.ofString "enumerate") = some none)
    (n4 : nsIn K mainGlobals (Str.ofString "isinstance") = some none) (n5 : nsIn K mainGlobals (Str.ofString "str") = some none) (n6 : nsIn K mainGlobals (Str.ofString "tuple") = some none)
    (n7 : nsIn K mainGlobals (Str.ofString "int") = some none) (n8 : nsIn K mainGlobals (Str.ofString "list") = some none) (n9 : nsIn K mainGlobals (Str.ofString "sum") = some none)
    (n10 : nsIn K mainGlobals (Str.ofString "abs") = some none) (n11 : nsIn K mainGlobals (Str.ofString "float") = some none) (n12 : nsIn K mainGlobals (Str.ofString "max") = some none)
    (fs : ∀ f ∈ fns, ∃ a, mg f.name = some (.ref a) ∧ FnAt h a f) : Gl h fns := by
  refine ⟨⟨mg, mb, G, B, fun x hx => ?_, fs⟩, nl⟩
  have hm : mg (Str.ofString x) = none := by
    unfold biNames at hx
    simp only [List.mem_cons, List.not_mem_nil, or_false] at hx
    rcases hx with rfl | rfl | rfl | rfl | rfl | rfl | rfl | rfl | rfl | rfl | rfl | rfl <;> exact mg_none_of X G (by assumption)
  refine ⟨hm, hb _ ?_⟩
  unfold biNames at hx
  simp only [List.mem_cons, List.not_mem_nil, or_false] at hx
  rcases hx with rfl | rfl | rfl | rfl | rfl | rfl | rfl | rfl | rfl | rfl | rfl | rfl <;> decide
theorem fns_all {p : FnD → Prop} (h1 : p fU) (h2 : p fG) (h3 : p fD) (h4 : p fP) (h5 : p fB) (h6 : p fN) (h7 : p fR) (h8 : p fW) (h9 : p fX) (h10 : p fE) : ∀ f ∈ fns, p f := by
  intro f hf
  unfold fns at hf
  simp only [List.mem_cons, List.not_mem_nil, or_false] at hf
  rcases hf with rfl | rfl | rfl | rfl | rfl | rfl | rfl | rfl | rfl | rfl <;> assumption
theorem fnAt_of {K : Frag} {h : Heap} {mg : Str → Option Value} {f : FnD} {x : Str} {a : Addr} {oc : Value} {od : Option Addr} {osl : Array (Option Value)} {name qual : Str} {params : Arguments} {body : List Stmt} {scope : Scope} {dV doc pm cdv ct : Value} {an : Option Addr} (X : K.In h) (G : h.Ns mainGlobals mg)
    (e1 : nsIn K mainGlobals x = some (some (.ref a))) (e2 : K.lookup a = some ⟨oc, od, .func (fnOf name qual params body scope dV .none doc pm an cdv ct), osl⟩) (e3 : codeIn K cdv qual = true)
    (hn : f.name = x) (hn' : name = x) (hq : qual = x) (hp : params = f.params) (hb : body = f.body) (hs : scope = f.scope) (hd : DvOK h f.dflt dV) : ∃ a, mg f.name = some (.ref a) ∧ FnAt h a f := by
  subst hn' hq hp hb hs
  rw [hn]
  exact ⟨a, mg_of X G e1, _, dV, doc, pm, an, cdv, ct, X _ _ e2, by rw [hn], by rw [hn]; exact codeRec_of X e3, hd⟩
theorem post_true (xs : List Int) : PySem.Challenge.rw_aq6046_01.row.claim.post [ofPy (.list (xs.map .int))] (.bool true) [ofPy (.list (xs.map .int))] = true := by with_unfolding_all rfl


end

end Mine

set_option maxRecDepth 100000 in
set_option maxHeartbeats 8000000 in
theorem PySem.Challenge.cw_aq6046_01_holds : PySem.Challenge.rw_aq6046_01.Holds := by
  w_on
  o_law
  k_head
  case hw => w_witness2
  w_strict (
    k_go0
    rename Frag.In _ _ => KX
    rename Top _ _ _ _ _ _ => T
    rename Fr _ _ _ _ => F
    rename News _ _ _ _ => N
    rename CellsAre _ _ _ => X
    rename Well _ _ _ _ => W
    rename (¬ (_ : Int) < _) => hlen
    rename (Shared.gens _ = _) => hgens
    have gl : Mine.Gl _ Mine.fns := Mine.gl_of KX T.g T.b T.builtins T.nolimit (by k_is) (by k_is) (by k_is) (by k_is) (by k_is) (by k_is) (by k_is) (by k_is) (by k_is) (by k_is) (by k_is) (by k_is)
      (Mine.fns_all
        (Mine.fnAt_of (x := Str.ofString "uncompact") KX T.g (by k_is) (by k_is) (by k_is) rfl rfl rfl rfl rfl rfl rfl)
        (Mine.fnAt_of (x := Str.ofString "degree_sequence") KX T.g (by k_is) (by k_is) (by k_is) rfl rfl rfl rfl rfl rfl rfl)
        (Mine.fnAt_of (x := Str.ofString "density") KX T.g (by k_is) (by k_is) (by k_is) rfl rfl rfl rfl rfl rfl rfl)
        (Mine.fnAt_of (x := Str.ofString "shortest_path_length") KX T.g (by k_is) (by k_is) (by k_is) rfl rfl rfl rfl rfl rfl rfl)
        (Mine.fnAt_of (x := Str.ofString "betweenness_sequence") KX T.g (by k_is) (by k_is) (by k_is) rfl rfl rfl rfl rfl rfl ⟨_, _, _, rfl, KX _ _ (by k_is), rfl⟩)
        (Mine.fnAt_of (x := Str.ofString "_law_numbers") KX T.g (by k_is) (by k_is) (by k_is) rfl rfl rfl rfl rfl rfl rfl)
        (Mine.fnAt_of (x := Str.ofString "_law_runs") KX T.g (by k_is) (by k_is) (by k_is) rfl rfl rfl rfl rfl rfl rfl)
        (Mine.fnAt_of (x := Str.ofString "_law_from") KX T.g (by k_is) (by k_is) (by k_is) rfl rfl rfl rfl rfl rfl rfl)
        (Mine.fnAt_of (x := Str.ofString "_law_between") KX T.g (by k_is) (by k_is) (by k_is) rfl rfl rfl rfl rfl rfl rfl)
        (Mine.fnAt_of (x := Str.ofString "_law_near") KX T.g (by k_is) (by k_is) (by k_is) rfl rfl rfl rfl rfl rfl rfl))
    obtain ⟨a, us, ea, ha, hw⟩ := Mine.well_list W
    cases ea
    refine Mine.lawCore (vals := _) gl rfl (by rw [depth_deeper]; decide) (by rw [units_deeper]; decide) (Nat.le_refl _) ha (Mine.well_ints _ _ hw) (by omega) F rfl N X rfl fun h' tk m' F' => ?_
    exact goodW_bool F' hgens (fun _ => rfl) (Mine.post_true _))
