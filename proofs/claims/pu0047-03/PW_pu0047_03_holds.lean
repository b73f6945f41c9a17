import PyProof.Rows.All
import Wide.All
import OpenK.AllK
import Wide.FinOn
import PyProof.StrLawsChain
import KE.KLam
import PySem.Challenge.RW_pu0047_03
set_option Elab.async false
set_option autoImplicit false
namespace Mine
open PySem

/-- abstract values: deep data, or an object of the abstract heap -/
inductive V where
  | d (x : PyData)
  | r (i : Nat)
  | rng (a b c : Int)
  | g (v : Value)
/-- abstract objects -/
inductive O where
  | lst (l : List PyData)
  | inst (c : Addr) (fs : List (Nat × V))
  | stream (l : List Nat)
  | citer (o : Option Nat)

/-- what stands fixed while the law runs -/
structure KX where
  prog : Program
  w : World
  h0 : Heap
  tb : Addr
  tc : Addr
  ok : Array Value → Prop
  attrs : List Str
  readChar : Addr   -- the address of _netrclex._read_char
  streamFn : FuncData
  readFd : FuncData

/-- the places of an abstract object: its address, what of it is written, what else it stands on -/
structure P where
  a : Addr
  m : Addr
  f : List Addr
noncomputable abbrev Rho := List P
noncomputable abbrev mu (ρ : Rho) : List Addr := ρ.map (·.m)

noncomputable abbrev IsT (h : Heap) (l : Addr) (items : Array Value) (n : Nat) : Prop := h.get? l = some { cls := .type "tuple", dict := none, data := .seq items n, slots := #[] }
mutual
inductive DR (h : Heap) (μ : List Addr) : Value → PyData → Prop
  | none : DR h μ .none .none
  | bool (b : Bool) : DR h μ (.bool b) (.bool b)
  | int (i : Int) (t : Tok) : DR h μ (.int i t) (.int i)
  | str (x : Str) (t : Tok) : DR h μ (.str x t) (.str x)
  | list {a : Addr} {vs : Array Value} {n : Nat} {xs : List PyData} : IsL h a vs n → a ∉ μ → DRs h μ vs.toList xs → DR h μ (.ref a) (.list xs)
  | tuple {a : Addr} {vs : Array Value} {n : Nat} {xs : List PyData} : IsT h a vs n → a ∉ μ → DRs h μ vs.toList xs → DR h μ (.ref a) (.tuple xs)
inductive DRs (h : Heap) (μ : List Addr) : List Value → List PyData → Prop
  | nil : DRs h μ [] []
  | cons {v : Value} {vs : List Value} {x : PyData} {xs : List PyData} : DR h μ v x → DRs h μ vs xs → DRs h μ (v :: vs) (x :: xs)
end

mutual
theorem DR.mono {h h' : Heap} {μ μ' : List Addr} (hk : ∀ a o vs n, h.get? a = some o → o.data = .seq vs n → a ∉ μ → h'.get? a = some o ∧ a ∉ μ') : ∀ {v : Value} {x : PyData}, DR h μ v x → DR h' μ' v x
  | _, _, .none => .none
  | _, _, .bool b => .bool b
  | _, _, .int i t => .int i t
  | _, _, .str x t => .str x t
  | _, _, .list h1 h4 h5 => .list (hk _ _ _ _ h1 rfl h4).1 (hk _ _ _ _ h1 rfl h4).2 (DRs.mono hk h5)
  | _, _, .tuple h1 h4 h5 => .tuple (hk _ _ _ _ h1 rfl h4).1 (hk _ _ _ _ h1 rfl h4).2 (DRs.mono hk h5)
theorem DRs.mono {h h' : Heap} {μ μ' : List Addr} (hk : ∀ a o vs n, h.get? a = some o → o.data = .seq vs n → a ∉ μ → h'.get? a = some o ∧ a ∉ μ') : ∀ {vs : List Value} {xs : List PyData}, DRs h μ vs xs → DRs h' μ' vs xs
  | _, _, .nil => .nil
  | _, _, .cons h r => .cons (DR.mono hk h) (DRs.mono hk r)
end
mutual
theorem DR.reads {h : Heap} {μ : List Addr} : ∀ {v : Value} {x : PyData}, DR h μ v x → ∃ as, Reads h v x as
  | _, _, .none => ⟨_, .none⟩
  | _, _, .bool b => ⟨_, .bool b⟩
  | _, _, .int i t => ⟨_, .int i t⟩
  | _, _, .str x t => ⟨_, .str x t⟩
  | _, _, .list h1 _ h5 => let ⟨_, r⟩ := DRs.reads h5; ⟨_, .list h1 rfl rfl r⟩
  | _, _, .tuple h1 _ h5 => let ⟨_, r⟩ := DRs.reads h5; ⟨_, .tuple h1 rfl rfl r⟩
theorem DRs.reads {h : Heap} {μ : List Addr} : ∀ {vs : List Value} {xs : List PyData}, DRs h μ vs xs → ∃ as, ReadsAll h vs xs as
  | _, _, .nil => ⟨_, .nil⟩
  | _, _, .cons h r => let ⟨_, p⟩ := DR.reads h; let ⟨_, q⟩ := DRs.reads r; ⟨_, .cons p q⟩
end
theorem DRs.length {h : Heap} {μ : List Addr} {vs : List Value} {xs : List PyData} (r : DRs h μ vs xs) : vs.length = xs.length := by
  induction vs generalizing xs with
  | nil => cases r; rfl
  | cons v vs ih => cases r with | cons _ r => simp [ih r]
theorem DRs.append {h : Heap} {μ : List Addr} {vs ws : List Value} {xs ys : List PyData} (r : DRs h μ vs xs) (q : DRs h μ ws ys) : DRs h μ (vs ++ ws) (xs ++ ys) := by
  induction vs generalizing xs with
  | nil => cases r; exact q
  | cons v vs ih => cases r with | cons h r => exact .cons h (ih r)
theorem DRs.get {h : Heap} {μ : List Addr} {vs : List Value} {xs : List PyData} (r : DRs h μ vs xs) {k : Nat} {x : PyData} (e : xs[k]? = some x) : ∃ v, vs[k]? = some v ∧ DR h μ v x := by
  induction vs generalizing xs k with
  | nil => cases r; simp at e
  | cons v vs ih =>
    cases r with
    | cons h r =>
      cases k with
      | zero => simp at e; subst e; exact ⟨v, by simp, h⟩
      | succ k => simp at e; obtain ⟨w, hw, q⟩ := ih r e; exact ⟨w, by simpa using hw, q⟩
theorem DRs.take {h : Heap} {μ : List Addr} {vs : List Value} {xs : List PyData} (r : DRs h μ vs xs) (k : Nat) : DRs h μ (vs.take k) (xs.take k) := by
  induction vs generalizing xs k with
  | nil => cases r; simp; exact .nil
  | cons v vs ih => cases r with | cons h r => cases k with
    | zero => exact .nil
    | succ k => exact .cons h (ih r k)
theorem DRs.drop {h : Heap} {μ : List Addr} {vs : List Value} {xs : List PyData} (r : DRs h μ vs xs) (k : Nat) : DRs h μ (vs.drop k) (xs.drop k) := by
  induction vs generalizing xs k with
  | nil => cases r; simp; exact .nil
  | cons v vs ih => cases r with | cons h r => cases k with
    | zero => exact .cons h r
    | succ k => exact ih r k
theorem DRs.set {h : Heap} {μ : List Addr} {vs : List Value} {xs : List PyData} (r : DRs h μ vs xs) (k : Nat) {v : Value} {x : PyData} (e : DR h μ v x) : DRs h μ (vs.set k v) (xs.set k x) := by
  induction vs generalizing xs k with
  | nil => cases r; simp; exact .nil
  | cons w vs ih => cases r with | cons h r => cases k with
    | zero => exact .cons e r
    | succ k => exact .cons h (ih r k)
theorem DRs.reverse {h : Heap} {μ : List Addr} {vs : List Value} {xs : List PyData} (r : DRs h μ vs xs) : DRs h μ vs.reverse xs.reverse := by
  induction vs generalizing xs with
  | nil => cases r; exact .nil
  | cons w vs ih => cases r with | cons h r => simp only [List.reverse_cons]; exact (ih r).append (.cons h .nil)

/-- a fixed object, a type -/
noncomputable def isG : Value → Prop
  | .ref _ => True
  | .type _ => True
  | _ => False
/-- a value of the run stands for an abstract one -/
noncomputable def VR (ρ : Rho) (h : Heap) : V → Value → Prop
  | .d x, v => DR h (mu ρ) v x
  | .r i, v => ∃ p, ρ[i]? = some p ∧ v = .ref p.a
  | .rng a b c, v => ∃ q t u w, v = .ref q ∧ h.get? q = some { cls := .type "range", data := .fields #[.int a t, .int b u, .int c w] } ∧ q ∉ mu ρ
  | .g v, w => w = v ∧ isG v

end Mine

set_option autoImplicit false
set_option linter.unusedVariables false
namespace Mine
open PySem

/-- off the heap that stood when the law was called -/
noncomputable abbrev KX.New (K : KX) (a : Addr) : Prop := K.h0.get? a = none
theorem get?_beyond {h : Heap} {a : Addr} (ha : h.objs.size ≤ a) : h.get? a = none := by
  cases e : h.get? a with
  | none => rfl
  | some o => exact absurd (Heap.lt_size e) (Nat.not_lt.mpr ha)
theorem ne_of_get? {h : Heap} {a b : Addr} {o : Obj} (ha : h.get? a = none) (hb : h.get? b = some o) : b ≠ a := by
  rintro rfl; rw [ha] at hb; cases hb

/-- the data of a stream -/
structure SD where
  oF : Obj
  fd : FuncData
  D : Addr
  od : Obj
  m : Str → Option Value
  R : Addr
  oR : Obj
  rfd : FuncData
  c : Addr
  oc : Obj
  vs : Array Value
  n : Nat
  cc : Addr
  oc' : Obj
  cvs : Array Value
  t : Tok
/-- the fixed part of a stream -/
structure SA (rf : FuncData) (h : Heap) (p : P) (d : SD) : Prop where
  a1 : h.get? p.a = some d.oF
  a2 : d.oF.cls = .type "function"
  a3 : d.oF.dict = some d.D
  a4 : d.oF.data = .func d.fd
  a5 : p.a ∈ p.f
  b1 : h.get? d.D = some d.od
  b3 : h.Ns d.D d.m
  b4 : d.D ∈ p.f
  b6 : d.m "read" = some (.ref d.R)
  b7 : ∀ x, x ≠ ("read" : Str) → d.m x = none
  c1 : h.get? d.R = some d.oR
  c2 : d.oR.cls = .type "function"
  c3 : d.oR.dict = none
  c4 : d.oR.data = .func d.rfd
  c5 : d.R ∈ p.f
  c7 : d.rfd.params = rf.params
  c8 : d.rfd.body = rf.body
  c9 : d.rfd.scope = rf.scope
  c10 : d.rfd.globals = 3
  c11 : d.rfd.closure = [(("left" : Str), d.c)]
  c12 : d.rfd.defaults = .none
  c13 : d.rfd.kwdefaults = .none
  c14 : d.rfd.builtins = 0
  d1 : d.rfd.code = .ref d.cc
  d2 : h.get? d.cc = some d.oc'
  d3 : d.oc'.data = .fields d.cvs
  d4 : d.cvs[1]? = some (.str d.rfd.qualname d.t)
  d5 : d.cc ∈ p.f
  e1 : h.get? d.c = some d.oc
  e2 : d.oc.data = .cell (some (.ref p.m))
  e3 : d.c ∈ p.f
theorem SA.keeps {rf : FuncData} {h h' : Heap} {p : P} {d : SD} (X : SA rf h p d) (hk : ∀ b o, h.get? b = some o → b ∈ p.f → h'.get? b = some o) : SA rf h' p d where
  a1 := hk _ _ X.a1 X.a5
  a2 := X.a2
  a3 := X.a3
  a4 := X.a4
  a5 := X.a5
  b1 := hk _ _ X.b1 X.b4
  b3 := by obtain ⟨o, es, ep, e, q⟩ := X.b3; exact ⟨o, es, ep, hk _ _ e X.b4, q⟩
  b4 := X.b4
  b6 := X.b6
  b7 := X.b7
  c1 := hk _ _ X.c1 X.c5
  c2 := X.c2
  c3 := X.c3
  c4 := X.c4
  c5 := X.c5
  c7 := X.c7
  c8 := X.c8
  c9 := X.c9
  c10 := X.c10
  c11 := X.c11
  c12 := X.c12
  c13 := X.c13
  c14 := X.c14
  d1 := X.d1
  d2 := hk _ _ X.d2 X.d5
  d3 := X.d3
  d4 := X.d4
  d5 := X.d5
  e1 := hk _ _ X.e1 X.e3
  e2 := X.e2
  e3 := X.e3
theorem SA.vs {rf : FuncData} {h : Heap} {p : P} {d : SD} (X : SA rf h p d) (vs : Array Value) (n : Nat) : SA rf h p { d with vs := vs, n := n } := ⟨X.a1, X.a2, X.a3, X.a4, X.a5, X.b1, X.b3, X.b4, X.b6, X.b7, X.c1, X.c2, X.c3, X.c4, X.c5, X.c7, X.c8, X.c9, X.c10, X.c11, X.c12, X.c13, X.c14, X.d1, X.d2, X.d3, X.d4, X.d5, X.e1, X.e2, X.e3⟩
/-- the stream made by _law_stream: its list of signs from behind -/
noncomputable def StreamAt (K : KX) (ρ : Rho) (h : Heap) (p : P) (l : List Nat) : Prop :=
  ∃ d : SD, SA K.readFd h p d ∧ IsL h p.m d.vs d.n ∧ DRs h (mu ρ) d.vs.toList (l.reverse.map fun c => .str ⟨#[c]⟩)

/-- what may stand in a field: data, an object -/
noncomputable def isField : V → Prop
  | .rng .. => False
  | .g _ => False
  | _ => True
/-- what the run holds of one abstract object -/
noncomputable def OR (K : KX) (ρ : Rho) (h : Heap) (i : Nat) (p : P) : O → Prop
  | .lst l => p.a = p.m ∧ ∃ vs n, IsL h p.m vs n ∧ DRs h (mu ρ) vs.toList l
  | .inst c fs => ∃ o od m, h.get? p.a = some o ∧ o.cls = .ref c ∧ o.dict = some p.m ∧ o.data = .plain ∧ p.a ∈ p.f ∧
      h.get? p.m = some od ∧ od.cls = .type "dict" ∧ h.Ns1 p.m m ∧
      (∀ k x, K.attrs[k]? = some x → match fs.lookup k with
        | some v => (∃ rv, m x = some rv ∧ VR ρ h v rv) ∧ (∀ j, v = .r j → j < i) ∧ isField v
        | none => m x = none) ∧ ∀ x, x ∉ K.attrs → m x = none
  | .stream l => StreamAt K ρ h p l
  | .citer c => p.a = p.m ∧ ∃ o vs, h.get? p.m = some o ∧ o.cls = .type "callable_iterator" ∧ o.data = .fields vs ∧
      match c with
      | none => vs = #[.none, .none, .bool true]
      | some j => j < i ∧ ∃ M t q, vs = #[.ref M, .str ⟨#[]⟩ t, .bool false] ∧ h.get? M = some (W.methodObj (.ref K.readChar) (.ref q.a)) ∧ M ∈ p.f ∧ ρ[j]? = some q

structure HRel (K : KX) (ρ : Rho) (hp : List O) (h : Heap) : Prop where
  tbd : ∃ o, K.h0.get? K.tb = some o
  keep : ∀ b o, K.h0.get? b = some o → b ≠ K.tb → h.get? b = some o
  tab : ∃ ps, K.ok ps ∧ h.get? K.tb = some { cls := .none, data := .fields ps }
  len : ρ.length = hp.length
  nd : (mu ρ).Nodup
  hi : ∀ p ∈ ρ, K.New p.m
  fx : ∀ p ∈ ρ, ∀ a ∈ p.f, a ∉ mu ρ ∧ K.New a
  lt : ∀ p ∈ ρ, (∃ o, h.get? p.m = some o) ∧ ∀ a ∈ p.f, ∃ o, h.get? a = some o
  ob : ∀ i o p, hp[i]? = some o → ρ[i]? = some p → OR K ρ h i p o

/-- the run from one heap to the next: what is not the abstract objects' own stands as it stood -/
structure Step (K : KX) (ρ : Rho) (h : Heap) (ρ' : Rho) (h' : Heap) : Prop where
  pre : ρ <+: ρ'
  new : ∀ p ∈ ρ', p ∈ ρ ∨ (h.get? p.m = none ∧ ∀ a ∈ p.f, h.get? a = none)
  keep : ∀ b o, h.get? b = some o → b ≠ K.tb → b ∉ mu ρ → h'.get? b = some o
  dom : ∀ b o, h.get? b = some o → ∃ o', h'.get? b = some o'

theorem none_of_dom {h h' : Heap} (hd : ∀ b o, h.get? b = some o → ∃ o', h'.get? b = some o') {a : Addr} (e : h'.get? a = none) : h.get? a = none := by
  cases q : h.get? a with
  | none => rfl
  | some o => obtain ⟨o', q'⟩ := hd a o q; rw [e] at q'; cases q'
theorem Step.refl (K : KX) (ρ : Rho) (h : Heap) : Step K ρ h ρ h := ⟨List.prefix_refl _, fun _ hp => .inl hp, fun _ _ e _ _ => e, fun _ o e => ⟨o, e⟩⟩
theorem Step.grow {K : KX} {ρ : Rho} {h h' : Heap} (hk : ∀ b o, h.get? b = some o → h'.get? b = some o) : Step K ρ h ρ h' :=
  ⟨List.prefix_refl _, fun _ hp => .inl hp, fun _ _ e _ _ => hk _ _ e, fun _ o e => ⟨o, hk _ _ e⟩⟩
theorem Step.notMu {K : KX} {ρ ρ' : Rho} {h h' : Heap} (S : Step K ρ h ρ' h') {b : Addr} {o : Obj} (hb : h.get? b = some o) (hn : b ∉ mu ρ) : b ∉ mu ρ' := by
  intro hm
  obtain ⟨p, hp, rfl⟩ := List.mem_map.mp hm
  rcases S.new p hp with q | q
  · exact hn (List.mem_map.mpr ⟨p, q, rfl⟩)
  · rw [q.1] at hb; cases hb
theorem Step.trans {K : KX} {ρ ρ₁ ρ₂ : Rho} {h h₁ h₂ : Heap} (a : Step K ρ h ρ₁ h₁) (b : Step K ρ₁ h₁ ρ₂ h₂) : Step K ρ h ρ₂ h₂ :=
  ⟨a.pre.trans b.pre, fun p hp => (b.new p hp).elim (fun q => a.new p q) fun q => .inr ⟨none_of_dom a.dom q.1, fun x hx => none_of_dom a.dom (q.2 x hx)⟩,
    fun x o e h1 h2 => b.keep x o (a.keep x o e h1 h2) h1 (a.notMu e h2), fun x o e => let ⟨o', e'⟩ := a.dom x o e; b.dom x o' e'⟩
theorem pre_get {ρ ρ' : Rho} (hpre : ρ <+: ρ') {i : Nat} {p : P} (e : ρ[i]? = some p) : ρ'[i]? = some p := by
  obtain ⟨t, rfl⟩ := hpre
  rw [List.getElem?_append_left (List.getElem?_eq_some_iff.mp e).1]; exact e
theorem Step.get {K : KX} {ρ ρ' : Rho} {h h' : Heap} (S : Step K ρ h ρ' h') {i : Nat} {p : P} (e : ρ[i]? = some p) : ρ'[i]? = some p := pre_get S.pre e

section
variable {K : KX} {ρ ρ' : Rho} {hp hp' : List O} {h h' : Heap}
theorem HRel.tbObj (H : HRel K ρ hp h) {a : Addr} {o : Obj} (e : h.get? a = some o) (hc : o.cls ≠ .none) : a ≠ K.tb := by
  rintro rfl
  obtain ⟨_, _, e'⟩ := H.tab
  rw [e'] at e; cases e; exact hc rfl
theorem HRel.seqTb (H : HRel K ρ hp h) {a : Addr} {o : Obj} {vs : Array Value} {n : Nat} (e : h.get? a = some o) (hd : o.data = .seq vs n) : a ≠ K.tb := by
  rintro rfl
  obtain ⟨_, _, e'⟩ := H.tab
  rw [e'] at e; cases e; cases hd
theorem HRel.newTb (H : HRel K ρ hp h) {b : Addr} (q : K.New b) : b ≠ K.tb := by
  rintro rfl
  obtain ⟨o, e⟩ := H.tbd
  rw [q] at e; cases e
theorem HRel.fresh (H : HRel K ρ hp h) {a : Addr} (q : h.get? a = none) : K.New a := by
  cases e : K.h0.get? a with
  | none => exact e
  | some o =>
    by_cases ha : a = K.tb
    · subst ha; obtain ⟨_, _, e'⟩ := H.tab; rw [q] at e'; cases e'
    · rw [H.keep a o e ha] at q; cases q
theorem DR.step (S : Step K ρ h ρ' h') (H : HRel K ρ hp h) {v : Value} {x : PyData} (d : DR h (mu ρ) v x) : DR h' (mu ρ') v x :=
  d.mono fun a o vs n e hd hm => ⟨S.keep a o e (H.seqTb e hd) hm, S.notMu e hm⟩
theorem DRs.step (S : Step K ρ h ρ' h') (H : HRel K ρ hp h) {v : List Value} {x : List PyData} (d : DRs h (mu ρ) v x) : DRs h' (mu ρ') v x :=
  d.mono fun a o vs n e hd hm => ⟨S.keep a o e (H.seqTb e hd) hm, S.notMu e hm⟩
theorem VR.step (S : Step K ρ h ρ' h') (H : HRel K ρ hp h) {v : V} {rv : Value} (d : VR ρ h v rv) : VR ρ' h' v rv := by
  cases v with
  | d x => exact DR.step S H d
  | r i => obtain ⟨p, e, rfl⟩ := d; exact ⟨p, S.get e, rfl⟩
  | rng a b c =>
    obtain ⟨q, t, u, v, rfl, e, hm⟩ := d
    exact ⟨q, t, u, v, rfl, S.keep _ _ e (H.tbObj e (by simp)) hm, S.notMu e hm⟩
  | g v => exact d

/-- an object of the heap stands, where its own places stand -/
theorem OR.keeps (H : HRel K ρ hp h) {i : Nat} {p : P} {o : O} (r : OR K ρ h i p o)
    (hk : ∀ b ob, h.get? b = some ob → b ∈ p.f ∨ b = p.m → h'.get? b = some ob)
    (hd : ∀ a o vs n, h.get? a = some o → o.data = .seq vs n → a ∉ mu ρ → h'.get? a = some o ∧ a ∉ mu ρ')
    (hpre : ρ <+: ρ') : OR K ρ' h' i p o := by
  have hD : ∀ {vs : List Value} {xs : List PyData}, DRs h (mu ρ) vs xs → DRs h' (mu ρ') vs xs := fun d => d.mono hd
  have hV : ∀ {v : V} {rv : Value}, isField v → VR ρ h v rv → VR ρ' h' v rv := by
    intro v rv hf d
    cases v with
    | d x => exact DR.mono hd d
    | r i => obtain ⟨p, e, rfl⟩ := d; exact ⟨p, pre_get hpre e, rfl⟩
    | rng a b c => exact hf.elim
    | g v => exact hf.elim
  have hN : ∀ {a : Addr} {m : Str → Option Value}, h.Ns a m → a ∈ p.f ∨ a = p.m → h'.Ns a m := by
    rintro a m ⟨o, es, ep, e, q⟩ hq
    exact ⟨o, es, ep, hk a o e hq, q⟩
  cases o with
  | lst l =>
    obtain ⟨e, vs, n, h1, h4⟩ := r
    exact ⟨e, vs, n, hk _ _ h1 (.inr rfl), hD h4⟩
  | inst c fs =>
    obtain ⟨o, od, m, h1, h2, h3, h4, h5, h7, h8, h9, h10, h11⟩ := r
    refine ⟨o, od, m, hk _ _ h1 (.inl h5), h2, h3, h4, h5, hk _ _ h7 (.inr rfl), h8, h9.at (fun o e => hk _ _ e (.inr rfl)), ?_, h11⟩
    intro k x hx
    have q := h10 k x hx
    revert q
    cases fs.lookup k with
    | none => exact id
    | some v => rintro ⟨⟨rv, q1, q2⟩, q3, q4⟩; exact ⟨⟨rv, q1, hV q4 q2⟩, q3, q4⟩
  | stream l =>
    obtain ⟨d, X, f1, f4⟩ := r
    exact ⟨d, X.keeps (fun b o e m => hk _ _ e (.inl m)), hk _ _ f1 (.inr rfl), hD f4⟩
  | citer c =>
    obtain ⟨e, o, vs, h1, h2, h3, h4⟩ := r
    refine ⟨e, o, vs, hk _ _ h1 (.inr rfl), h2, h3, ?_⟩
    cases c with
    | none => exact h4
    | some j =>
      obtain ⟨hj, M, t, q, q1, q2, q4, q6⟩ := h4
      exact ⟨hj, M, t, q, q1, hk _ _ q2 (.inl q4), q4, pre_get hpre q6⟩

/-- nothing but new objects -/
theorem HRel.grow (H : HRel K ρ hp h) (hk : ∀ b o, h.get? b = some o → h'.get? b = some o) : HRel K ρ hp h' :=
  ⟨H.tbd, fun b o e q => hk _ _ (H.keep b o e q), let ⟨m, okm, e⟩ := H.tab; ⟨m, okm, hk _ _ e⟩, H.len, H.nd, H.hi, H.fx,
    fun p hp => ⟨let ⟨o, e⟩ := (H.lt p hp).1; ⟨o, hk _ _ e⟩, fun a ha => let ⟨o, e⟩ := (H.lt p hp).2 a ha; ⟨o, hk _ _ e⟩⟩,
    fun i o p e q => (H.ob i o p e q).keeps H (fun b ob x _ => hk _ _ x) (fun a o vs n e _ x => ⟨hk _ _ e, x⟩) (List.prefix_refl _)⟩
theorem HRel.push (H : HRel K ρ hp h) (o : Obj) : HRel K ρ hp (h.push o) := H.grow (fun _ _ e => Heap.get?_push_of_some o e)
theorem Step.push (K : KX) (ρ : Rho) (h : Heap) (o : Obj) : Step K ρ h ρ (h.push o) := Step.grow (fun _ _ e => Heap.get?_push_of_some o e)
theorem HRel.muDom (H : HRel K ρ hp h) {a : Addr} (ha : a ∈ mu ρ) : ∃ o, h.get? a = some o := by
  obtain ⟨p, hp, rfl⟩ := List.mem_map.mp ha
  exact (H.lt p hp).1
theorem HRel.notMu (H : HRel K ρ hp h) {a : Addr} (ha : h.get? a = none) : a ∉ mu ρ := fun hm => by
  obtain ⟨o, e⟩ := H.muDom hm
  rw [ha] at e; cases e
theorem HRel.sizeMu (H : HRel K ρ hp h) : h.objs.size ∉ mu ρ := H.notMu (get?_beyond (Nat.le_refl _))

/-- a place off all abstract objects (`Off`) is written, an object there that is no sequence -/
noncomputable def Off (ρ : Rho) (a : Addr) : Prop := ∀ p ∈ ρ, a ≠ p.m ∧ a ∉ p.f
theorem Off.mu {ρ : Rho} {a : Addr} (x : Off ρ a) : a ∉ mu ρ := fun hm => by
  obtain ⟨p, hp, rfl⟩ := List.mem_map.mp hm
  exact (x p hp).1 rfl
theorem HRel.off (H : HRel K ρ hp h) {a : Addr} (ha : h.get? a = none) : Off ρ a := by
  intro p hp
  constructor
  · intro e
    obtain ⟨o, q⟩ := (H.lt p hp).1
    rw [← e, ha] at q
    cases q
  · intro hm
    obtain ⟨o, q⟩ := (H.lt p hp).2 a hm
    rw [ha] at q
    cases q
theorem HRel.other (H : HRel K ρ hp h) {a : Addr} (ha : K.New a) (hm : Off ρ a) (hs : Heap.ExtBut a h h')
    (hd : ∀ o, h.get? a = some o → ∀ vs n, o.data ≠ .seq vs n) : HRel K ρ hp h' := by
  refine ⟨H.tbd, fun b o e q => hs b o (ne_of_get? ha e) (H.keep b o e q),
    let ⟨m, okm, e⟩ := H.tab; ⟨m, okm, hs _ _ (Ne.symm (H.newTb ha)) e⟩, H.len, H.nd, H.hi, H.fx,
    fun p hp => ⟨let ⟨o, e⟩ := (H.lt p hp).1; ⟨o, hs _ _ (Ne.symm (hm p hp).1) e⟩, fun b hb => let ⟨o, e⟩ := (H.lt p hp).2 b hb; ⟨o, hs _ _ (fun e => (hm p hp).2 (e ▸ hb)) e⟩⟩,
    fun i o p e q => (H.ob i o p e q).keeps H (fun b ob x y => hs b ob ?_ x) (fun b o vs n e hq x => ⟨hs b o ?_ e, x⟩) (List.prefix_refl _)⟩
  · rintro rfl
    have z := hm p (List.mem_of_getElem? q)
    exact y.elim z.2 z.1
  · rintro rfl; exact hd o e vs n hq
theorem Off.step (S : Step K ρ h ρ' h') {a : Addr} {o : Obj} (ha : h.get? a = some o) (x : Off ρ a) : Off ρ' a := fun p hp => by
  rcases S.new p hp with q | q
  · exact x p q
  · exact ⟨ne_of_get? q.1 ha, fun hf => by rw [q.2 a hf] at ha; cases ha⟩
/-- the own place of one abstract object is written -/
theorem HRel.own (H : HRel K ρ hp h) {i : Nat} {p : P} {o : O} (hi : ρ[i]? = some p) (hl : i < hp.length) (hs : Heap.SameBut p.m h h') (ho : OR K ρ h' i p o) (hd : ∃ o, h'.get? p.m = some o) : HRel K ρ (hp.set i o) h' := by
  have pm := List.mem_of_getElem? hi
  have hpm : p.m ∈ mu ρ := List.mem_map.mpr ⟨p, pm, rfl⟩
  have dom : ∀ b o, h.get? b = some o → ∃ o', h'.get? b = some o' := fun b o e => by
    by_cases hb : b = p.m
    · rw [hb]; exact hd
    · exact ⟨o, (hs.2 b hb).trans e⟩
  refine ⟨H.tbd, fun b ob e q => (hs.2 b (ne_of_get? (H.hi p pm) e)).trans (H.keep b ob e q),
    let ⟨m, okm, e⟩ := H.tab; ⟨m, okm, (hs.2 _ (Ne.symm (H.newTb (H.hi p pm)))).trans e⟩, by rw [List.length_set]; exact H.len, H.nd, H.hi, H.fx,
    fun p hp => ⟨let ⟨o, e⟩ := (H.lt p hp).1; dom _ o e, fun a ha => let ⟨o, e⟩ := (H.lt p hp).2 a ha; dom _ o e⟩, fun j oj pj e q => ?_⟩
  rw [List.getElem?_set] at e
  by_cases hij : i = j
  · subst hij
    rw [if_pos rfl, if_pos hl] at e
    cases e
    rw [hi] at q; cases q
    exact ho
  · rw [if_neg hij] at e
    have nm : pj.m ≠ p.m := by
      intro heq
      have h1 : (mu ρ)[i]? = some p.m := by simp [mu, hi]
      have h2 : (mu ρ)[j]? = some p.m := by simp [mu, q, heq]
      have l1 := (List.getElem?_eq_some_iff.mp h1).1
      exact hij ((List.getElem?_inj l1 H.nd).mp (h1.trans h2.symm))
    refine (H.ob j oj pj e q).keeps H (fun b ob x y => (hs.2 b ?_).trans x) (fun b o vs n e hq x => ⟨(hs.2 b ?_).trans e, x⟩) (List.prefix_refl _)
    · rintro rfl
      rcases y with y | y
      · exact (H.fx pj (List.mem_of_getElem? q) _ y).1 hpm
      · exact nm y.symm
    · rintro rfl; exact x hpm
theorem Step.own {p : P} (hi : p ∈ ρ) (hs : Heap.SameBut p.m h h') (hd : ∃ o, h'.get? p.m = some o) : Step K ρ h ρ h' :=
  ⟨List.prefix_refl _, fun _ hp => .inl hp, fun b o e _ hm => (hs.2 b (by rintro rfl; exact hm (List.mem_map.mpr ⟨p, hi, rfl⟩))).trans e,
    fun b o e => by
      by_cases hb : b = p.m
      · rw [hb]; exact hd
      · exact ⟨o, (hs.2 b hb).trans e⟩⟩
/-- a new abstract object -/
theorem HRel.add (H : HRel K ρ hp h) (hk : ∀ b o, h.get? b = some o → h'.get? b = some o) {p : P} {o : O} (hm : h.get? p.m = none) (hm' : ∃ o, h'.get? p.m = some o)
    (hf : ∀ a ∈ p.f, h.get? a = none ∧ (∃ o, h'.get? a = some o) ∧ a ≠ p.m) (ho : OR K (ρ ++ [p]) h' hp.length p o) :
    HRel K (ρ ++ [p]) (hp ++ [o]) h' ∧ Step K ρ h (ρ ++ [p]) h' := by
  have hmu : mu (ρ ++ [p]) = mu ρ ++ [p.m] := by simp [mu]
  refine ⟨⟨H.tbd, fun b o e q => hk _ _ (H.keep b o e q), let ⟨m, okm, e⟩ := H.tab; ⟨m, okm, hk _ _ e⟩, by simp [H.len], ?_, ?_, ?_, ?_, ?_⟩, ?_⟩
  · rw [hmu]
    refine List.nodup_append.mpr ⟨H.nd, by simp, ?_⟩
    intro a ha b hb' e
    simp at hb'; subst hb'; subst e
    exact H.notMu hm ha
  · intro q hq
    rcases List.mem_append.mp hq with hq | hq
    · exact H.hi q hq
    · simp at hq; subst hq; exact H.fresh hm
  · intro q hq a ha
    rw [hmu]
    rcases List.mem_append.mp hq with hq | hq
    · refine ⟨fun z => ?_, (H.fx q hq a ha).2⟩
      rcases List.mem_append.mp z with z | z
      · exact (H.fx q hq a ha).1 z
      · simp at z; subst z; obtain ⟨o, e⟩ := (H.lt q hq).2 _ ha; rw [hm] at e; cases e
    · simp at hq; subst hq
      refine ⟨fun z => ?_, H.fresh (hf a ha).1⟩
      rcases List.mem_append.mp z with z | z
      · exact H.notMu (hf a ha).1 z
      · simp at z; exact (hf a ha).2.2 z
  · intro q hq
    rcases List.mem_append.mp hq with hq | hq
    · exact ⟨let ⟨o, e⟩ := (H.lt q hq).1; ⟨o, hk _ _ e⟩, fun a ha => let ⟨o, e⟩ := (H.lt q hq).2 a ha; ⟨o, hk _ _ e⟩⟩
    · simp at hq; subst hq; exact ⟨hm', fun a ha => (hf a ha).2.1⟩
  · intro i oi pi e q
    by_cases hi : i < hp.length
    · rw [List.getElem?_append_left hi] at e
      rw [List.getElem?_append_left (H.len ▸ hi)] at q
      have r := H.ob i oi pi e q
      refine r.keeps H (fun b ob x _ => hk _ _ x) ?_ (List.prefix_append _ _)
      intro a o vs n x hd y
      refine ⟨hk _ _ x, ?_⟩
      rw [hmu]
      intro z
      rcases List.mem_append.mp z with z | z
      · exact y z
      · simp at z
        subst z
        rw [hm] at x; cases x
    · have hil : i = hp.length := by
        have := (List.getElem?_eq_some_iff.mp e).1
        simp at this; omega
      subst hil
      rw [List.getElem?_append_right (Nat.le_refl _)] at e
      rw [List.getElem?_append_right (by rw [H.len]; exact Nat.le_refl _)] at q
      simp [H.len] at e q
      subst e; subst q; exact ho
  · refine ⟨List.prefix_append _ _, fun q hq => ?_, fun b o e _ _ => hk _ _ e, fun b o e => ⟨o, hk _ _ e⟩⟩
    rcases List.mem_append.mp hq with hq | hq
    · exact .inl hq
    · simp at hq; subst hq; exact .inr ⟨hm, fun a ha => (hf a ha).1⟩
/-- back to the elder objects alone -/
theorem HRel.cut (H : HRel K ρ' hp' h) (hpre : ρ <+: ρ') (hl : ρ.length ≤ hp'.length) : HRel K ρ (hp'.take ρ.length) h := by
  obtain ⟨t, rfl⟩ := hpre
  have hmu : mu (ρ ++ t) = mu ρ ++ mu t := by simp [mu]
  have mem : ∀ {p : P}, p ∈ ρ → p ∈ ρ ++ t := fun q => List.mem_append.mpr (.inl q)
  refine ⟨H.tbd, H.keep, H.tab, by rw [List.length_take]; omega, ?_, fun p hp => H.hi p (mem hp), ?_, fun p hp => H.lt p (mem hp), ?_⟩
  · have := H.nd; rw [hmu] at this; exact (List.nodup_append.mp this).1
  · intro p hp a ha
    have := H.fx p (mem hp) a ha
    rw [hmu] at this
    exact ⟨fun z => this.1 (List.mem_append.mpr (.inl z)), this.2⟩
  · intro i o p e q
    have hi := (List.getElem?_eq_some_iff.mp q).1
    have e' : hp'[i]? = some o := by rw [List.getElem?_take] at e; split at e <;> simp_all
    have r := H.ob i o p e' (pre_get (List.prefix_append _ _) q)
    -- references stay below
    have hD : ∀ {vs : List Value} {xs : List PyData}, DRs h (mu (ρ ++ t)) vs xs → DRs h (mu ρ) vs xs := fun d =>
      d.mono fun a o vs n x _ y => ⟨x, fun z => y (by rw [hmu]; exact List.mem_append.mpr (.inl z))⟩
    cases o with
    | lst l => obtain ⟨a, vs, n, h1, h4⟩ := r; exact ⟨a, vs, n, h1, hD h4⟩
    | inst c fs =>
      obtain ⟨o, od, m, h1, h2, h3, h4, h5, h7, h8, h9, h10, h11⟩ := r
      refine ⟨o, od, m, h1, h2, h3, h4, h5, h7, h8, h9, ?_, h11⟩
      intro k x hx
      have q' := h10 k x hx
      revert q'
      cases fs.lookup k with
      | none => exact id
      | some v =>
        rintro ⟨⟨rv, q1, q2⟩, q3, q4⟩
        refine ⟨⟨rv, q1, ?_⟩, q3, q4⟩
        cases v with
        | d x => exact DR.mono (fun a o vs n x _ y => ⟨x, fun z => y (by rw [hmu]; exact List.mem_append.mpr (.inl z))⟩) q2
        | r j =>
          obtain ⟨p', e1, e2⟩ := q2
          have hj := q3 j rfl
          exact ⟨p', by rw [List.getElem?_append_left (Nat.lt_trans hj hi)] at e1; exact e1, e2⟩
        | rng a b c => exact q4.elim
        | g v => exact q4.elim
    | stream l =>
      obtain ⟨d, X, f1, f4⟩ := r
      exact ⟨d, X, f1, hD f4⟩
    | citer c =>
      obtain ⟨e, o, vs, h1, h2, h3, h4⟩ := r
      refine ⟨e, o, vs, h1, h2, h3, ?_⟩
      cases c with
      | none => exact h4
      | some j =>
        obtain ⟨hj, M, t', q', q1, q2, q4, q6⟩ := h4
        exact ⟨hj, M, t', q', q1, q2, q4, by rw [List.getElem?_append_left (Nat.lt_trans hj hi)] at q6; exact q6⟩
theorem Step.cut (S : Step K ρ h ρ' h') : Step K ρ h ρ h' := ⟨List.prefix_refl _, fun _ hp => .inl hp, S.keep, S.dom⟩
theorem DR.cut (hpre : ρ <+: ρ') {v : Value} {x : PyData} (d : DR h (mu ρ') v x) : DR h (mu ρ) v x := by
  obtain ⟨t, rfl⟩ := hpre
  exact d.mono fun a o vs n x _ y => ⟨x, fun z => y (by simp only [mu, List.map_append]; exact List.mem_append.mpr (.inl z))⟩
theorem DRs.cut (hpre : ρ <+: ρ') {v : List Value} {x : List PyData} (d : DRs h (mu ρ') v x) : DRs h (mu ρ) v x := by
  obtain ⟨t, rfl⟩ := hpre
  exact d.mono fun a o vs n x _ y => ⟨x, fun z => y (by simp only [mu, List.map_append]; exact List.mem_append.mpr (.inl z))⟩
end
end Mine

set_option autoImplicit false
set_option linter.unusedVariables false
namespace Mine
open PySem PySem.Spec PySem.Calls PyProof.Rows

/-- the frame of the running function: its names' slots -/
structure FRel (K : KX) (env : Env) (look : Str → Option Nat) (vs : List (Option V)) (ρ : Rho) (h : Heap) : Prop where
  kd : env.scope.kind = .function
  gl : env.globals = 3
  bi : env.builtins = 0
  lb : K.New env.locals
  lo : Off ρ env.locals
  ns : ∃ m, h.Ns env.locals m ∧ ∀ x k v, env.kindOf x = some .local → look x = some k → vs[k]? = some (some v) → ∃ rv, m x = some rv ∧ VR ρ h v rv
  cl : ∀ x, env.kindOf x = some .cell ∨ env.kindOf x = some .free → ∃ c o ov, env.cells.lookup x = some c ∧ K.New c ∧ Off ρ c ∧ h.get? c = some o ∧ o.data = .cell ov ∧
    ∀ k v, look x = some k → vs[k]? = some (some v) → ∃ rv, ov = some rv ∧ VR ρ h v rv
  ci : ∀ x y c, env.cells.lookup x = some c → env.cells.lookup y = some c → x = y
  ij : ∀ x y k, look x = some k → look y = some k → x = y

theorem FRel.step {K : KX} {env : Env} {look : Str → Option Nat} {vs : List (Option V)} {ρ ρ' : Rho} {hp : List O} {h h' : Heap} (F : FRel K env look vs ρ h) (H : HRel K ρ hp h) (S : Step K ρ h ρ' h') : FRel K env look vs ρ' h' := by
  refine ⟨F.kd, F.gl, F.bi, F.lb, ?_, ?_, ?_, F.ci, F.ij⟩
  · obtain ⟨m, ⟨o, _, _, n, _⟩, _⟩ := F.ns
    exact F.lo.step S n
  · obtain ⟨m, ⟨o, es, ep, e, q⟩, r⟩ := F.ns
    exact ⟨m, ⟨o, es, ep, S.keep _ _ e (H.newTb F.lb) F.lo.mu, q⟩, fun x k v a b c => let ⟨rv, d, f⟩ := r x k v a b c; ⟨rv, d, f.step S H⟩⟩
  · intro x hx
    obtain ⟨c, o, ov, a1, a2, a3, a4, a5, a6⟩ := F.cl x hx
    exact ⟨c, o, ov, a1, a2, a3.step S a4, S.keep _ _ a4 (H.newTb a2) a3.mu, a5, fun k v b1 b2 => let ⟨rv, d, f⟩ := a6 k v b1 b2; ⟨rv, d, f.step S H⟩⟩

/-- what an expression's end is -/
inductive PostE (K : KX) (ρ : Rho) (s : Shared) (Q : V → List O → Prop) (rv : Value) (s' : Shared) : Prop
  | mk (v : V) (hp' : List O) (ρ' : Rho) (h' : Heap) (t : Nat) (e : s' = { s with heap := h', toks := t }) (q : Q v hp') (H : HRel K ρ' hp' h') (S : Step K ρ s.heap ρ' h') (r : VR ρ' h' v rv)

theorem PostE.after {K : KX} {ρ ρ₁ : Rho} {s : Shared} {h₁ : Heap} {t₁ : Nat} {Q : V → List O → Prop} {rv : Value} {s' : Shared} (S : Step K ρ s.heap ρ₁ h₁)
    (p : PostE K ρ₁ { s with heap := h₁, toks := t₁ } Q rv s') : PostE K ρ s Q rv s' :=
  let ⟨v, hp', ρ', h', t, e, q, H, S', r⟩ := p
  ⟨v, hp', ρ', h', t, e, q, H, S.trans S', r⟩
theorem PostE.pure {K : KX} {ρ : Rho} {hp : List O} {s : Shared} {Q : V → List O → Prop} {v : V} {rv : Value} (t : Nat) (q : Q v hp) (H : HRel K ρ hp s.heap) (r : VR ρ s.heap v rv) :
    PostE K ρ s Q rv { s with toks := t } := ⟨v, hp, ρ, s.heap, t, rfl, q, H, Step.refl .., r⟩
theorem PostE.pure0 {K : KX} {ρ : Rho} {hp : List O} {s : Shared} {Q : V → List O → Prop} {v : V} {rv : Value} (q : Q v hp) (H : HRel K ρ hp s.heap) (r : VR ρ s.heap v rv) :
    PostE K ρ s Q rv s := ⟨v, hp, ρ, s.heap, s.toks, rfl, q, H, Step.refl .., r⟩

/-- a new object that belongs to no abstract one -/
theorem PostE.grown {K : KX} {ρ : Rho} {hp : List O} {s : Shared} {Q : V → List O → Prop} {v : V} {rv : Value} {h' : Heap} (t : Nat) (q : Q v hp) (H : HRel K ρ hp s.heap)
    (hk : ∀ b o, s.heap.get? b = some o → h'.get? b = some o) (r : VR ρ h' v rv) :
    PostE K ρ s Q rv { s with heap := h', toks := t } := ⟨v, hp, ρ, h', t, rfl, q, H.grow hk, Step.grow hk, r⟩

/-- room on the stacks for `r` more calls -/
structure OkA (r : Nat) (A : Around) : Prop where
  hh : A.handled = none
  dp : A.depth + r < recursionLimit
  un : A.units + 100 * r + 200 < cLine
theorem OkA.le {r r' : Nat} {A : Around} (o : OkA r A) (h : r' ≤ r) : OkA r' A := ⟨o.hh, by have := o.dp; omega, by have := o.un; omega⟩

noncomputable abbrev XE := List (Option V) → (V → List O → Prop) → List O → Prop
noncomputable abbrev XB := List (Option V) → (Bool → List O → Prop) → List O → Prop

noncomputable def SoundE (K : KX) (r : Nat) (env : Env) (look : Str → Option Nat) (e : Expr) (p : XE) : Prop :=
  ∀ A, OkA r A → ∀ vs Q hp ρ s E, p vs Q hp → FRel K env look vs ρ s.heap → HRel K ρ hp s.heap → wpAny (model K.prog K.w) A (eval e env) (PostE K ρ s Q) E s

inductive PostB (K : KX) (ρ : Rho) (s : Shared) (Q : Bool → List O → Prop) (b : Bool) (s' : Shared) : Prop
  | mk (hp' : List O) (ρ' : Rho) (h' : Heap) (t : Nat) (e : s' = { s with heap := h', toks := t }) (q : Q b hp') (H : HRel K ρ' hp' h') (S : Step K ρ s.heap ρ' h')
theorem PostB.after {K : KX} {ρ ρ₁ : Rho} {s : Shared} {h₁ : Heap} {t₁ : Nat} {Q : Bool → List O → Prop} {b : Bool} {s' : Shared} (S : Step K ρ s.heap ρ₁ h₁)
    (p : PostB K ρ₁ { s with heap := h₁, toks := t₁ } Q b s') : PostB K ρ s Q b s' :=
  let ⟨hp', ρ', h', t, e, q, H, S'⟩ := p
  ⟨hp', ρ', h', t, e, q, H, S.trans S'⟩
noncomputable def SoundB (K : KX) (r : Nat) (env : Env) (look : Str → Option Nat) (e : Expr) (p : XB) : Prop :=
  ∀ A, OkA r A → ∀ vs Q hp ρ s E, p vs Q hp → FRel K env look vs ρ s.heap → HRel K ρ hp s.heap → wpAny (model K.prog K.w) A (isTrue e env (eval e env)) (PostB K ρ s Q) E s

/-- an operation of two values -/
noncomputable def Sound2 (K : KX) (r : Nat) (f : Value → Value → Sem Value) (p : V → V → (V → List O → Prop) → List O → Prop) : Prop :=
  ∀ A, OkA r A → ∀ ρ hp s va vb ra rb Q E, p va vb Q hp → HRel K ρ hp s.heap → VR ρ s.heap va ra → VR ρ s.heap vb rb → wpAny (model K.prog K.w) A (f ra rb) (PostE K ρ s Q) E s
noncomputable def Sound1 (K : KX) (r : Nat) (f : Value → Sem Value) (p : V → (V → List O → Prop) → List O → Prop) : Prop :=
  ∀ A, OkA r A → ∀ ρ hp s va ra Q E, p va Q hp → HRel K ρ hp s.heap → VR ρ s.heap va ra → wpAny (model K.prog K.w) A (f ra) (PostE K ρ s Q) E s

section
variable {K : KX} {r : Nat} {env : Env} {look : Str → Option Nat}

theorem e_int {i : Int} {k : Nat} {pos : Pos} : SoundE K r env look (.Constant (.int i) k pos) (fun _ Q => Q (.d (.int i))) :=
  fun A _ vs Q hp ρ s E q F H => wpAny_Constant_int (PostE.pure _ q H (.int ..))
theorem e_str {x : Str} {k : Nat} {pos : Pos} : SoundE K r env look (.Constant (.str x) k pos) (fun _ Q => Q (.d (.str x))) :=
  fun A _ vs Q hp ρ s E q F H => wpAny_Constant_str (PostE.pure _ q H (.str ..))
theorem e_none {k : Nat} {pos : Pos} : SoundE K r env look (.Constant .none k pos) (fun _ Q => Q (.d .none)) :=
  fun A _ vs Q hp ρ s E q F H => wpAny_Constant_none (PostE.pure0 q H .none)
theorem e_bool {b : Bool} {k : Nat} {pos : Pos} : SoundE K r env look (.Constant (.bool b) k pos) (fun _ Q => Q (.d (.bool b))) :=
  fun A _ vs Q hp ρ s E q F H => wpAny_Constant_bool (PostE.pure0 q H (.bool b))

noncomputable def xVar (k : Nat) : XE := fun vs Q hp => match vs[k]? with | some (some v) => Q v hp | _ => False
theorem e_var {x : Str} {k : Nat} {pos : Pos} (hk : env.kindOf x = some .local ∨ env.kindOf x = some .cell ∨ env.kindOf x = some .free) (hl : look x = some k)
    (hd : (x == ("__debug__" : Str)) = false) (hc : (x == ("__classdict__" : Str)) = false) : SoundE K r env look (.Name x pos) (xVar k) := by
  intro A _ vs Q hp ρ s E q F H
  refine wpAny_Name ?_ hd
  unfold xVar at q
  split at q
  · rename_i v e
    rcases hk with hk | hk | hk
    · obtain ⟨m, n, f⟩ := F.ns
      obtain ⟨rv, e1, e2⟩ := f x k v hk hl e
      exact wpAny_loadName_local F.kd hk n e1 (PostE.pure0 q H e2)
    · obtain ⟨c, o, ov, a1, a2, a3, a4, a5, a6⟩ := F.cl x (.inl hk)
      obtain ⟨rv, rfl, e2⟩ := a6 k v hl e
      exact wpAny_loadName_cell F.kd hk a1 ⟨o, a4, a5⟩ (PostE.pure0 q H e2)
    · obtain ⟨c, o, ov, a1, a2, a3, a4, a5, a6⟩ := F.cl x (.inr hk)
      obtain ⟨rv, rfl, e2⟩ := a6 k v hl e
      exact wpAny_loadName_free F.kd hk a1 ⟨o, a4, a5⟩ (PostE.pure0 q H e2) hc
  · exact q.elim

/-- one expression behind another -/
theorem SoundE.then {e : Expr} {p : XE} (h : SoundE K r env look e p) {A : Around} (ok : OkA r A) {vs : List (Option V)} {Q : V → List O → Prop} {hp : List O} {ρ : Rho} {s : Shared} {E : Value → Shared → Prop}
    {R : Value → Shared → Prop} (q : p vs Q hp) (F : FRel K env look vs ρ s.heap) (H : HRel K ρ hp s.heap)
    (k : ∀ v hp₁ ρ₁ h₁ t₁ rv, Q v hp₁ → HRel K ρ₁ hp₁ h₁ → Step K ρ s.heap ρ₁ h₁ → VR ρ₁ h₁ v rv → FRel K env look vs ρ₁ h₁ → R rv { s with heap := h₁, toks := t₁ }) :
    wpAny (model K.prog K.w) A (eval e env) R E s := by
  refine wpAny_mono (h A ok vs Q hp ρ s E q F H) ?_ (fun _ _ x => x)
  rintro rv s' ⟨v, hp', ρ', h', t, rfl, q', H', S, rr⟩
  exact k v hp' ρ' h' t rv q' H' S rr (F.step H S)
theorem SoundB.then {e : Expr} {p : XB} (h : SoundB K r env look e p) {A : Around} (ok : OkA r A) {vs : List (Option V)} {Q : Bool → List O → Prop} {hp : List O} {ρ : Rho} {s : Shared} {E : Value → Shared → Prop}
    {R : Bool → Shared → Prop} (q : p vs Q hp) (F : FRel K env look vs ρ s.heap) (H : HRel K ρ hp s.heap)
    (k : ∀ b hp₁ ρ₁ h₁ t₁, Q b hp₁ → HRel K ρ₁ hp₁ h₁ → Step K ρ s.heap ρ₁ h₁ → FRel K env look vs ρ₁ h₁ → R b { s with heap := h₁, toks := t₁ }) :
    wpAny (model K.prog K.w) A (isTrue e env (eval e env)) R E s := by
  refine wpAny_mono (h A ok vs Q hp ρ s E q F H) ?_ (fun _ _ x => x)
  rintro b s' ⟨hp', ρ', h', t, rfl, q', H', S⟩
  exact k b hp' ρ' h' t q' H' S (F.step H S)

noncomputable def xBin (f : V → V → (V → List O → Prop) → List O → Prop) (a b : XE) : XE := fun vs Q => a vs fun va => b vs fun vb => f va vb Q
theorem e_bin {l rr : Expr} {op : Operator} {pos : Pos} {f : V → V → (V → List O → Prop) → List O → Prop} {a b : XE} (hf : Sound2 K r (binaryOp op) f) (ha : SoundE K r env look l a) (hb : SoundE K r env look rr b) :
    SoundE K r env look (.BinOp l op rr pos) (xBin f a b) := by
  intro A ok vs Q hp ρ s E q F H
  refine wpAny_BinOp (ha.then ok q F H ?_)
  intro va hp₁ ρ₁ h₁ t₁ ra q₁ H₁ S₁ r₁ F₁
  refine hb.then ok (s := { s with heap := h₁, toks := t₁ }) q₁ F₁ H₁ ?_
  intro vb hp₂ ρ₂ h₂ t₂ rb q₂ H₂ S₂ r₂ F₂
  refine wpAny_mono (hf A ok ρ₂ hp₂ { s with heap := h₂, toks := t₂ } va vb ra rb Q E q₂ H₂ (r₁.step S₂ H₁) r₂) ?_ (fun _ _ x => x)
  exact fun rv s' p => PostE.after (S₁.trans S₂) p
theorem e_cmp {l rr : Expr} {op : CmpOp} {pos : Pos} {f : V → V → (V → List O → Prop) → List O → Prop} {a b : XE} (hf : Sound2 K r (compareOp op) f) (ha : SoundE K r env look l a) (hb : SoundE K r env look rr b)
    (hm : behindInMarks op rr = false) : SoundE K r env look (.Compare l [op] [rr] pos) (xBin f a b) := by
  intro A ok vs Q hp ρ s E q F H
  refine wpAny_Compare1 (ha.then ok q F H ?_) hm
  intro va hp₁ ρ₁ h₁ t₁ ra q₁ H₁ S₁ r₁ F₁
  refine hb.then ok (s := { s with heap := h₁, toks := t₁ }) q₁ F₁ H₁ ?_
  intro vb hp₂ ρ₂ h₂ t₂ rb q₂ H₂ S₂ r₂ F₂
  refine wpAny_mono (hf A ok ρ₂ hp₂ { s with heap := h₂, toks := t₂ } va vb ra rb Q E q₂ H₂ (r₁.step S₂ H₁) r₂) ?_ (fun _ _ x => x)
  exact fun rv s' p => PostE.after (S₁.trans S₂) p
end
end Mine

set_option autoImplicit false
set_option linter.unusedVariables false
namespace Mine
open PySem PySem.Spec PySem.Calls PyProof.Rows

noncomputable def lget : V → List O → Option (List PyData)
  | .d (.list l), _ => some l
  | .r i, hp => match hp[i]? with | some (.lst l) => some l | _ => none
  | _, _ => none
noncomputable def dget : V → List O → Option PyData
  | .d x, _ => some x
  | .r i, hp => match hp[i]? with | some (.lst l) => some (.list l) | _ => none
  | .rng .., _ => none
  | .g _, _ => none

section
variable {K : KX} {ρ : Rho} {hp : List O} {h : Heap} {r : Nat}
theorem HRel.at (H : HRel K ρ hp h) {i : Nat} {p : P} {o : O} (e : hp[i]? = some o) (q : ρ[i]? = some p) : OR K ρ h i p o := H.ob i o p e q
theorem lget_rel (H : HRel K ρ hp h) {v : V} {rv : Value} {l : List PyData} (q : VR ρ h v rv) (e : lget v hp = some l) : ∃ a vs n, rv = .ref a ∧ IsL h a vs n ∧ DRs h (mu ρ) vs.toList l := by
  cases v with
  | d x =>
    cases x with
    | list xs => cases e; cases q with | list h1 _ h3 => exact ⟨_, _, _, rfl, h1, h3⟩
    | _ => cases e
  | r i =>
    obtain ⟨p, e1, rfl⟩ := q
    simp only [lget] at e
    split at e
    · rename_i l' e2
      cases e
      obtain ⟨ha, vs, n, h1, h2⟩ := H.at e2 e1
      exact ⟨_, vs, n, rfl, ha ▸ h1, h2⟩
    · cases e
  | rng a b c => cases e
  | g v => cases e
theorem dget_rel (H : HRel K ρ hp h) {v : V} {rv : Value} {x : PyData} (q : VR ρ h v rv) (e : dget v hp = some x) : ∃ as, Reads h rv x as := by
  cases v with
  | d y => cases e; exact DR.reads q
  | r i =>
    obtain ⟨p, e1, rfl⟩ := q
    simp only [dget] at e
    split at e
    · rename_i l' e2
      cases e
      obtain ⟨ha, vs, n, h1, h2⟩ := H.at e2 e1
      obtain ⟨as, rs⟩ := DRs.reads h2
      exact ⟨_, .list (ha ▸ h1) rfl rfl rs⟩
    · cases e
  | rng a b c => cases e
  | g v => cases e

noncomputable abbrev Op2 := V → V → (V → List O → Prop) → List O → Prop
noncomputable def okD (x : PyData) : Bool := x.canLay0 && decide (x.depth ≤ 50)
theorem okD_lay {x : PyData} (h : okD x = true) : x.canLay0 = true ∧ x.depth ≤ 50 := by simpa [okD] using h

noncomputable def opAdd : Op2 := fun va vb Q hp => match va, vb with
  | .d (.int a), .d (.int b) => Q (.d (.int (a + b))) hp
  | .d (.str a), .d (.str b) => a.length + b.length ≤ sizeLine ∧ Q (.d (.str (a ++ b))) hp
  | va, vb => ∃ l1 l2, lget va hp = some l1 ∧ lget vb hp = some l2 ∧ l1.length + l2.length ≤ sizeLine ∧ Q (.d (.list (l1 ++ l2))) hp
theorem s_add : Sound2 K r (binaryOp .Add) opAdd := by
  intro A ok ρ hp s va vb ra rb Q E q H ha hb
  unfold opAdd at q
  split at q
  · cases ha; cases hb
    exact PyProof.Rows.add_int (PostE.pure _ q H (.int ..))
  · cases ha; cases hb
    exact PyProof.Rows.add_str (fun t' tk => PostE.pure _ q.2 H (.str ..)) q.1
  · obtain ⟨l1, l2, e1, e2, hz, q⟩ := q
    obtain ⟨a, xs, n, rfl, h1, d1⟩ := lget_rel H ha e1
    obtain ⟨b, ys, n', rfl, h2, d2⟩ := lget_rel H hb e2
    have z1 := d1.length
    have z2 := d2.length
    simp only [Array.length_toList] at z1 z2
    refine P.add_list h1 h2 ?_ (by omega)
    have hk : ∀ b o, s.heap.get? b = some o → (s.heap.push { cls := .type "list", data := .seq (xs ++ ys) }).get? b = some o := fun _ _ e => Heap.get?_push_of_some _ e
    refine ⟨_, hp, ρ, _, s.toks, rfl, q, H.push _, Step.push .., ?_⟩
    refine .list (n := 0) (vs := xs ++ ys) (Heap.get?_push_size _ rfl) H.sizeMu ?_
    rw [Array.toList_append]
    exact (d1.append d2).step (Step.push ..) H

noncomputable def opSub : Op2 := fun va vb Q hp => match va, vb with
  | .d (.int a), .d (.int b) => Q (.d (.int (a - b))) hp
  | _, _ => False
theorem s_sub : Sound2 K r (binaryOp .Sub) opSub := by
  intro A ok ρ hp s va vb ra rb Q E q H ha hb
  unfold opSub at q
  split at q
  · cases ha; cases hb
    exact PyProof.Rows.sub_int (PostE.pure _ q H (.int ..))
  · exact q.elim
noncomputable def opMod : Op2 := fun va vb Q hp => match va, vb with
  | .d (.int a), .d (.int b) => b ≠ 0 ∧ Q (.d (.int (a.fmod b))) hp
  | _, _ => False
theorem s_mod : Sound2 K r (binaryOp .Mod) opMod := by
  intro A ok ρ hp s va vb ra rb Q E q H ha hb
  unfold opMod at q
  split at q
  · cases ha; cases hb
    exact PyProof.Rows.mod_int' q.1 (PostE.pure _ q.2 H (.int ..))
  · exact q.elim
theorem noPylong {a b : Int} (hb : b.natAbs < 2 ^ 64) : Builtin.divisionGoesByPylong a b = false := by
  unfold Builtin.divisionGoesByPylong
  have : ¬ ((if (b == 0) = true then 0 else b.natAbs.log2 / 30 + 1) > 300) := by
    split
    · omega
    · have hne : b.natAbs ≠ 0 := by rename_i h; simpa using h
      have : b.natAbs.log2 < 64 := (Nat.log2_lt hne).mpr hb
      omega
  simp only [decide_eq_false this, Bool.false_and]
noncomputable def opDiv : Op2 := fun va vb Q hp => match va, vb with
  | .d (.int a), .d (.int b) => b ≠ 0 ∧ b.natAbs < 2 ^ 64 ∧ Q (.d (.int (a.fdiv b))) hp
  | _, _ => False
theorem s_div : Sound2 K r (binaryOp .FloorDiv) opDiv := by
  intro A ok ρ hp s va vb ra rb Q E q H ha hb
  unfold opDiv at q
  split at q
  · cases ha; cases hb
    exact PyProof.Rows.floordiv_int q.1 (PostE.pure _ q.2.2 H (.int ..)) (.inl (noPylong q.2.1))
  · exact q.elim

noncomputable def opEq : Op2 := fun va vb Q hp => match va, vb with
  | .d (.int a), .d (.int b) => Q (.d (.bool (a == b))) hp
  | .d (.str a), .d (.str b) => Q (.d (.bool (a == b))) hp
  | va, vb => ∃ x y, dget va hp = some x ∧ dget vb hp = some y ∧ okD x = true ∧ okD y = true ∧ Q (.d (.bool (x.eqv y))) hp
theorem s_eq : Sound2 K r (compareOp .Eq) opEq := by
  intro A ok ρ hp s va vb ra rb Q E q H ha hb
  unfold opEq at q
  split at q
  · cases ha; cases hb
    exact PyProof.Rows.eq_int (PostE.pure0 q H (.bool ..))
  · cases ha; cases hb
    exact PyProof.Rows.eq_str (PostE.pure0 q H (.bool ..))
  · obtain ⟨x, y, e1, e2, o1, o2, q⟩ := q
    obtain ⟨as, r1⟩ := dget_rel H ha e1
    obtain ⟨bs, r2⟩ := dget_rel H hb e2
    have := (okD_lay o1).2
    have := ok.un
    exact SeqAt.compareEq_reads r1 r2 (okD_lay o1).1 (okD_lay o2).1 (by omega) (PostE.pure0 q H (.bool ..))
noncomputable def opNe : Op2 := fun va vb Q hp => match va, vb with
  | .d (.int a), .d (.int b) => Q (.d (.bool (a != b))) hp
  | .d (.str a), .d (.str b) => Q (.d (.bool (a != b))) hp
  | va, vb => ∃ x y, dget va hp = some x ∧ dget vb hp = some y ∧ okD x = true ∧ okD y = true ∧ Q (.d (.bool (!x.eqv y))) hp
theorem s_ne : Sound2 K r (compareOp .NotEq) opNe := by
  intro A ok ρ hp s va vb ra rb Q E q H ha hb
  unfold opNe at q
  split at q
  · cases ha; cases hb
    exact PyProof.Rows.ne_int (PostE.pure0 q H (.bool ..))
  · cases ha; cases hb
    exact PyProof.Rows.ne_str (PostE.pure0 q H (.bool ..))
  · obtain ⟨x, y, e1, e2, o1, o2, q⟩ := q
    obtain ⟨as, r1⟩ := dget_rel H ha e1
    obtain ⟨bs, r2⟩ := dget_rel H hb e2
    have := (okD_lay o1).2
    have := ok.un
    exact SeqAt.compareNe_reads r1 r2 (okD_lay o1).1 (okD_lay o2).1 (by omega) (PostE.pure0 q H (.bool ..))
noncomputable def opLt : Op2 := fun va vb Q hp => match va, vb with
  | .d (.int a), .d (.int b) => Q (.d (.bool (decide (a < b)))) hp
  | _, _ => False
theorem s_lt : Sound2 K r (compareOp .Lt) opLt := by
  intro A ok ρ hp s va vb ra rb Q E q H ha hb
  unfold opLt at q
  split at q
  · cases ha; cases hb
    exact PyProof.Rows.lt_int (PostE.pure0 q H (.bool ..))
  · exact q.elim
theorem depth_all {l : List PyData} (h : okD (.list l) = true) : PyData.canLayAll0 l = true ∧ PyData.depthAll l ≤ 50 := by
  have := okD_lay h
  simp only [PyData.canLay0, PyData.depth] at this
  exact ⟨this.1, by omega⟩
noncomputable def opIn : Op2 := fun va vb Q hp => match va, vb with
  | .d (.str y), .d (.str x) => Q (.d (.bool (Txt.contains x y))) hp
  | va, vb => ∃ x l, dget va hp = some x ∧ lget vb hp = some l ∧ okD x = true ∧ okD (.list l) = true ∧ Q (.d (.bool (l.any fun y => y.eqv x))) hp
theorem s_in : Sound2 K r (compareOp .In) opIn := by
  intro A ok ρ hp s va vb ra rb Q E q H ha hb
  unfold opIn at q
  split at q
  · cases ha; cases hb
    exact SB.contains (PostE.pure0 q H (.bool ..))
  · obtain ⟨x, l, e1, e2, o1, o2, q⟩ := q
    obtain ⟨as, r1⟩ := dget_rel H ha e1
    obtain ⟨b, ys, n', rfl, h2, d2⟩ := lget_rel H hb e2
    obtain ⟨bs, r2⟩ := d2.reads
    have := (okD_lay o1).2
    have := ok.un
    exact SeqAt.in_list_reads (.list h2 rfl rfl r2) r1 (depth_all o2).1 (okD_lay o1).1 (by omega) (PostE.pure0 q H (.bool ..))
noncomputable def isNoneV : V → Bool
  | .d .none => true
  | _ => false
theorem isNoneV_rel {v : V} {rv : Value} (q : VR ρ h v rv) : (rv == Value.none) = isNoneV v := by
  cases v with
  | d x => cases q <;> rfl
  | r i => obtain ⟨p, _, rfl⟩ := q; rfl
  | rng a b c => obtain ⟨p, _, _, _, rfl, _⟩ := q; rfl
  | g v => obtain ⟨rfl, z⟩ := q; cases rv <;> first | rfl | exact z.elim
noncomputable def opIsNot : Op2 := fun va vb Q hp => match vb with
  | .d .none => Q (.d (.bool (!isNoneV va))) hp
  | _ => False
theorem s_isNot : Sound2 K r (compareOp .IsNot) opIsNot := by
  intro A ok ρ hp s va vb ra rb Q E q H ha hb
  unfold opIsNot at q
  split at q
  · cases hb
    exact isNot_none (PostE.pure0 q H (by rw [isNoneV_rel ha]; exact .bool ..))
  · exact q.elim

/-- truth of a value -/
noncomputable def truthV (v : V) (Q : Bool → List O → Prop) (hp : List O) : Prop := match v with
  | .d (.bool b) => Q b hp
  | .d (.int i) => Q (i != 0) hp
  | .d (.str x) => x.length ≤ sizeLine ∧ Q ((x.length : Int) != 0) hp
  | .d .none => Q false hp
  | .d (.tuple l) => l.length ≤ sizeLine ∧ Q (!l.isEmpty) hp
  | v => ∃ l, lget v hp = some l ∧ l.length ≤ sizeLine ∧ Q (!l.isEmpty) hp
theorem PostB.pure {K : KX} {ρ : Rho} {hp : List O} {s : Shared} {Q : Bool → List O → Prop} {b : Bool} (t : Nat) (q : Q b hp) (H : HRel K ρ hp s.heap) :
    PostB K ρ s Q b { s with toks := t } := ⟨hp, ρ, s.heap, t, rfl, q, H, Step.refl ..⟩
theorem PostB.pure0 {K : KX} {ρ : Rho} {hp : List O} {s : Shared} {Q : Bool → List O → Prop} {b : Bool} (q : Q b hp) (H : HRel K ρ hp s.heap) :
    PostB K ρ s Q b s := ⟨hp, ρ, s.heap, s.toks, rfl, q, H, Step.refl ..⟩
theorem isEmpty_of_length {α β : Type} {l : List α} {m : List β} (e : l.length = m.length) : l.isEmpty = m.isEmpty := by
  cases l <;> cases m <;> simp_all
theorem s_truth {A : Around} {s : Shared} {v : V} {rv : Value} {Q : Bool → List O → Prop} {E : Value → Shared → Prop} (q : truthV v Q hp) (H : HRel K ρ hp s.heap) (hv : VR ρ s.heap v rv) :
    wpAny (model K.prog K.w) A (truthy rv) (PostB K ρ s Q) E s := by
  have hsz := sizeLine_eq
  unfold truthV at q
  split at q
  · cases hv; exact wpAny_truthy_bool (PostB.pure0 q H)
  · cases hv; exact PyProof.Rows.truthy_int (PostB.pure0 q H)
  · cases hv; exact P.truthy_str (by omega) (PostB.pure _ q.2 H)
  · cases hv; exact PyProof.Rows.truthy_none (PostB.pure0 q H)
  · cases hv with
    | tuple h1 h2 h3 =>
      have z := h3.length
      rename_i vs n
      refine PyProof.Rows.truthy_tuple (items := vs) ⟨_, h1, rfl, _, rfl⟩ (by simp at z; omega) ?_
      have : vs.isEmpty = vs.toList.isEmpty := by cases vs; simp
      rw [this, isEmpty_of_length z]
      exact PostB.pure _ q.2 H
  · obtain ⟨l, e, hz, q⟩ := q
    obtain ⟨a, xs, n, rfl, h1, d1⟩ := lget_rel H hv e
    have z := d1.length
    refine wpAny_truthy_list h1.isList (by simp at z; omega) ?_
    have : xs.isEmpty = xs.toList.isEmpty := by cases xs; simp
    rw [this, isEmpty_of_length z]
    exact PostB.pure _ q H
end

section
variable {K : KX} {r : Nat} {env : Env} {look : Str → Option Nat}
/-- tests -/
noncomputable def bCmp (f : Op2) (a b : XE) : XB := fun vs Q => a vs fun va => b vs fun vb => f va vb fun v => truthV v Q
theorem b_cmp {l rr : Expr} {op : CmpOp} {pos : Pos} {f : Op2} {a b : XE} (hf : Sound2 K r (compareOp op) f) (ha : SoundE K r env look l a) (hb : SoundE K r env look rr b)
    (hm : behindInMarks op rr = false) : SoundB K r env look (.Compare l [op] [rr] pos) (bCmp f a b) := by
  intro A ok vs Q hp ρ s E q F H
  refine wpAny_isTrue_Compare1 (ha.then ok q F H ?_) hm
  intro va hp₁ ρ₁ h₁ t₁ ra q₁ H₁ S₁ r₁ F₁
  refine hb.then ok (s := { s with heap := h₁, toks := t₁ }) q₁ F₁ H₁ ?_
  intro vb hp₂ ρ₂ h₂ t₂ rb q₂ H₂ S₂ r₂ F₂
  refine wpAny_mono (hf A ok ρ₂ hp₂ { s with heap := h₂, toks := t₂ } va vb ra rb _ E q₂ H₂ (r₁.step S₂ H₁) r₂) ?_ (fun _ _ x => x)
  rintro rv s' ⟨v, hp', ρ', h', t, rfl, q', H', S, rr⟩
  refine wpAny_mono (s_truth (s := { s with heap := h', toks := t }) q' H' rr) ?_ (fun _ _ x => x)
  exact fun b s' p => PostB.after ((S₁.trans S₂).trans S) p
noncomputable def bVal (a : XE) : XB := fun vs Q => a vs fun v => truthV v Q
theorem b_val {e : Expr} {a : XE} (ha : SoundE K r env look e a) (he : ∀ whole, isTrue e env whole = (do let v ← whole; standAt e.pos; holding [v] (truthy v))) : SoundB K r env look e (bVal a) := by
  intro A ok vs Q hp ρ s E q F H
  refine wpAny_isTrue_value (ha.then ok q F H ?_) (he _)
  intro va hp₁ ρ₁ h₁ t₁ ra q₁ H₁ S₁ r₁ F₁
  refine wpAny_mono (s_truth (s := { s with heap := h₁, toks := t₁ }) q₁ H₁ r₁) ?_ (fun _ _ x => x)
  exact fun b s' p => PostB.after S₁ p
/-- and, or of two -/
noncomputable def bAnd (a b : XB) : XB := fun vs Q => a vs fun x hp => match x with | true => b vs Q hp | false => Q false hp
noncomputable def bOr (a b : XB) : XB := fun vs Q => a vs fun x hp => match x with | true => Q true hp | false => b vs Q hp
theorem b_or {x y : Expr} {pos : Pos} {a b : XB} (ha : SoundB K r env look x a) (hb : SoundB K r env look y b) : SoundB K r env look (.BoolOp .Or [x, y] pos) (bOr a b) := by
  intro A ok vs Q hp ρ s E q F H
  refine wpAny_isTrue_BoolOp (wpAny_allTrue_Or_cons (ha.then ok q F H ?_))
  intro c hp₁ ρ₁ h₁ t₁ q₁ H₁ S₁ F₁
  cases c with
  | true => exact ⟨hp₁, ρ₁, h₁, t₁, rfl, q₁, H₁, S₁⟩
  | false =>
    refine wpAny_allTrue_Or_cons (hb.then ok (s := { s with heap := h₁, toks := t₁ }) q₁ F₁ H₁ ?_)
    intro c hp₂ ρ₂ h₂ t₂ q₂ H₂ S₂ F₂
    cases c with
    | true => exact ⟨hp₂, ρ₂, h₂, t₂, rfl, q₂, H₂, S₁.trans S₂⟩
    | false => exact wpAny_allTrue_Or_nil ⟨hp₂, ρ₂, h₂, t₂, rfl, q₂, H₂, S₁.trans S₂⟩
/-- conditional expression -/
noncomputable def xIte (t : XB) (a b : XE) : XE := fun vs Q => t vs fun x hp => match x with | true => a vs Q hp | false => b vs Q hp
theorem e_ite {t x y : Expr} {pos : Pos} {p : XB} {a b : XE} (ht : SoundB K r env look t p) (ha : SoundE K r env look x a) (hb : SoundE K r env look y b) : SoundE K r env look (.IfExp t x y pos) (xIte p a b) := by
  intro A ok vs Q hp ρ s E q F H
  refine wpAny_IfExp (ht.then ok q F H ?_)
  intro c hp₁ ρ₁ h₁ t₁ q₁ H₁ S₁ F₁
  cases c with
  | true => exact wpAny_mono (ha A ok vs Q hp₁ ρ₁ { s with heap := h₁, toks := t₁ } E q₁ F₁ H₁) (fun rv s' p => PostE.after S₁ p) (fun _ _ x => x)
  | false => exact wpAny_mono (hb A ok vs Q hp₁ ρ₁ { s with heap := h₁, toks := t₁ } E q₁ F₁ H₁) (fun rv s' p => PostE.after S₁ p) (fun _ _ x => x)
/-- and, or as values -/
noncomputable def xAnd (a b : XE) : XE := fun vs Q => a vs fun v => truthV v fun x hp => match x with | true => b vs Q hp | false => Q v hp
theorem e_and {x y : Expr} {pos : Pos} {a b : XE} (ha : SoundE K r env look x a) (hb : SoundE K r env look y b) : SoundE K r env look (.BoolOp .And [x, y] pos) (xAnd a b) := by
  intro A ok vs Q hp ρ s E q F H
  show wpAny _ A (boolOp pos .And [eval x env, eval y env]) _ E s
  refine wpAny_bind (ha.then ok q F H ?_)
  intro va hp₁ ρ₁ h₁ t₁ ra q₁ H₁ S₁ r₁ F₁
  refine wpAny_bind (wpAny_standAt (wpAny_bind (wpAny_holding (wpAny_mono (s_truth (s := { s with heap := h₁, toks := t₁ }) q₁ H₁ r₁) ?_ (fun _ _ x => x)))))
  rintro c s' ⟨hp', ρ', h', t, rfl, q', H', S⟩
  cases c with
  | false => exact wpAny_pure ⟨va, hp', ρ', h', t, rfl, q', H', S₁.trans S, r₁.step S H₁⟩
  | true => exact wpAny_mono (hb A ok vs Q hp' ρ' { s with heap := h', toks := t } E q' (F₁.step H₁ S) H') (fun rv s' p => PostE.after (S₁.trans S) p) (fun _ _ x => x)
noncomputable def xNeg (a : XE) : XE := fun vs Q => a vs fun v hp => match v with | .d (.int i) => Q (.d (.int (-i))) hp | _ => False
theorem e_neg {x : Expr} {pos : Pos} {a : XE} (ha : SoundE K r env look x a) : SoundE K r env look (.UnaryOp .USub x pos) (xNeg a) := by
  intro A ok vs Q hp ρ s E q F H
  refine wpAny_UnaryOp (ha.then ok q F H ?_)
  intro va hp₁ ρ₁ h₁ t₁ ra q₁ H₁ S₁ r₁ F₁
  split at q₁
  · cases r₁
    exact PyProof.Rows.neg_int (PostE.after S₁ (PostE.pure _ q₁ H₁ (.int ..)))
  · exact q₁.elim
end
end Mine

set_option autoImplicit false
set_option linter.unusedVariables false
namespace Mine
open PySem PySem.Spec PySem.Calls PyProof.Rows

inductive VRs (ρ : Rho) (h : Heap) : List V → List Value → Prop
  | nil : VRs ρ h [] []
  | cons {v : V} {vs : List V} {x : Value} {xs : List Value} : VR ρ h v x → VRs ρ h vs xs → VRs ρ h (v :: vs) (x :: xs)
theorem VRs.step {K : KX} {ρ ρ' : Rho} {hp : List O} {h h' : Heap} (S : Step K ρ h ρ' h') (H : HRel K ρ hp h) {vs : List V} {xs : List Value} (r : VRs ρ h vs xs) : VRs ρ' h' vs xs := by
  induction vs generalizing xs with
  | nil => cases r; exact .nil
  | cons v vs ih => cases r with | cons a b => exact .cons (a.step S H) (ih b)
theorem VRs.length {ρ : Rho} {h : Heap} {vs : List V} {xs : List Value} (r : VRs ρ h vs xs) : vs.length = xs.length := by
  induction vs generalizing xs with
  | nil => cases r; rfl
  | cons v vs ih => cases r with | cons a b => simp [ih b]
theorem VRs.append {ρ : Rho} {h : Heap} {vs vs' : List V} {xs xs' : List Value} (r : VRs ρ h vs xs) (q : VRs ρ h vs' xs') : VRs ρ h (vs ++ vs') (xs ++ xs') := by
  induction vs generalizing xs with
  | nil => cases r; exact q
  | cons v vs ih => cases r with | cons a b => exact .cons a (ih b)

noncomputable abbrev XL := List (Option V) → (List V → List O → Prop) → List O → Prop
inductive PostL (K : KX) (ρ : Rho) (s : Shared) (Q : List V → List O → Prop) (rvs : List Value) (s' : Shared) : Prop
  | mk (vs : List V) (hp' : List O) (ρ' : Rho) (h' : Heap) (t : Nat) (e : s' = { s with heap := h', toks := t }) (q : Q vs hp') (H : HRel K ρ' hp' h') (S : Step K ρ s.heap ρ' h') (r : VRs ρ' h' vs rvs)
noncomputable def SoundL (K : KX) (r : Nat) (env : Env) (look : Str → Option Nat) (es : List Expr) (p : XL) : Prop :=
  ∀ A, OkA r A → ∀ pos vs Q hp ρ s E, p vs Q hp → FRel K env look vs ρ s.heap → HRel K ρ hp s.heap →
    wpAny (model K.prog K.w) A (spliced (backTo pos (starEach es env))) (PostL K ρ s Q) E s
section
variable {K : KX} {r : Nat} {env : Env} {look : Str → Option Nat}
noncomputable def lNil : XL := fun _ Q => Q []
noncomputable def lCons (a : XE) (p : XL) : XL := fun vs Q => a vs fun v => p vs fun l => Q (v :: l)
theorem l_nil : SoundL K r env look [] lNil := fun A ok pos vs Q hp ρ s E q F H => spliced_none ⟨_, hp, ρ, s.heap, s.toks, rfl, q, H, Step.refl .., .nil⟩
theorem l_cons {e : Expr} {es : List Expr} {a : XE} {p : XL} (ha : SoundE K r env look e a) (hp : SoundL K r env look es p)
    (he : starEach (e :: es) env = (false, eval e env) :: starEach es env) : SoundL K r env look (e :: es) (lCons a p) := by
  intro A ok pos vs Q hp' ρ s E q F H
  refine spliced_more (ha.then ok q F H ?_) he
  intro va hp₁ ρ₁ h₁ t₁ ra q₁ H₁ S₁ r₁ F₁
  refine wpAny_mono (hp A ok pos vs _ hp₁ ρ₁ { s with heap := h₁, toks := t₁ } E q₁ F₁ H₁) ?_ (fun _ _ x => x)
  rintro rvs s' ⟨l, hp₂, ρ₂, h₂, t₂, rfl, q₂, H₂, S₂, r₂⟩
  exact ⟨va :: l, hp₂, ρ₂, h₂, t₂, rfl, q₂, H₂, S₁.trans S₂, .cons (r₁.step S₂ H₁) r₂⟩

/-- data of values -/
noncomputable def datas : List V → Option (List PyData)
  | [] => some []
  | .d x :: l => (datas l).map (x :: ·)
  | _ :: _ => none
theorem datas_rel {ρ : Rho} {h : Heap} : ∀ {vs : List V} {xs : List Value} {ds : List PyData}, VRs ρ h vs xs → datas vs = some ds → DRs h (mu ρ) xs ds
  | [], _, _, r, e => by cases r; cases e; exact .nil
  | .d x :: l, _, _, r, e => by
    cases r with
    | cons a b =>
      simp only [datas, Option.map_eq_some_iff] at e
      obtain ⟨ds, e, rfl⟩ := e
      exact .cons a (datas_rel b e)
  | .r _ :: _, _, _, _, e => by cases e
  | .rng .. :: _, _, _, _, e => by cases e
  | .g _ :: _, _, _, _, e => by cases e

/-- a new list: kept as data, or as an object that may be written (m) -/
noncomputable def mkL (m : Bool) (xs : List PyData) (Q : V → List O → Prop) (hp : List O) : Prop :=
  match m with | false => Q (.d (.list xs)) hp | true => Q (.r hp.length) (hp ++ [.lst xs])
theorem mkL_rel {m : Bool} {xs : List PyData} {Q : V → List O → Prop} {hp : List O} {ρ : Rho} {s : Shared} {h' : Heap} {a : Addr} {vs : Array Value} (q : mkL m xs Q hp) (H : HRel K ρ hp s.heap)
    (hk : ∀ b o, s.heap.get? b = some o → h'.get? b = some o) (ha : s.heap.get? a = none) (hl : IsL h' a vs 0) (d : DRs s.heap (mu ρ) vs.toList xs) (t : Nat) :
    PostE K ρ s Q (.ref a) { s with heap := h', toks := t } := by
  have d' : DRs h' (mu ρ) vs.toList xs := d.step (Step.grow (K := K) hk) H
  cases m with
  | false => exact PostE.grown t q H hk (.list hl (H.notMu ha) d')
  | true =>
    have hd : DRs h' (mu (ρ ++ [⟨a, a, []⟩])) vs.toList xs := by
      refine d.mono fun b o vs n e _ hm => ⟨hk _ _ e, ?_⟩
      simp only [mu, List.map_append, List.map_cons, List.map_nil, List.mem_append, List.mem_singleton, not_or]
      exact ⟨hm, ne_of_get? ha e⟩
    obtain ⟨H', S'⟩ := H.add hk (p := ⟨a, a, []⟩) (o := .lst xs) ha ⟨_, hl⟩ (fun _ h => nomatch h) ⟨rfl, vs, 0, hl, hd⟩
    exact ⟨_, _, _, h', t, rfl, q, H', S', ⟨⟨a, a, []⟩, by rw [← H.len]; simp, rfl⟩⟩

noncomputable def xList (m : Bool) (p : XL) : XE := fun vs Q => p vs fun l hp => match datas l with | some xs => xs.length ≤ sizeLine ∧ mkL m xs Q hp | none => False
theorem e_list {m : Bool} {es : List Expr} {pos : Pos} {p : XL} (hp : SoundL K r env look es p) : SoundE K r env look (.List es pos) (xList m p) := by
  intro A ok vs Q hp' ρ s E q F H
  show wpAny _ A (do standAt pos; newList (← spliced (backTo pos (starEach es env)))) _ E s
  refine wpAny_bind (wpAny_standAt (wpAny_bind (wpAny_mono (hp A ok pos vs _ hp' ρ s E q F H) ?_ (fun _ _ x => x))))
  rintro rvs s' ⟨l, hp₁, ρ₁, h₁, t₁, rfl, q₁, H₁, S₁, r₁⟩
  split at q₁
  · rename_i xs e
    have d := datas_rel r₁ e
    have hz := d.length
    refine wpAny_newList (PostE.after S₁ (mkL_rel (s := { s with heap := h₁, toks := t₁ }) (vs := rvs.toArray) q₁.2 H₁ (fun _ _ e => Heap.get?_push_of_some _ e) (get?_beyond (Nat.le_refl _)) (Heap.get?_push_size _ rfl) d t₁)) (by omega)
  · exact q₁.elim
noncomputable def xTuple (p : XL) : XE := fun vs Q => p vs fun l hp => match datas l with | some xs => xs.length ≤ sizeLine ∧ Q (.d (.tuple xs)) hp | none => False
theorem e_tuple {es : List Expr} {k : Nat} {pos : Pos} {p : XL} (hp : SoundL K r env look es p) : SoundE K r env look (.Tuple es k pos) (xTuple p) := by
  intro A ok vs Q hp' ρ s E q F H
  show wpAny _ A (do standAt pos; newTuple (← spliced (backTo pos (starEach es env)))) _ E s
  refine wpAny_bind (wpAny_standAt (wpAny_bind (wpAny_mono (hp A ok pos vs _ hp' ρ s E q F H) ?_ (fun _ _ x => x))))
  rintro rvs s' ⟨l, hp₁, ρ₁, h₁, t₁, rfl, q₁, H₁, S₁, r₁⟩
  split at q₁
  · rename_i xs e
    have d := datas_rel r₁ e
    have hz := d.length
    refine wpAny_newTuple (PostE.after S₁ (PostE.grown (s := { s with heap := h₁, toks := t₁ }) t₁ q₁.2 H₁ (fun _ _ e => Heap.get?_push_of_some _ e) ?_)) (by omega)
    exact .tuple (n := 0) (vs := rvs.toArray) (Heap.get?_push_size _ rfl) H₁.sizeMu (d.step (Step.push K ..) H₁)
  · exact q₁.elim

/-- a built-in's call, all arguments evaluated -/
theorem callWith_builtin {M : Model} {A : Around} {E : Value → Shared → Prop} {s : Shared} {pos : Pos} {id : String} {first : List Value} {trees : List (Bool × Sem Value)} {Q : Value → Shared → Prop}
    (hp : trees.any (·.1) = false) (h : wpAny M A (spliced trees) (fun vs s₁ => wpAny M A (call (.builtin id) (first ++ vs)) Q E s₁) E s) : wpAny M A (callWith pos (.builtin id) first trees []) Q E s := by
  unfold callWith
  have ev : wpAny M A (evalArgs (.builtin id) true trees []) (fun x s₁ => x.kw = [] ∧ wpAny M A (call (.builtin id) (first ++ x.pos)) Q E s₁) E s := by
    cases trees with
    | nil =>
      refine evalArgs_kw_nil rfl ?_
      refine wpAny_mono (Q := fun vs s₁ => vs = [] ∧ wpAny M A (call (.builtin id) (first ++ [])) Q E s₁) ?_ (fun ks s₁ h₁ => ?_) (fun _ _ x => x)
      · refine wpAny_evalAll_nil ⟨rfl, ?_⟩
        have : wpAny M A (spliced []) (fun vs s₁ => wpAny M A (call (.builtin id) (first ++ vs)) Q E s₁) E s := h
        exact fun Γ p hΓ => this Γ p hΓ Γ p hΓ
      · exact ⟨by simp, h₁.2⟩
    | cons x rest =>
      obtain ⟨b, t⟩ := x
      simp only [List.any_cons, Bool.or_eq_false_iff] at hp
      obtain ⟨rfl, _⟩ := hp
      exact Calls.evalArgs_plain (wpAny_mono h (fun vs s₁ h₁ => ⟨rfl, h₁⟩) fun _ _ x => x)
  refine wpAny_bind (wpAny_holding (wpAny_mono ev (fun x s₁ h₁ => wpAny_bind (wpAny_standAt ?_)) fun _ _ x => x))
  obtain ⟨hk, h₁⟩ := h₁
  rw [hp, hk]
  refine wpAny_bind (wpAny_pure (a := Keeper.machine) ?_)
  exact wpAny_bind (wpAny_mono h₁ (fun r s₂ hr => wpAny_bind (wpAny_holding (wpAny_point (wpAny_pure hr)))) fun _ _ x => x)
end
end Mine

set_option autoImplicit false
set_option linter.unusedVariables false
namespace Mine
open PySem PySem.Spec PySem.Calls PyProof.Rows

section
variable {K : KX} {r : Nat} {env : Env} {look : Str → Option Nat}

/-- a method of a text -/
noncomputable abbrev MS := Str → List V → (V → List O → Prop) → List O → Prop
noncomputable def SoundMS (K : KX) (r : Nat) (id : String) (f : MS) : Prop :=
  ∀ A, OkA r A → ∀ ρ hp s x t vas ras Q E, f x vas Q hp → HRel K ρ hp s.heap → VRs ρ s.heap vas ras → wpAny (model K.prog K.w) A (call (.builtin id) (.str x t :: ras)) (PostE K ρ s Q) E s
noncomputable def xMethS (f : MS) (a : XE) (p : XL) : XE := fun vs Q => a vs fun vo hp => match vo with | .d (.str x) => p vs (fun vas => f x vas Q) hp | _ => False
theorem e_methS {o : Expr} {name : Str} {id : String} {args : List Expr} {apos pos : Pos} {f : MS} {a : XE} {p : XL} (hf : SoundMS K r id f) (ho : SoundE K r env look o a) (hp : SoundL K r env look args p)
    (slot : Slot "str" name id) (hty : typeOf (.builtin id) = pure (.type "method_descriptor"))
    (hbase : attributeBase o name env (eval o env) = eval o env)
    (hfew : ((backTo pos (starEach args env)).all (fun x => !x.1) && (backToKw pos (keywordEach [] env)).all (fun x => x.1.isSome)
      && decide (args.length + ([] : List Keyword).length + (if ([] : List Keyword).isEmpty then 0 else 1) < 30)) = true)
    (hline : (apos.endLine == pos.line) = true) : SoundE K r env look (.Call (.Attribute o name apos) args [] pos) (xMethS f a p) := by
  intro A ok vs Q hp' ρ s E q F H
  refine wpAny_Call_method_lateS hbase hfew hline (ho.then ok q F H ?_)
  intro va hp₁ ρ₁ h₁ t₁ ra q₁ H₁ S₁ r₁ F₁
  split at q₁
  · rename_i x
    cases r₁
    refine ⟨"str", id, PySem.F.plainAttrs_str, slot, hty, typeIs_str _ _ _, (fun _ e => nomatch e), callWith_builtin ?_ ?_⟩
    · have := hfew
      simp only [Bool.and_eq_true, List.all_eq_true, Bool.not_eq_true'] at this
      rw [List.any_eq_false]
      intro y hy; simpa using this.1.1 y hy
    · refine wpAny_mono (hp A ok pos vs _ hp₁ ρ₁ { s with heap := h₁, toks := t₁ } E q₁ F₁ H₁) ?_ (fun _ _ x => x)
      rintro rvs s' ⟨l, hp₂, ρ₂, h₂, t₂, rfl, q₂, H₂, S₂, r₂⟩
      refine wpAny_mono (hf A ok ρ₂ hp₂ { s with heap := h₂, toks := t₂ } x _ l rvs Q E q₂ H₂ r₂) ?_ (fun _ _ x => x)
      exact fun rv s' p => PostE.after (S₁.trans S₂) p
  · exact q₁.elim

noncomputable def mFind : MS := fun x vas Q hp => match vas with | [.d (.str y)] => Q (.d (.int (Txt.find x y))) hp | _ => False
noncomputable def mCount : MS := fun x vas Q hp => match vas with | [.d (.str y)] => Q (.d (.int (Txt.count x y))) hp | _ => False
theorem m_count : SoundMS K r "str.count" mCount := by
  intro A ok ρ hp s x t vas ras Q E q H hv
  unfold mCount at q
  split at q
  · cases hv with | cons a b => cases b; cases a; exact SC.count (PostE.pure _ q H (.int ..))
  · exact q.elim
noncomputable def mLower : MS := fun x vas Q hp => match vas with | [] => (Txt.lower x).length ≤ sizeLine ∧ Q (.d (.str (Txt.lower x))) hp | _ => False
theorem m_lower : SoundMS K r "str.lower" mLower := by
  intro A ok ρ hp s x t vas ras Q E q H hv
  unfold mLower at q
  split at q
  · cases hv; exact SC.lower (by simp only [Builtin.Str.tooLong, decide_eq_false_iff_not]; omega) (PostE.pure _ q.2 H (.str ..))
  · exact q.elim
noncomputable def strsOf : List PyData → Option (List Str)
  | [] => some []
  | .str x :: l => (strsOf l).map (x :: ·)
  | _ => none
theorem strsOf_rel {h : Heap} {μ : List Addr} : ∀ {vs : List Value} {xs : List PyData} {ts : List Str}, DRs h μ vs xs → strsOf xs = some ts → ∃ l, vs = strValues l ∧ l.map (·.1) = ts
  | _, [], _, r, e => by cases r; cases e; exact ⟨[], rfl, rfl⟩
  | _, x :: xs, ts, r, e => by
    cases r with
    | cons a b =>
      cases x with
      | str y =>
        simp only [strsOf, Option.map_eq_some_iff] at e
        obtain ⟨ts', e, rfl⟩ := e
        obtain ⟨l, rfl, rfl⟩ := strsOf_rel b e
        cases a
        rename_i t
        exact ⟨(y, t) :: l, rfl, rfl⟩
      | _ => cases e
noncomputable def mJoin : MS := fun x vas Q hp => match vas with
  | [v] => ∃ l ts, lget v hp = some l ∧ strsOf l = some ts ∧ JoinOk x ts = true ∧ Q (.d (.str (Txt.join x ts))) hp
  | _ => False
theorem m_join : SoundMS K r "str.join" mJoin := by
  intro A ok ρ hp s x t vas ras Q E q H hv
  unfold mJoin at q
  split at q
  · cases hv with
    | cons a b =>
      cases b
      obtain ⟨l, ts, e1, e2, hj, q⟩ := q
      obtain ⟨ad, vs, n, rfl, h1, d1⟩ := lget_rel H a e1
      obtain ⟨l', e3, e4⟩ := strsOf_rel d1 e2
      have : vs = (strValues l').toArray := by rw [← e3]
      subst this
      exact SC.join h1.isList e4 hj fun t' k => PostE.pure _ q H (.str ..)
  · exact q.elim
noncomputable def mSplit : MS := fun x vas Q hp => match vas with
  | [.d (.str y)] => y.length ≠ 0 ∧ x.length + 2 ≤ sizeLine ∧ Q (.d (.list ((Txt.split x y).map .str))) hp
  | _ => False
theorem strs_DRs {h : Heap} {μ : List Addr} : ∀ l : List (Str × Tok), DRs h μ (strValues l) ((l.map (·.1)).map .str)
  | [] => .nil
  | (x, t) :: l => .cons (.str x t) (strs_DRs l)
open Builtin.Str in
theorem m_split : SoundMS K r "str.split" mSplit := by
  intro A ok ρ hp s x t vas ras Q E q H hv
  unfold mSplit at q
  split at q
  · rename_i y
    cases hv with
    | cons a b =>
      cases b; cases a
      rename_i u
      obtain ⟨hy0, hsz, q⟩ := q
      have hy : (y.length == 0) = false := by simpa using hy0
      have hn : (partsBetween x (occurrences x y 0 x.length (x.length + 1)) y.length).length ≤ sizeLine := by
        have e1 := StrLaws.occ_length_le x y 0 x.length (x.length + 1)
        rw [length_partsBetween]; omega
      have key : ∀ (l : List (Str × Tok)) (k : Nat), l.map (·.1) = Txt.split x y →
          PostE K ρ s Q (.ref s.heap.objs.size) { s with heap := s.heap.push { cls := .type "list", data := .seq (strValues l).toArray }, toks := k } := by
        intro l k e
        refine PostE.grown k q H (fun _ _ e => Heap.get?_push_of_some _ e) ?_
        refine .list (n := 0) (vs := (strValues l).toArray) (Heap.get?_push_size _ rfl) H.sizeMu ?_
        rw [← e]
        exact strs_DRs l
      cases h1 : (decide (x.length < y.length) || decide (strKind x < strKind y))
      · cases hf : (occurrences x y 0 x.length (x.length + 1)).isEmpty
        · refine call_meets PySem.F.slot_str_split (typeIs_str _ _ _) PySem.F.entry_str_split (PySem.F.args_str_split_2 _ _) (meets_str_split_sep x y t u h1 hy hf (by omega) hn) ?_
          show wants (PostE K ρ s Q) E _ { s with toks := _, heap := s.heap.push { cls := .type "list", data := .seq (strsFrom s.toks (partsBetween x (occurrences x y 0 x.length (x.length + 1)) y.length)).toArray } }
          rw [strsFrom_eq]
          exact key (numbered s.toks _) _ ((numbered_texts _ _).trans ((if_neg (ne_true_of_eq_false h1)).trans (if_neg (ne_true_of_eq_false hf))).symm)
        · exact call_meets PySem.F.slot_str_split (typeIs_str _ _ _) PySem.F.entry_str_split (PySem.F.args_str_split_2 _ _) (meets_str_split_not_found x y t u h1 hy hf)
            (key [(x, t)] s.toks ((if_neg (ne_true_of_eq_false h1)).trans (if_pos hf)).symm)
      · exact call_meets PySem.F.slot_str_split (typeIs_str _ _ _) PySem.F.entry_str_split (PySem.F.args_str_split_2 _ _) (meets_str_split_cannot_occur x y t u h1)
          (key [(x, t)] s.toks (if_pos h1).symm)
  · exact q.elim

/-- a method of a list -/
noncomputable abbrev ML := V → List V → (V → List O → Prop) → List O → Prop
noncomputable def SoundML (K : KX) (r : Nat) (id : String) (f : ML) : Prop :=
  ∀ A, OkA r A → ∀ ρ hp s v l rv vas ras Q E, f v vas Q hp → HRel K ρ hp s.heap → VR ρ s.heap v rv → lget v hp = some l → VRs ρ s.heap vas ras → wpAny (model K.prog K.w) A (call (.builtin id) (rv :: ras)) (PostE K ρ s Q) E s
noncomputable def xMethL (f : ML) (a : XE) (p : XL) : XE := fun vs Q => a vs fun vo hp => (lget vo hp).isSome = true ∧ p vs (fun vas hp' => (lget vo hp').isSome = true ∧ f vo vas Q hp') hp
theorem e_methL {o : Expr} {name : Str} {id : String} {args : List Expr} {apos pos : Pos} {f : ML} {a : XE} {p : XL} (hf : SoundML K r id f) (ho : SoundE K r env look o a) (hp : SoundL K r env look args p)
    (slot : Slot "list" name id) (hty : typeOf (.builtin id) = pure (.type "method_descriptor"))
    (hbase : attributeBase o name env (eval o env) = eval o env)
    (hfew : ((backTo pos (starEach args env)).all (fun x => !x.1) && (backToKw pos (keywordEach [] env)).all (fun x => x.1.isSome)
      && decide (args.length + ([] : List Keyword).length + (if ([] : List Keyword).isEmpty then 0 else 1) < 30)) = true)
    (hline : (apos.endLine == pos.line) = true) : SoundE K r env look (.Call (.Attribute o name apos) args [] pos) (xMethL f a p) := by
  intro A ok vs Q hp' ρ s E q F H
  refine wpAny_Call_method_lateS hbase hfew hline (ho.then ok q F H ?_)
  intro vo hp₁ ρ₁ h₁ t₁ ra q₁ H₁ S₁ r₁ F₁
  obtain ⟨hl, q₁⟩ := q₁
  obtain ⟨l, el⟩ := Option.isSome_iff_exists.mp hl
  obtain ⟨ad, xs, n, rfl, hL, _⟩ := lget_rel H₁ r₁ el
  refine ⟨"list", id, PySem.F.plainAttrs_list, slot, hty, ⟨_, hL, rfl⟩, (fun a e => by cases e; exact ⟨_, hL, rfl⟩), callWith_builtin ?_ ?_⟩
  · have := hfew
    simp only [Bool.and_eq_true, List.all_eq_true, Bool.not_eq_true'] at this
    rw [List.any_eq_false]
    intro y hy; simpa using this.1.1 y hy
  · refine wpAny_mono (hp A ok pos vs _ hp₁ ρ₁ { s with heap := h₁, toks := t₁ } E q₁ F₁ H₁) ?_ (fun _ _ x => x)
    rintro rvs s' ⟨l', hp₂, ρ₂, h₂, t₂, rfl, ⟨hl₂, q₂⟩, H₂, S₂, r₂⟩
    obtain ⟨l₂, el₂⟩ := Option.isSome_iff_exists.mp hl₂
    refine wpAny_mono (hf A ok ρ₂ hp₂ { s with heap := h₂, toks := t₂ } vo l₂ (.ref ad) l' rvs Q E q₂ H₂ (r₁.step S₂ H₁) el₂ r₂) ?_ (fun _ _ x => x)
    exact fun rv s' p => PostE.after (S₁.trans S₂) p

/-- a list object of the abstract heap is written -/
theorem put_list {A : Around} {ρ : Rho} {hp : List O} {s : Shared} {i : Nat} {l l' : List PyData} {p : P} {f : Array Value → Array Value} {vs : Array Value} {n : Nat} (H : HRel K ρ hp s.heap) (e : hp[i]? = some (.lst l)) (ep : ρ[i]? = some p)
    (hL : IsL s.heap p.m vs n) (hpm : p.a = p.m) (d : DRs s.heap (mu ρ) (f vs).toList l') :
    HRel K ρ (hp.set i (.lst l')) (s.heap.update p.m (Obj.mapSeq f)) ∧ Step K ρ s.heap ρ (s.heap.update p.m (Obj.mapSeq f)) := by
  have hs : Heap.SameBut p.m s.heap (s.heap.update p.m (Obj.mapSeq f)) := Heap.SameBut.update ..
  have hd : ∃ o, (s.heap.update p.m (Obj.mapSeq f)).get? p.m = some o := ⟨_, hL.update f⟩
  have S := Step.own (K := K) (List.mem_of_getElem? ep) hs hd
  refine ⟨H.own ep (List.getElem?_eq_some_iff.mp e).1 hs ?_ hd, S⟩
  exact ⟨hpm, f vs, _, hL.update f, d.step S H⟩
noncomputable def atL (v : V) (hp : List O) (k : Nat → List PyData → Prop) : Prop := match v with
  | .r i => match hp[i]? with | some (.lst l) => k i l | _ => False
  | _ => False
theorem atL_rel {ρ : Rho} {hp : List O} {s : Shared} {v : V} {rv : Value} {k : Nat → List PyData → Prop} (q : atL v hp k) (H : HRel K ρ hp s.heap) (hv : VR ρ s.heap v rv) :
    ∃ i l p vs n, v = .r i ∧ hp[i]? = some (.lst l) ∧ ρ[i]? = some p ∧ rv = .ref p.m ∧ p.a = p.m ∧ IsL s.heap p.m vs n ∧ DRs s.heap (mu ρ) vs.toList l ∧ k i l := by
  unfold atL at q
  split at q
  · rename_i i
    split at q
    · rename_i l e
      obtain ⟨p, ep, rfl⟩ := hv
      obtain ⟨ha, vs, n, h1, h2⟩ := H.at e ep
      exact ⟨i, l, p, vs, n, rfl, e, ep, by rw [ha], ha, h1, h2, q⟩
    · exact q.elim
  · exact q.elim
noncomputable def mAppend : ML := fun v vas Q hp => match vas with
  | [.d x] => atL v hp fun i l => l.length ≤ sizeLine ∧ Q (.d .none) (hp.set i (.lst (l ++ [x])))
  | _ => False
theorem m_append : SoundML K r "list.append" mAppend := by
  intro A ok ρ hp s v l₀ rv vas ras Q E q H hv el hvs
  unfold mAppend at q
  split at q
  · rename_i x
    obtain ⟨i, l, p, vs, n, rfl, e, ep, rfl, ha, hL, d, hz, q⟩ := atL_rel q H hv
    cases hvs with
    | cons a b =>
      cases b
      have z := d.length
      simp only [Array.length_toList] at z
      rename_i rx
      obtain ⟨H', S'⟩ := put_list (A := A) (f := fun xs => xs.push rx) (l' := l ++ [x]) H e ep hL ha (by simpa using d.append (.cons a .nil))
      refine call_meets PySem.F.slot_list_append ⟨_, hL, rfl⟩ PySem.F.entry_list_append (PySem.F.args_list_append_2 _ _) (list_append p.m vs n rx (by omega)) ⟨hL, ?_⟩
      exact ⟨_, _, ρ, _, s.toks, rfl, q, H', S', .none⟩
  · exact q.elim
noncomputable def mReverse : ML := fun v vas Q hp => match vas with
  | [] => atL v hp fun i l => l.length ≤ sizeLine ∧ Q (.d .none) (hp.set i (.lst l.reverse))
  | _ => False
theorem m_reverse : SoundML K r "list.reverse" mReverse := by
  intro A ok ρ hp s v l₀ rv vas ras Q E q H hv el hvs
  unfold mReverse at q
  split at q
  · obtain ⟨i, l, p, vs, n, rfl, e, ep, rfl, ha, hL, d, hz, q⟩ := atL_rel q H hv
    cases hvs
    have z := d.length
    simp only [Array.length_toList] at z
    obtain ⟨H', S'⟩ := put_list (A := A) (f := fun xs => xs.reverse) (l' := l.reverse) H e ep hL ha (by simpa using d.reverse)
    refine call_meets PySem.F.slot_list_reverse ⟨_, hL, rfl⟩ PySem.F.entry_list_reverse (PySem.F.args_list_reverse_1 _) (AutoSeq1.list_reverse_list_0 p.m vs n (by omega)) ⟨hL, ?_⟩
    exact ⟨_, _, ρ, _, s.toks, rfl, q, H', S', .none⟩
  · exact q.elim
noncomputable def mPop : ML := fun v vas Q hp => match vas with
  | [] => atL v hp fun i l => match l.getLast? with | some x => l.length ≤ sizeLine ∧ Q (.d x) (hp.set i (.lst l.dropLast)) | none => False
  | [.d (.int 0)] => atL v hp fun i l => match l with | x :: t => l.length ≤ sizeLine ∧ Q (.d x) (hp.set i (.lst t)) | [] => False
  | _ => False
theorem erase_last {α : Type} (xs : Array α) : (xs.eraseIdxIfInBounds (xs.size - 1)).toList = xs.toList.dropLast := by
  have h : (xs.eraseIdxIfInBounds (xs.size - 1)).toList = xs.toList.eraseIdx (xs.size - 1) := by
    unfold Array.eraseIdxIfInBounds
    split
    · simp
    · rename_i h
      have : xs.toList = [] := by
        have : xs.size = 0 := by omega
        simpa using this
      simp [this]
  rw [h, ← Array.length_toList, List.eraseIdx_length_sub_one]
theorem erase_first {α : Type} (xs : Array α) : (xs.eraseIdxIfInBounds 0).toList = xs.toList.drop 1 := by
  unfold Array.eraseIdxIfInBounds
  split
  · simp [List.eraseIdx_zero]
  · rename_i h
    have : xs.toList = [] := by
      have : xs.size = 0 := by omega
      simpa using this
    simp [this]
theorem DRs.dropLast {h : Heap} {μ : List Addr} {vs : List Value} {xs : List PyData} (d : DRs h μ vs xs) : DRs h μ vs.dropLast xs.dropLast := by
  rw [List.dropLast_eq_take, List.dropLast_eq_take, d.length]; exact d.take _
theorem m_pop : SoundML K r "list.pop" mPop := by
  intro A ok ρ hp s v l₀ rv vas ras Q E q H hv el hvs
  unfold mPop at q
  split at q
  · obtain ⟨i, l, p, vs, n, rfl, e, ep, rfl, ha, hL, d, q⟩ := atL_rel q H hv
    cases hvs
    have z := d.length
    simp only [Array.length_toList] at z
    split at q
    · rename_i x ex
      rw [List.getLast?_eq_getElem?] at ex
      obtain ⟨y, ey, dy⟩ := d.get ex
      obtain ⟨H', S'⟩ := put_list (A := A) (f := fun xs => xs.eraseIdxIfInBounds (vs.size - 1)) (l' := l.dropLast) H e ep hL ha (by rw [erase_last]; exact d.dropLast)
      refine call_meets PySem.F.slot_list_pop ⟨_, hL, rfl⟩ PySem.F.entry_list_pop (PySem.F.args_list_pop_1 _) (MeetsSeq.list_pop_last p.m vs n y (by rw [z]; simpa using ey) (by omega)) ⟨hL, ?_⟩
      exact ⟨_, _, ρ, _, s.toks, rfl, q.2, H', S', dy.step S' H⟩
    · exact q.elim
  · obtain ⟨i, l, p, vs, n, rfl, e, ep, rfl, ha, hL, d, q⟩ := atL_rel q H hv
    cases hvs with
    | cons a b =>
      cases b; cases a
      rename_i u
      have z := d.length
      simp only [Array.length_toList] at z
      split at q
      · rename_i x t
        obtain ⟨y, ey, dy⟩ := d.get (k := 0) (x := x) rfl
        obtain ⟨H', S'⟩ := put_list (A := A) (f := fun xs => xs.eraseIdxIfInBounds 0) (l' := t) H e ep hL ha (by rw [erase_first]; exact d.drop 1)
        have hpos : 0 < vs.size := by rw [z]; simp
        refine call_meets PySem.F.slot_list_pop ⟨_, hL, rfl⟩ PySem.F.entry_list_pop (PySem.F.args_list_pop_2 _ _) (MeetsSeq.list_pop_at p.m vs n 0 u 0 y (by decide) (by simp [seqIndex?, hpos]) (by simpa using ey) (by omega)) ⟨hL, ?_⟩
        exact ⟨_, _, ρ, _, s.toks, rfl, q.2, H', S', dy.step S' H⟩
      · exact q.elim
  · exact q.elim
end
end Mine

set_option autoImplicit false
set_option linter.unusedVariables false
namespace Mine
open PySem PySem.Spec PySem.Calls PyProof.Rows

/-- Python's slice of a list -/
noncomputable def psl {α : Type} (l : List α) (lo hi : Option Int) : List α :=
  (l.drop (lo.elim 0 (clipAt l.length))).take (hi.elim l.length (clipAt l.length) - lo.elim 0 (clipAt l.length))
theorem clipAt_le (n : Nat) (i : Int) : clipAt n i ≤ n := by
  have := clipAt_cast n i
  omega
theorem strSlice_eq (x : Str) (lo hi : Option Int) : Txt.slice x lo hi = ⟨(psl x.cps.toList lo hi).toArray⟩ := by
  have e : Builtin.Str.strSliceIndices lo hi 1 x.length = (List.range (hi.elim x.length (clipAt x.length) - lo.elim 0 (clipAt x.length))).map (lo.elim 0 (clipAt x.length) + ·) := by
    rw [← sliceRange_one]
    cases lo <;> cases hi <;> simp [Builtin.Str.strSliceIndices, clipAt_cast]
  have hl : x.cps.toList.length = x.length := by simp [Str.length]
  have p : ((Builtin.Str.strSliceIndices lo hi 1 x.length).filterMap (x.cps[·]?)) = psl x.cps.toList lo hi := by
    rw [e, pick_run]
    unfold psl
    rw [hl]
  unfold Txt.slice
  split
  · rename_i h
    rw [e] at h
    simp only [List.length_map, List.length_range] at h
    have h2 : hi.elim x.length (clipAt x.length) - lo.elim 0 (clipAt x.length) = x.length := by simpa using h
    have hb : hi.elim x.length (clipAt x.length) ≤ x.length := by cases hi <;> simp [clipAt_le]
    have : psl x.cps.toList lo hi = x.cps.toList := by
      unfold psl
      rw [hl, h2]
      rcases Nat.eq_zero_or_pos x.length with h0 | h0
      · have : x.cps.toList = [] := by rw [h0] at hl; exact List.length_eq_zero_iff.mp hl
        rw [this]; simp
      · have : lo.elim 0 (clipAt x.length) = 0 := by omega
        rw [this, List.drop_zero, ← hl, List.take_length]
    rw [this]
  · rw [p]

section
variable {K : KX} {r : Nat} {env : Env} {look : Str → Option Nat}

noncomputable def mIndex : ML := fun v vas Q hp => match vas with
  | [w] => ∃ y l, dget w hp = some y ∧ lget v hp = some l ∧ okD y = true ∧ okD (.list l) = true ∧ l.length ≤ sizeLine ∧ ∃ j, l.findIdx? (fun z => z.eqv y) = some j ∧ Q (.d (.int j)) hp
  | _ => False
theorem m_index : SoundML K r "list.index" mIndex := by
  intro A ok ρ hp s v l₀ rv vas ras Q E q H hv el hvs
  unfold mIndex at q
  split at q
  · obtain ⟨y, l, ey, el', o1, o2, hz, j, ej, q⟩ := q
    cases hvs with
    | cons a b =>
      cases b
      rename_i ry
      obtain ⟨as, ry'⟩ := dget_rel H a ey
      obtain ⟨ad, xs, n, rfl, hL, d⟩ := lget_rel H hv el'
      obtain ⟨bs, rl⟩ := d.reads
      have hc := depth_all o2
      have := (okD_lay o1).2
      have := ok.un
      have z := d.length
      simp only [Array.length_toList] at z
      have em := SeqAt.readsAll_map l _ _ hc.1 rl
      rw [List.findIdx?_eq_some_iff_getElem] at ej
      obtain ⟨hj, h1, h2⟩ := ej
      have hj' : j < xs.size := by rw [z]; exact hj
      have gi : ∀ m (hm : m < xs.size), SeqAt.readOf s.heap xs[m] = l[m]'(by rw [← z]; exact hm) := by
        intro m hm
        have : (xs.toList.map (SeqAt.readOf s.heap))[m]? = l[m]? := by rw [em]
        rw [List.getElem?_map, List.getElem?_eq_getElem (by simpa using hm), List.getElem?_eq_getElem (by rw [← z]; exact hm)] at this
        simpa using this
      have hsl := sizeLine_eq
      refine call_meets PySem.F.slot_list_index ⟨_, hL, rfl⟩ PySem.F.entry_list_index (PySem.F.args_list_index_2 _ _)
        (SeqAt.list_indexAt ad xs n none #[] ry (fun y' => PyData.eqv (SeqAt.readOf s.heap y') y) j hj' (by omega) (by rw [gi j hj']; exact h1) (fun m hm hmj => by rw [gi m hm]; simpa using h2 m hmj))
        ⟨hL, SeqAt.items_eqAt rl ry' hc.1 (okD_lay o1).1 (by omega), PostE.pure _ q H (.int ..)⟩
  · exact q.elim

/-- an item -/
noncomputable def opItem : Op2 := fun va vb Q hp => match vb with
  | .d (.int i) => (-2 ^ 63 ≤ i ∧ i < 2 ^ 63) ∧ (match va with
    | .d (.str x) => match Txt.charAt x i with | some c => Q (.d (.str ⟨#[c]⟩)) hp | none => False
    | .d (.tuple l) => match (seqIndex? i l.length).bind (l[·]?) with | some y => Q (.d y) hp | none => False
    | va => ∃ l, lget va hp = some l ∧ match (seqIndex? i l.length).bind (l[·]?) with | some y => Q (.d y) hp | none => False)
  | _ => False
theorem seqIndex_pos {i : Int} {n k : Nat} (h : seqIndex? i n = some k) : k < n ∧ (0 ≤ i → i.toNat = k) ∧ (i < 0 → -(n : Int) ≤ i ∧ (i + n).toNat = k) := by
  by_cases hn : i < 0
  · simp only [seqIndex?, hn, if_true] at h
    split at h
    · rename_i hc
      simp only [Bool.and_eq_true, decide_eq_true_eq] at hc
      simp only [Option.some.injEq] at h
      exact ⟨by omega, by omega, fun _ => ⟨by omega, h⟩⟩
    · cases h
  · simp only [seqIndex?, hn, if_false] at h
    split at h
    · rename_i hc
      simp only [Bool.and_eq_true, decide_eq_true_eq] at hc
      simp only [Option.some.injEq] at h
      exact ⟨by omega, fun _ => h, fun h => absurd h (by omega)⟩
    · cases h
theorem e_sub {value slice : Expr} {pos : Pos} {a b : XE} (ha : SoundE K r env look value a) (hb : SoundE K r env look slice b)
    (hs : ∀ o i, subscripted slice false o i = operate [o, i] (getItem o i)) : SoundE K r env look (.Subscript value slice pos) (xBin opItem a b) := by
  intro A ok vs Q hp ρ s E q F H
  refine Subscript_ (ha.then ok q F H ?_)
  intro va hp₁ ρ₁ h₁ t₁ ra q₁ H₁ S₁ r₁ F₁
  refine hb.then ok (s := { s with heap := h₁, toks := t₁ }) q₁ F₁ H₁ ?_
  intro vb hp₂ ρ₂ h₂ t₂ rb q₂ H₂ S₂ r₂ F₂
  have r₁' := r₁.step S₂ H₁
  have done : ∀ {w : V} {rw : Value} (t : Nat), Q w hp₂ → VR ρ₂ h₂ w rw → PostE K ρ s Q rw { s with heap := h₂, toks := t } := fun t q r => ⟨_, hp₂, ρ₂, h₂, t, rfl, q, H₂, S₁.trans S₂, r⟩
  unfold opItem at q₂
  split at q₂
  · rename_i i
    cases r₂
    rename_i u
    obtain ⟨⟨hlo, hhi⟩, q₂⟩ := q₂
    split at q₂
    · rename_i x
      cases r₁'
      split at q₂
      · rename_i c hc
        refine tail_any (typeIs_str _ _ _) PySem.F.slot_str_getitem.lookup ?_ (hs _ _)
        exact PyProof.Rows.getItem_str (by simp only [Bool.or_eq_false_iff, decide_eq_false_iff_not]; omega) hc (done _ q₂ (.str ..))
      · exact q₂.elim
    · rename_i l
      cases r₁' with
      | tuple h1 h2 h3 =>
        rename_i ad xs n
        split at q₂
        · rename_i y hy
          obtain ⟨k, hk, hy⟩ := Option.bind_eq_some_iff.mp hy
          obtain ⟨w, hw, dw⟩ := h3.get hy
          have z := h3.length
          simp only [Array.length_toList] at z
          refine tail_any (T := "tuple") ⟨_, h1, rfl⟩ PySem.F.slot_tuple_getitem.lookup ?_ (hs _ _)
          exact PyProof.Rows.getItem_tuple (items := xs) ⟨_, h1, rfl, _, rfl⟩ hlo hhi (by rw [z]; exact hk) (by simpa using hw) (done _ q₂ dw)
        · exact q₂.elim
    · obtain ⟨l, el, q₂⟩ := q₂
      obtain ⟨ad, xs, n, rfl, hL, d⟩ := lget_rel H₂ r₁' el
      split at q₂
      · rename_i y hy
        obtain ⟨k, hk, hy⟩ := Option.bind_eq_some_iff.mp hy
        obtain ⟨w, hw, dw⟩ := d.get hy
        have z := d.length
        simp only [Array.length_toList] at z
        obtain ⟨p1, p2, p3⟩ := seqIndex_pos hk
        refine tail_any (T := "list") hL.isList.typeIs slot_list_getitem.lookup ?_ (hs _ _)
        rcases Int.lt_or_le i 0 with hneg | hpos
        · have := p3 hneg
          exact wpAny_getItem_list_neg hL.isList hneg (by omega) hlo (by rw [z, this.2]; simpa using hw) (done _ q₂ dw)
        · exact wpAny_getItem_list hL.isList hpos hhi (by rw [p2 hpos]; simpa using hw) (done _ q₂ dw)
      · exact q₂.elim
  · exact q₂.elim

/-- a slice's part: none, or an int -/
noncomputable abbrev XP := List (Option V) → (Option Int → List O → Prop) → List O → Prop
noncomputable def pNone : XP := fun _ Q hp => Q none hp
noncomputable def pSome (a : XE) : XP := fun vs Q => a vs fun v hp => match v with | .d (.int i) => Q (some i) hp | _ => False
noncomputable def SoundP (K : KX) (r : Nat) (env : Env) (look : Str → Option Nat) (e : Option Expr) (p : XP) : Prop :=
  ∀ A, OkA r A → ∀ vs Q hp ρ s E, p vs Q hp → FRel K env look vs ρ s.heap → HRel K ρ hp s.heap →
    wpAny (model K.prog K.w) A (evalPart e env) (fun rv s' => ∃ o hp' ρ' h' t, s' = { s with heap := h', toks := t } ∧ IsPart rv o ∧ Q o hp' ∧ HRel K ρ' hp' h' ∧ Step K ρ s.heap ρ' h') E s
theorem p_none : SoundP K r env look none pNone := fun A ok vs Q hp ρ s E q F H => wpAny_pure ⟨none, hp, ρ, s.heap, s.toks, rfl, .none, q, H, Step.refl ..⟩
theorem p_some {e : Expr} {a : XE} (ha : SoundE K r env look e a) : SoundP K r env look (some e) (pSome a) := by
  intro A ok vs Q hp ρ s E q F H
  refine ha.then ok q F H ?_
  intro va hp₁ ρ₁ h₁ t₁ ra q₁ H₁ S₁ r₁ F₁
  split at q₁
  · cases r₁; exact ⟨_, hp₁, ρ₁, h₁, t₁, rfl, .int .., q₁, H₁, S₁⟩
  · exact q₁.elim
/-- a slice -/
noncomputable def sliceV (va : V) (lo hi : Option Int) (Q : V → List O → Prop) (hp : List O) : Prop := match va with
  | .d (.str x) => x.length ≤ sizeLine ∧ Q (.d (.str ⟨(psl x.cps.toList lo hi).toArray⟩)) hp
  | .d (.tuple l) => match lo, hi with | some (Int.ofNat (a + 1)), none => a + 1 ≤ l.length ∧ l.length ≤ sizeLine ∧ Q (.d (.tuple (l.drop (a + 1)))) hp | _, _ => False
  | va => ∃ l, lget va hp = some l ∧ l.length ≤ sizeLine ∧ Q (.d (.list (psl l lo hi))) hp
noncomputable def xSlice (a : XE) (lo hi : XP) : XE := fun vs Q => a vs fun va => lo vs fun l => hi vs fun u => sliceV va l u Q
theorem psl_DRs {h : Heap} {μ : List Addr} {vs : List Value} {xs : List PyData} (d : DRs h μ vs xs) (lo hi : Option Int) : DRs h μ (psl vs lo hi) (psl xs lo hi) := by
  unfold psl
  rw [d.length]
  exact (d.drop _).take _
theorem e_slice {value : Expr} {lower upper : Option Expr} {p pos : Pos} {a : XE} {lo hi : XP} (ha : SoundE K r env look value a) (hl : SoundP K r env look lower lo) (hu : SoundP K r env look upper hi) :
    SoundE K r env look (.Subscript value (.Slice lower upper none p) pos) (xSlice a lo hi) := by
  intro A ok vs Q hp ρ s E q F H
  refine Subscript_ (ha.then ok q F H ?_)
  intro va hp₁ ρ₁ h₁ t₁ ra q₁ H₁ S₁ r₁ F₁
  refine wpAny_Slice (wpAny_mono (hl A ok vs _ hp₁ ρ₁ { s with heap := h₁, toks := t₁ } E q₁ F₁ H₁) ?_ (fun _ _ x => x))
  rintro vl s₂ ⟨l, hp₂, ρ₂, h₂, t₂, rfl, pl, q₂, H₂, S₂⟩
  refine wpAny_mono (hu A ok vs _ hp₂ ρ₂ { s with heap := h₂, toks := t₂ } E q₂ (F₁.step H₁ S₂) H₂) ?_ (fun _ _ x => x)
  rintro vu s₃ ⟨u, hp₃, ρ₃, h₃, t₃, rfl, pu, q₃, H₃, S₃⟩
  refine wpAny_pure ?_
  have r₁' := (r₁.step S₂ H₁).step S₃ H₂
  have S := (S₁.trans S₂).trans S₃
  have ops : ∀ o i, subscripted (.Slice lower upper none p) false o i = operate [i, o] (getItem o i) := fun _ _ => rfl
  have H₄ : HRel K ρ₃ hp₃ (h₃.push { cls := .type "slice", data := .fields #[vl, vu, .none] }) := H₃.push _
  have S₄ : Step K ρ₃ h₃ ρ₃ (h₃.push { cls := .type "slice", data := .fields #[vl, vu, .none] }) := Step.push ..
  have sl : (h₃.push { cls := .type "slice", data := .fields #[vl, vu, .none] }).IsSliceOf h₃.objs.size vl vu .none := Heap.IsSliceOf.new ..
  have r₄ := r₁'.step S₄ H₃
  unfold sliceV at q₃
  split at q₃
  · rename_i x
    cases r₄
    rename_i tx
    refine tail_any (typeIs_str _ _ _) PySem.F.slot_str_getitem.lookup ?_ (ops _ _)
    have fin : ∀ t' k, PostE K ρ s Q (.str (Txt.slice x l u) t') { s with heap := h₃.push { cls := .type "slice", data := .fields #[vl, vu, .none] }, toks := k } := by
      intro t' k
      refine ⟨_, hp₃, ρ₃, _, k, rfl, q₃.2, H₄, S.trans S₄, ?_⟩
      rw [strSlice_eq]
      exact .str ..
    cases pl with
    | none => cases pu with
      | none => exact wpAny_getItem_str_slice (l := none) (u := none) (st := none) sl rfl (post_val_or_str ⟨Nat.le_trans (Txt.slice_le x _ _) q₃.1, fin⟩)
      | int j tj => exact wpAny_getItem_str_slice (l := none) (u := some (j, tj)) (st := none) sl rfl (post_val_or_str ⟨Nat.le_trans (Txt.slice_le x _ _) q₃.1, fin⟩)
    | int i ti => cases pu with
      | none => exact wpAny_getItem_str_slice (l := some (i, ti)) (u := none) (st := none) sl rfl (post_val_or_str ⟨Nat.le_trans (Txt.slice_le x _ _) q₃.1, fin⟩)
      | int j tj => exact wpAny_getItem_str_slice (l := some (i, ti)) (u := some (j, tj)) (st := none) sl rfl (post_val_or_str ⟨Nat.le_trans (Txt.slice_le x _ _) q₃.1, fin⟩)
  · rename_i xs
    cases r₄ with
    | tuple h1 h2 h3 =>
      rename_i ad ys n
      split at q₃
      · rename_i a'
        cases pl; cases pu
        rename_i tl
        obtain ⟨hle, hz, q₃⟩ := q₃
        have z := h3.length
        simp only [Array.length_toList] at z
        refine tail_any (T := "tuple") ⟨_, h1, rfl⟩ PySem.F.slot_tuple_getitem.lookup ?_ (ops _ _)
        refine PyProof.Rows.getItem_tuple_from (items := ys) (a := a' + 1) ⟨_, h1, rfl, _, rfl⟩ sl (by omega) (by omega) ?_ (by omega)
        refine PostE.after (S.trans S₄) (PostE.grown (s := { s with heap := h₃.push { cls := .type "slice", data := .fields #[_, .none, .none] }, toks := t₃ }) t₃ q₃ H₄ (fun _ _ e => Heap.get?_push_of_some _ e) ?_)
        exact .tuple (n := 0) (Heap.get?_push_size _ rfl) H₄.sizeMu ((h3.drop (a' + 1)).step (Step.push K ..) H₄)
      · exact q₃.elim
  · obtain ⟨xs, el, hz, q₃⟩ := q₃
    have H4 : HRel K ρ₃ hp₃ (h₃.push { cls := .type "slice", data := .fields #[vl, vu, .none] }) := H₄
    obtain ⟨ad, ys, n, rfl, hL, d⟩ := lget_rel H₄ r₄ el
    have z := d.length
    simp only [Array.length_toList] at z
    refine tail_any (T := "list") hL.isList.typeIs slot_list_getitem.lookup ?_ (ops _ _)
    refine wpAny_getItem_list_slice hL.isList sl pl pu .none (by simp) ?_ (by omega)
    refine PostE.after (S.trans S₄) (PostE.grown (s := { s with heap := h₃.push { cls := .type "slice", data := .fields #[vl, vu, .none] }, toks := t₃ }) t₃ q₃ H₄ (fun _ _ e => Heap.get?_push_of_some _ e) ?_)
    refine .list (n := 0) (Heap.get?_push_size _ rfl) H₄.sizeMu ?_
    rw [slicePick_plain]
    exact (psl_DRs d l u).step (Step.push K ..) H₄
end
end Mine

set_option autoImplicit false
set_option linter.unusedVariables false
namespace Mine
open PySem PySem.Spec PySem.Calls PyProof.Rows

noncomputable abbrev G := Option (Nat × List PyData)
/-- what a loop over a list object asks: the list stands as it stood -/
noncomputable def gOk : G → List O → Prop
  | none, _ => True
  | some (j, l), hp => hp[j]? = some (.lst l)
noncomputable def signsOf (x : Str) : List PyData := x.cps.toList.map fun c => .str ⟨#[c]⟩
noncomputable def rangeL (a b c : Int) : List PyData := (List.range (Builtin.Range.rangeSize a b c).toNat).map fun (k : Nat) => .int (a + c * (k : Int))

inductive IterAt (ρ : Rho) (h : Heap) (it : Addr) : G → List PyData → Prop
  | list {l : Addr} {vs : Array Value} {n i : Nat} {xs : List PyData} : h.IsListIter it l i → IsL h l vs n → l ∉ mu ρ → DRs h (mu ρ) (vs.toList.drop i) xs → IterAt ρ h it none xs
  | mlist {j : Nat} {l : List PyData} {p : P} {i : Nat} : ρ[j]? = some p → h.IsListIter it p.m i → IterAt ρ h it (some (j, l)) (l.drop i)
  | tuple {l : Addr} {vs : Array Value} {n i : Nat} {xs : List PyData} : h.IsTupleIter it l i → IsT h l vs n → l ∉ mu ρ → DRs h (mu ρ) (vs.toList.drop i) xs → IterAt ρ h it none xs
  | ascii {x : Str} {t : Tok} {i : Nat} : h.IsStrIter it "str_ascii_iterator" x t i → IterAt ρ h it none ((signsOf x).drop i)
  | wide {x : Str} {t : Tok} {i : Nat} : h.IsStrIter it "str_iterator" x t i → IterAt ρ h it none ((signsOf x).drop i)
  | range {x step : Int} {n : Nat} : IsRangeIter h it x n step → IterAt ρ h it none ((List.range n).map fun (k : Nat) => .int (x + step * (k : Int)))

section
variable {K : KX} {ρ ρ' : Rho} {hp : List O} {h h' : Heap} {it : Addr} {g : G} {xs : List PyData}
theorem IterAt.dom (I : IterAt ρ h it g xs) : ∃ o fs, h.get? it = some o ∧ o.data = .fields fs ∧ ∃ T, o.cls = .type T ∧ ["enumerate", "zip", "dict_itemiterator", "dict_reverseitemiterator", "odict_iterator", "itertools.zip_longest", "itertools.pairwise"].contains T = false ∧ T ≠ "range" := by
  cases I with
  | list h1 => obtain ⟨o, a, b, c⟩ := h1; exact ⟨o, _, a, c, _, b, by decide, by decide⟩
  | mlist _ h1 => obtain ⟨o, a, b, c⟩ := h1; exact ⟨o, _, a, c, _, b, by decide, by decide⟩
  | tuple h1 => obtain ⟨o, a, b, c⟩ := h1; exact ⟨o, _, a, c, _, b, by decide, by decide⟩
  | ascii h1 => obtain ⟨o, a, b, c⟩ := h1; exact ⟨o, _, a, c, _, b, by decide, by decide⟩
  | wide h1 => obtain ⟨o, a, b, c⟩ := h1; exact ⟨o, _, a, c, _, b, by decide, by decide⟩
  | range h1 => exact ⟨_, _, h1, rfl, _, rfl, by decide, by decide⟩
/-- the iterator stands where it and the frozen lists stand -/
theorem IterAt.keeps (I : IterAt ρ h it g xs) (hk : ∀ o, h.get? it = some o → h'.get? it = some o) (hd : ∀ a o vs n, h.get? a = some o → o.data = .seq vs n → a ∉ mu ρ → h'.get? a = some o ∧ a ∉ mu ρ') (hpre : ρ <+: ρ') : IterAt ρ' h' it g xs := by
  cases I with
  | list h1 h2 h3 h4 => obtain ⟨o, a, b, c⟩ := h1; exact .list ⟨o, hk _ a, b, c⟩ (hd _ _ _ _ h2 rfl h3).1 (hd _ _ _ _ h2 rfl h3).2 (h4.mono hd)
  | mlist e h1 => obtain ⟨o, a, b, c⟩ := h1; exact .mlist (pre_get hpre e) ⟨o, hk _ a, b, c⟩
  | tuple h1 h2 h3 h4 => obtain ⟨o, a, b, c⟩ := h1; exact .tuple ⟨o, hk _ a, b, c⟩ (hd _ _ _ _ h2 rfl h3).1 (hd _ _ _ _ h2 rfl h3).2 (h4.mono hd)
  | ascii h1 => obtain ⟨o, a, b, c⟩ := h1; exact .ascii ⟨o, hk _ a, b, c⟩
  | wide h1 => obtain ⟨o, a, b, c⟩ := h1; exact .wide ⟨o, hk _ a, b, c⟩
  | range h1 => exact .range (hk _ h1)
theorem drop_cons {α : Type} {l : List α} {i : Nat} {x : α} {xs : List α} (e : l.drop i = x :: xs) : l[i]? = some x ∧ l.drop (i + 1) = xs := by
  constructor
  · have : (l.drop i)[0]? = some x := by rw [e]; rfl
    simpa using this
  · have : (l.drop i).drop 1 = xs := by rw [e]; rfl
    simpa [List.drop_drop, Nat.add_comm] using this
theorem drop_nil {α : Type} {l : List α} {i : Nat} (e : l.drop i = []) : l[i]? = none := by
  have := List.drop_eq_nil_iff.mp e
  exact List.getElem?_eq_none this

theorem iter_next {A : Around} {s : Shared} {x : PyData} {E : Value → Shared → Prop} (I : IterAt ρ s.heap it g (x :: xs)) (H : HRel K ρ hp s.heap) (hg : gOk g hp) (hn : K.New it) (ho : Off ρ it) :
    wpAny (model K.prog K.w) A (pyNext (.ref it)) (fun r s' => ∃ rv h' t, s' = { s with heap := h', toks := t } ∧ r = some rv ∧ DR h' (mu ρ) rv x ∧ IterAt ρ h' it g xs ∧ HRel K ρ hp h' ∧ Heap.SameBut it s.heap h') E s := by
  have nonseq : ∀ o, s.heap.get? it = some o → ∀ vs n, o.data ≠ .seq vs n := by
    obtain ⟨o, fs, e, hd, _⟩ := I.dom
    intro o' e' vs n q
    rw [e] at e'; cases e'; rw [hd] at q; cases q
  have fin : ∀ {h' : Heap}, Heap.SameBut it s.heap h' → HRel K ρ hp h' := fun hs => H.other hn ho hs.extBut nonseq
  have kd : ∀ {h' : Heap}, Heap.SameBut it s.heap h' → ∀ a o vs n, s.heap.get? a = some o → o.data = .seq vs n → a ∉ mu ρ → h'.get? a = some o ∧ a ∉ mu ρ := by
    intro h' hs a o vs n e hd hm
    exact ⟨(hs.2 a (by rintro rfl; exact nonseq o e vs n hd)).trans e, hm⟩
  generalize hxx : x :: xs = ys at I
  cases I with
  | list h1 h2 h3 h4 =>
    subst hxx
    rename_i l vs n i
    generalize hv : vs.toList.drop i = ws at h4
    cases h4 with
    | cons d ds =>
      obtain ⟨e1, e2⟩ := drop_cons hv
      refine wpAny_pyNext_list_item h1 (IsL.isList h2) (by simpa using e1) fun h' hi hs => ?_
      exact ⟨_, h', s.toks, rfl, rfl, d.mono (kd hs), .list hi ((kd hs) _ _ _ _ h2 rfl h3).1 h3 (by rw [e2]; exact ds.mono (kd hs)), fin hs, hs⟩
  | mlist e h1 =>
    rename_i j l p i
    obtain ⟨e1, e2⟩ := drop_cons hxx.symm
    have hgo : hp[j]? = some (.lst l) := hg
    obtain ⟨_, vs, n, hL, d⟩ := H.at hgo e
    obtain ⟨w, ew, dw⟩ := d.get e1
    refine wpAny_pyNext_list_item h1 (IsL.isList hL) (by simpa using ew) fun h' hi hs => ?_
    exact ⟨_, h', s.toks, rfl, rfl, dw.mono (kd hs), by rw [← e2]; exact .mlist e hi, fin hs, hs⟩
  | tuple h1 h2 h3 h4 =>
    subst hxx
    rename_i l vs n i
    generalize hv : vs.toList.drop i = ws at h4
    cases h4 with
    | cons d ds =>
      obtain ⟨e1, e2⟩ := drop_cons hv
      refine wpAny_pyNext_tuple_item h1 ⟨_, h2, rfl, _, rfl⟩ (by simpa using e1) fun h' hi hs => ?_
      exact ⟨_, h', s.toks, rfl, rfl, d.mono (kd hs), .tuple hi ((kd hs) _ _ _ _ h2 rfl h3).1 h3 (by rw [e2]; exact ds.mono (kd hs)), fin hs, hs⟩
  | ascii h1 =>
    rename_i y t i
    obtain ⟨e1, e2⟩ := drop_cons hxx.symm
    unfold signsOf at e1
    rw [List.getElem?_map] at e1
    cases ec : y.cps.toList[i]? with
    | none => rw [ec] at e1; cases e1
    | some c =>
      rw [ec] at e1
      cases e1
      refine wpAny_pyNext_ascii_item h1 (by simpa using ec) fun h' hi hs => ?_
      exact ⟨_, h', _, rfl, rfl, .str .., by rw [← e2]; exact .ascii hi, fin hs, hs⟩
  | wide h1 =>
    rename_i y t i
    obtain ⟨e1, e2⟩ := drop_cons hxx.symm
    unfold signsOf at e1
    rw [List.getElem?_map] at e1
    cases ec : y.cps.toList[i]? with
    | none => rw [ec] at e1; cases e1
    | some c =>
      rw [ec] at e1
      cases e1
      refine wpAny_pyNext_wide_item h1 (by simpa using ec) fun h' hi hs => ?_
      exact ⟨_, h', _, rfl, rfl, .str .., by rw [← e2]; exact .wide hi, fin hs, hs⟩
  | range h1 =>
    rename_i y st n
    cases n with
    | zero => cases hxx
    | succ n =>
      rw [List.range_succ_eq_map, List.map_cons] at hxx
      injection hxx with hx1 hx2
      refine wpAny_pyNext_range_item h1 (by omega) fun h' hi hs => ?_
      have e : x = .int y := by rw [hx1]; simp
      have hi' : IsRangeIter h' it (y + st) (n : Int) st := by
        have : ((n + 1 : Nat) : Int) - 1 = (n : Int) := by omega
        rw [this] at hi; exact hi
      refine ⟨_, h', _, rfl, rfl, e ▸ .int .., ?_, fin hs, hs⟩
      rw [hx2, List.map_map]
      have : ((fun k => PyData.int (y + st * (k : Nat))) ∘ Nat.succ) = fun k : Nat => PyData.int (y + st + st * (k : Int)) := by
        funext k
        simp only [Function.comp, Nat.succ_eq_add_one]
        congr 1
        rw [Int.natCast_add, Int.mul_add]; simp; omega
      rw [this]
      exact .range hi'
theorem iter_end {A : Around} {s : Shared} {E : Value → Shared → Prop} (hh : A.handled = none) (I : IterAt ρ s.heap it g []) (H : HRel K ρ hp s.heap) (hg : gOk g hp) (hn : K.New it) (ho : Off ρ it) :
    wpAny (model K.prog K.w) A (pyNext (.ref it)) (fun r s' => ∃ h', s' = { s with heap := h' } ∧ r = none ∧ HRel K ρ hp h' ∧ Heap.ExtBut it s.heap h') E s := by
  have nonseq : ∀ o, s.heap.get? it = some o → ∀ vs n, o.data ≠ .seq vs n := by
    obtain ⟨o, fs, e, hd, _⟩ := I.dom
    intro o' e' vs n q
    rw [e] at e'; cases e'; rw [hd] at q; cases q
  have fin : ∀ h' : Heap, Heap.ExtBut it s.heap h' → ∃ h'', ({ s with heap := h' } : Shared) = { s with heap := h'' } ∧ (none : Option Value) = none ∧ HRel K ρ hp h'' ∧ Heap.ExtBut it s.heap h'' :=
    fun h' hs => ⟨h', rfl, rfl, H.other hn ho hs nonseq, hs⟩
  generalize hxx : ([] : List PyData) = ys at I
  cases I with
  | list h1 h2 h3 h4 =>
    subst hxx
    rename_i l vs n i
    generalize hv : vs.toList.drop i = ws at h4
    cases h4
    exact wpAny_pyNext_list_end hh h1 (IsL.isList h2) (by simpa using drop_nil hv) fin
  | mlist e h1 =>
    rename_i j l p i
    have e1 := drop_nil hxx.symm
    have hgo : hp[j]? = some (.lst l) := hg
    obtain ⟨_, vs, n, hL, d⟩ := H.at hgo e
    have z := d.length
    have : l.length ≤ i := List.getElem?_eq_none_iff.mp e1
    exact wpAny_pyNext_list_end hh h1 (IsL.isList hL) (by rw [← Array.getElem?_toList]; exact List.getElem?_eq_none (by omega)) fin
  | tuple h1 h2 h3 h4 =>
    subst hxx
    rename_i l vs n i
    generalize hv : vs.toList.drop i = ws at h4
    cases h4
    exact wpAny_pyNext_tuple_end hh h1 ⟨_, h2, rfl, _, rfl⟩ (by simpa using drop_nil hv) fin
  | ascii h1 =>
    rename_i y t i
    have e1 := drop_nil hxx.symm
    unfold signsOf at e1
    refine wpAny_pyNext_ascii_end hh h1 ?_ fin
    rw [List.getElem?_map] at e1
    simpa using e1
  | wide h1 =>
    rename_i y t i
    have e1 := drop_nil hxx.symm
    unfold signsOf at e1
    refine wpAny_pyNext_wide_end hh h1 ?_ fin
    rw [List.getElem?_map] at e1
    simpa using e1
  | range h1 =>
    rename_i y st n
    cases n with
    | zero => exact wpAny_pyNext_range_end hh h1 (by simp) fin
    | succ n => rw [List.range_succ_eq_map] at hxx; cases hxx

/-- what a value yields to a loop -/
noncomputable def iterV (v : V) (hp : List O) (k : G → List PyData → Prop) : Prop := match v with
  | .d (.list l) => k none l
  | .d (.tuple l) => k none l
  | .d (.str x) => k none (signsOf x)
  | .rng a b c => Builtin.Range.small a b c = true ∧ k none (rangeL a b c)
  | .r i => match hp[i]? with | some (.lst l) => k (some (i, l)) l | _ => False
  | _ => False
theorem rangeSize_nn (a b c : Int) : 0 ≤ Builtin.Range.rangeSize a b c := by
  unfold Builtin.Range.rangeSize
  split
  · split
    · have := Int.ediv_nonneg (a := b - a - 1) (b := c) (by omega) (by omega)
      omega
    · exact Int.le_refl _
  · split
    · have := Int.ediv_nonneg (a := a - b - 1) (b := -c) (by omega) (by omega)
      omega
    · exact Int.le_refl _
theorem iter_start {A : Around} {s : Shared} {v : V} {rv : Value} {E : Value → Shared → Prop} {k : G → List PyData → Prop} (q : iterV v hp k) (hv : VR ρ s.heap v rv) (H : HRel K ρ hp s.heap) :
    wpAny (model K.prog K.w) A (pyIter rv) (fun r s' => ∃ it g xs h', s' = { s with heap := h' } ∧ r = .ref it ∧ k g xs ∧ gOk g hp ∧ IterAt ρ h' it g xs ∧ s.heap.get? it = none ∧ (∀ b o, s.heap.get? b = some o → h'.get? b = some o)) E s := by
  have fr : s.heap.get? s.heap.objs.size = none := get?_beyond (Nat.le_refl _)
  have pk : ∀ ob b o, s.heap.get? b = some o → (s.heap.push ob).get? b = some o := fun ob _ _ e => Heap.get?_push_of_some _ e
  unfold iterV at q
  split at q
  · cases hv with
    | list h1 h2 h3 =>
      refine wpAny_pyIter_list (IsL.isList h1) ⟨_, none, _, _, rfl, rfl, q, trivial, ?_, fr, pk _⟩
      exact .list (i := 0) ⟨_, Heap.get?_push_size _ rfl, rfl, rfl⟩ (pk _ _ _ h1) h2 (by rw [List.drop_zero]; exact h3.step (Step.push K ..) H)
  · cases hv with
    | tuple h1 h2 h3 =>
      refine wpAny_pyIter_tuple ⟨_, h1, rfl, _, rfl⟩ ⟨_, none, _, _, rfl, rfl, q, trivial, ?_, fr, pk _⟩
      exact .tuple (i := 0) ⟨_, Heap.get?_push_size _ rfl, rfl, rfl⟩ (pk _ _ _ h1) h2 (by rw [List.drop_zero]; exact h3.step (Step.push K ..) H)
  · rename_i x
    cases hv
    rename_i t
    cases ha : x.cps.all (· < 128) with
    | true => exact wpAny_pyIter_ascii ha ⟨_, none, _, _, rfl, rfl, q, trivial, .ascii (i := 0) ⟨_, Heap.get?_push_size _ rfl, rfl, rfl⟩, fr, pk _⟩
    | false => exact wpAny_pyIter_wide ha ⟨_, none, _, _, rfl, rfl, q, trivial, .wide (i := 0) ⟨_, Heap.get?_push_size _ rfl, rfl, rfl⟩, fr, pk _⟩
  · rename_i a b c
    obtain ⟨r, t, u, w, rfl, e, hm⟩ := hv
    refine wpAny_pyIter_range e q.1 ⟨_, none, _, _, rfl, rfl, q.2, trivial, ?_, fr, pk _⟩
    refine .range (n := (Builtin.Range.rangeSize a b c).toNat) ?_
    rw [Int.toNat_of_nonneg (rangeSize_nn a b c)]
    exact Heap.get?_push_size _ rfl
  · rename_i i
    obtain ⟨p, ep, rfl⟩ := hv
    split at q
    · rename_i l e
      obtain ⟨ha, vs, n, hL, d⟩ := H.at e ep
      rw [ha]
      refine wpAny_pyIter_list (IsL.isList hL) ⟨_, some (i, l), l, _, rfl, rfl, q, e, ?_, fr, pk _⟩
      exact .mlist (i := 0) (l := l) ep ⟨_, Heap.get?_push_size _ rfl, rfl, rfl⟩
    · exact q.elim
  · exact q.elim
theorem iter_self {A : Around} {s : Shared} {E : Value → Shared → Prop} {Q : Value → Shared → Prop} (I : IterAt ρ s.heap it g xs) (q : Q (.ref it) s) : wpAny (model K.prog K.w) A (pyIter (.ref it)) Q E s := by
  cases I with
  | list h1 => exact wpAny_pyIter_listiter h1 q
  | mlist _ h1 => exact wpAny_pyIter_listiter h1 q
  | tuple h1 => exact wpAny_pyIter_tupleiter h1 q
  | ascii h1 => exact wpAny_pyIter_striter_ascii h1 q
  | wide h1 => exact wpAny_pyIter_striter_wide h1 q
  | range h1 => exact wpAny_pyIter_rangeiter h1 q
theorem iter_owned {A : Around} {s : Shared} {E : Value → Shared → Prop} {Q : Unit → Shared → Prop} {target : Expr} {v : Value} (I : IterAt ρ s.heap it g xs) (q : Q () s) : wpAny (model K.prog K.w) A (letOwnedTupleGo target (.ref it) v) Q E s := by
  obtain ⟨o, fs, e, hd, T, hc, ht, _⟩ := I.dom
  have key : wpAny (model K.prog K.w) A (do
      let (.ref r, .ref a) := (Value.ref it, v) | return
      let o ← load r
      match o.cls, o.data with
      | .type n, .fields vs =>
        if ["enumerate", "zip", "dict_itemiterator", "dict_reverseitemiterator", "odict_iterator", "itertools.zip_longest", "itertools.pairwise"].contains n && vs[0]? == some (rawInt a) then
          rule "for.unpacks-the-owned-tuple"
          updateField r 0 .none
      | _, _ => pure ()) Q E s := by
    cases v with
    | ref a =>
      refine wpAny_bind (wpAny_load e ?_)
      rw [hc, hd]
      show wpAny _ A (if (_ && _) = true then _ else _) Q E s
      rw [if_neg (by rw [ht]; simp)]
      exact wpAny_pure q
    | _ => exact wpAny_pure q
  cases target <;> first | exact wpAny_pure q | exact key
end
end Mine

set_option autoImplicit false
set_option linter.unusedVariables false
namespace Mine
open PySem PySem.Spec PySem.Calls PyProof.Rows

/-- the frame's own places that a statement may write -/
noncomputable def Place (env : Env) (b : Addr) : Prop := b = env.locals ∨ ∃ x, env.kindOf x = some .cell ∧ env.cells.lookup x = some b
structure StepS (K : KX) (env : Env) (ρ : Rho) (h : Heap) (ρ' : Rho) (h' : Heap) : Prop where
  pre : ρ <+: ρ'
  new : ∀ p ∈ ρ', p ∈ ρ ∨ (h.get? p.m = none ∧ ∀ a ∈ p.f, h.get? a = none)
  keep : ∀ b o, h.get? b = some o → b ≠ K.tb → b ∉ mu ρ → ¬ Place env b → h'.get? b = some o
  dom : ∀ b o, h.get? b = some o → ∃ o', h'.get? b = some o'
section
variable {K : KX} {env : Env} {look : Str → Option Nat} {vs : List (Option V)} {ρ ρ₁ ρ₂ ρ' : Rho} {hp : List O} {h h₁ h₂ h' : Heap}
theorem Step.toS (S : Step K ρ h ρ' h') : StepS K env ρ h ρ' h' := ⟨S.pre, S.new, fun b o e a c _ => S.keep b o e a c, S.dom⟩
theorem StepS.notMu (S : StepS K env ρ h ρ' h') {b : Addr} {o : Obj} (hb : h.get? b = some o) (hn : b ∉ mu ρ) : b ∉ mu ρ' := by
  intro hm
  obtain ⟨p, hp, rfl⟩ := List.mem_map.mp hm
  rcases S.new p hp with q | q
  · exact hn (List.mem_map.mpr ⟨p, q, rfl⟩)
  · rw [q.1] at hb; cases hb
theorem StepS.trans (a : StepS K env ρ h ρ₁ h₁) (b : StepS K env ρ₁ h₁ ρ₂ h₂) : StepS K env ρ h ρ₂ h₂ :=
  ⟨a.pre.trans b.pre, fun p hp => (b.new p hp).elim (fun q => a.new p q) fun q => .inr ⟨none_of_dom a.dom q.1, fun x hx => none_of_dom a.dom (q.2 x hx)⟩,
    fun x o e h1 h2 h3 => b.keep x o (a.keep x o e h1 h2 h3) h1 (a.notMu e h2) h3, fun x o e => let ⟨o', e'⟩ := a.dom x o e; b.dom x o' e'⟩
theorem StepS.refl (K : KX) (env : Env) (ρ : Rho) (h : Heap) : StepS K env ρ h ρ h := (Step.refl K ρ h).toS
theorem FRel.notPlace (F : FRel K env look vs ρ h) {b : Addr} {o : Obj} (e : h.get? b = some o) (h1 : ∀ es n, o.data ≠ .dict es n) (h2 : ∀ v, o.data ≠ .cell v) : ¬ Place env b := by
  rintro (rfl | ⟨x, hx, hc⟩)
  · obtain ⟨m, ⟨o', es, ep, e', d, _⟩, _⟩ := F.ns
    rw [e] at e'; cases e'; exact h1 _ _ d
  · obtain ⟨c, o', ov, a1, _, _, a4, a5, _⟩ := F.cl x (.inl hx)
    rw [hc] at a1; cases a1
    rw [e] at a4; cases a4; exact h2 _ a5
theorem FRel.seqPlace (F : FRel K env look vs ρ h) {b : Addr} {o : Obj} {xs : Array Value} {n : Nat} (e : h.get? b = some o) (hd : o.data = .seq xs n) : ¬ Place env b :=
  F.notPlace e (fun _ _ q => by rw [hd] at q; cases q) (fun _ q => by rw [hd] at q; cases q)
theorem DR.stepS (S : StepS K env ρ h ρ' h') (F : FRel K env look vs ρ h) (H : HRel K ρ hp h) {v : Value} {x : PyData} (d : DR h (mu ρ) v x) : DR h' (mu ρ') v x :=
  d.mono fun a o vs n e hd hm => ⟨S.keep a o e (H.seqTb e hd) hm (F.seqPlace e hd), S.notMu e hm⟩
theorem VR.stepS (S : StepS K env ρ h ρ' h') (F : FRel K env look vs ρ h) (H : HRel K ρ hp h) {v : V} {rv : Value} (d : VR ρ h v rv) : VR ρ' h' v rv := by
  cases v with
  | d x => exact DR.stepS S F H d
  | r i => obtain ⟨p, e, rfl⟩ := d; exact ⟨p, pre_get S.pre e, rfl⟩
  | rng a b c =>
    obtain ⟨q, t, u, v, rfl, e, hm⟩ := d
    exact ⟨q, t, u, v, rfl, S.keep _ _ e (H.tbObj e (by simp)) hm (F.notPlace e (by simp) (by simp)), S.notMu e hm⟩
  | g v => exact d
theorem IterAt.stepS {it : Addr} {g : G} {xs : List PyData} (I : IterAt ρ h it g xs) (S : StepS K env ρ h ρ' h') (F : FRel K env look vs ρ h) (H : HRel K ρ hp h) (hm : it ∉ mu ρ) (ht : it ≠ K.tb) : IterAt ρ' h' it g xs := by
  obtain ⟨o, fs, e, hd, _⟩ := I.dom
  refine I.keeps (fun o' e' => S.keep _ _ e' ht hm ?_) (fun a o vs n e hd hm => ⟨S.keep a o e (H.seqTb e hd) hm (F.seqPlace e hd), S.notMu e hm⟩) S.pre
  rw [e] at e'; cases e'
  exact F.notPlace e (fun _ _ q => by rw [hd] at q; cases q) (fun _ q => by rw [hd] at q; cases q)

/-- a name of the frame is stored -/
theorem store_name {A : Around} {s : Shared} {E : Value → Shared → Prop} {x : Str} {k : Nat} {v : V} {rv : Value} (hk : env.kindOf x = some .local ∨ env.kindOf x = some .cell) (hl : look x = some k)
    (F : FRel K env look vs ρ s.heap) (H : HRel K ρ hp s.heap) (hv : VR ρ s.heap v rv) :
    wpAny (model K.prog K.w) A (storeName env x rv) (fun _ s' => ∃ h' t, s' = { s with heap := h', toks := t } ∧ FRel K env look (vs.set k (some v)) ρ h' ∧ HRel K ρ hp h' ∧ StepS K env ρ s.heap ρ h') E s := by
  have slot : ∀ y j w, look y = some j → (vs.set k (some v))[j]? = some (some w) → (y = x ∧ w = v) ∨ (y ≠ x ∧ vs[j]? = some (some w)) := by
    intro y j w hy e
    rw [List.getElem?_set] at e
    by_cases hj : k = j
    · subst hj
      rw [if_pos rfl] at e
      split at e
      · cases e; exact .inl ⟨F.ij y x k hy hl, rfl⟩
      · cases e
    · rw [if_neg hj] at e
      exact .inr ⟨fun q => hj (by subst q; rw [hl] at hy; cases hy; rfl), e⟩
  rcases hk with hk | hk
  · obtain ⟨m, n, f⟩ := F.ns
    have hkc : (env.scope.kind == .class || (env.scope.kind == .module && env.locals != env.globals)) = false := by rw [F.kd]; rfl
    obtain ⟨ol, es, ep, el, dl, _⟩ := id n
    refine wpAny_storeName_local hk n (fun h' n' hs => ?_) hkc
    have S : StepS K env ρ s.heap ρ h' := ⟨List.prefix_refl _, fun _ hp => .inl hp, fun b o e _ _ hb => (hs.2 b (fun q => hb (.inl q))).trans e, fun b o e => by
      by_cases hb : b = env.locals
      · subst hb; obtain ⟨o', _, _, e', _⟩ := n'; exact ⟨o', e'⟩
      · exact ⟨o, (hs.2 b hb).trans e⟩⟩
    have nonseq : ∀ o, s.heap.get? env.locals = some o → ∀ vs n, o.data ≠ .seq vs n := by
      intro o' e' vs n q
      rw [el] at e'; cases e'; rw [dl] at q; cases q
    refine ⟨h', _, rfl, ⟨F.kd, F.gl, F.bi, F.lb, F.lo, ⟨_, n', ?_⟩, ?_, F.ci, F.ij⟩, H.other F.lb F.lo hs.extBut nonseq, S⟩
    · intro y j w hy hj e
      rcases slot y j w hj e with ⟨rfl, rfl⟩ | ⟨hne, e⟩
      · exact ⟨rv, by simp, hv.stepS S F H⟩
      · obtain ⟨rw', e1, e2⟩ := f y j w hy hj e
        exact ⟨rw', by simp [hne, e1], e2.stepS S F H⟩
    · intro y hy
      obtain ⟨c, o, ov, a1, a2, a3, a4, a5, a6⟩ := F.cl y hy
      have hne : c ≠ env.locals := by rintro rfl; rw [el] at a4; cases a4; rw [dl] at a5; cases a5
      refine ⟨c, o, ov, a1, a2, a3, (hs.2 c hne).trans a4, a5, fun j w hj e => ?_⟩
      rcases slot y j w hj e with ⟨rfl, rfl⟩ | ⟨_, e⟩
      · rcases hy with hy | hy <;> (rw [hk] at hy; cases hy)
      · obtain ⟨rw', e1, e2⟩ := a6 j w hj e
        exact ⟨rw', e1, e2.stepS S F H⟩
  · obtain ⟨c, o, ov, a1, a2, a3, a4, a5, a6⟩ := F.cl x (.inl hk)
    refine wpAny_storeName_cell F.kd hk a1 ⟨o, a4, a5⟩ (fun h' n' hs => ?_)
    have S : StepS K env ρ s.heap ρ h' := ⟨List.prefix_refl _, fun _ hp => .inl hp, fun b o e _ _ hb => (hs.2 b (fun q => hb (.inr ⟨x, hk, q ▸ a1⟩))).trans e, fun b o e => by
      by_cases hb : b = c
      · subst hb; obtain ⟨o', e', _⟩ := n'; exact ⟨o', e'⟩
      · exact ⟨o, (hs.2 b hb).trans e⟩⟩
    have nonseq : ∀ o, s.heap.get? c = some o → ∀ vs n, o.data ≠ .seq vs n := by
      intro o' e' vs n q
      rw [a4] at e'; cases e'; rw [a5] at q; cases q
    have hcl : env.locals ≠ c := by
      rintro rfl
      obtain ⟨m, ⟨ol, es, ep, el, dl, _⟩, _⟩ := F.ns
      rw [el] at a4; cases a4; rw [dl] at a5; cases a5
    refine ⟨h', _, rfl, ⟨F.kd, F.gl, F.bi, F.lb, F.lo, ?_, ?_, F.ci, F.ij⟩, H.other a2 a3 hs.extBut nonseq, S⟩
    · obtain ⟨m, n, f⟩ := F.ns
      refine ⟨m, n.sameBut hs hcl, fun y j w hy hj e => ?_⟩
      rcases slot y j w hj e with ⟨rfl, rfl⟩ | ⟨_, e⟩
      · rw [hk] at hy; cases hy
      · obtain ⟨rw', e1, e2⟩ := f y j w hy hj e
        exact ⟨rw', e1, e2.stepS S F H⟩
    · intro y hy
      by_cases hyx : y = x
      · subst hyx
        obtain ⟨o', e', d'⟩ := n'
        refine ⟨c, o', _, a1, a2, a3, e', d', fun j w hj e => ?_⟩
        rcases slot y j w hj e with ⟨_, rfl⟩ | ⟨hne, _⟩
        · exact ⟨rv, rfl, hv.stepS S F H⟩
        · exact absurd rfl hne
      · obtain ⟨c', o', ov', b1, b2, b3, b4, b5, b6⟩ := F.cl y hy
        have hne : c' ≠ c := by rintro rfl; exact hyx (F.ci y x c' b1 a1)
        refine ⟨c', o', ov', b1, b2, b3, (hs.2 c' hne).trans b4, b5, fun j w hj e => ?_⟩
        rcases slot y j w hj e with ⟨h, _⟩ | ⟨_, e⟩
        · exact absurd h hyx
        · obtain ⟨rw', e1, e2⟩ := b6 j w hj e
          exact ⟨rw', e1, e2.stepS S F H⟩
end

inductive FlA where
  | next | brk | cont
  | ret (v : V)
noncomputable def FlR (ρ : Rho) (h : Heap) : FlA → Flow → Prop
  | .next, .next => True
  | .brk, .brk => True
  | .cont, .cont => True
  | .ret v, .ret rv => VR ρ h v rv
  | _, _ => False
noncomputable abbrev QS := FlA → List (Option V) → List O → Prop
noncomputable abbrev XS := List (Option V) → QS → List O → Prop
inductive PostS (K : KX) (env : Env) (look : Str → Option Nat) (ρ : Rho) (s : Shared) (Q : QS) (fl : Flow) (s' : Shared) : Prop
  | mk (af : FlA) (vs' : List (Option V)) (hp' : List O) (ρ' : Rho) (h' : Heap) (t : Nat) (e : s' = { s with heap := h', toks := t }) (q : Q af vs' hp') (F : FRel K env look vs' ρ' h') (H : HRel K ρ' hp' h') (S : StepS K env ρ s.heap ρ' h') (r : FlR ρ' h' af fl)
theorem PostS.after {K : KX} {env : Env} {look : Str → Option Nat} {ρ ρ₁ : Rho} {s : Shared} {h₁ : Heap} {t₁ : Nat} {Q : QS} {fl : Flow} {s' : Shared} (S : StepS K env ρ s.heap ρ₁ h₁)
    (p : PostS K env look ρ₁ { s with heap := h₁, toks := t₁ } Q fl s') : PostS K env look ρ s Q fl s' :=
  let ⟨af, vs', hp', ρ', h', t, e, q, F, H, S', r⟩ := p
  ⟨af, vs', hp', ρ', h', t, e, q, F, H, S.trans S', r⟩
noncomputable def SoundS (K : KX) (r : Nat) (env : Env) (look : Str → Option Nat) (st : Stmt) (p : XS) : Prop :=
  ∀ A, OkA r A → ∀ vs Q hp ρ s E, p vs Q hp → FRel K env look vs ρ s.heap → HRel K ρ hp s.heap → wpAny (model K.prog K.w) A (exec st env) (PostS K env look ρ s Q) E s
noncomputable def SoundSs (K : KX) (r : Nat) (env : Env) (look : Str → Option Nat) (st : List Stmt) (p : XS) : Prop :=
  ∀ A, OkA r A → ∀ vs Q hp ρ s E, p vs Q hp → FRel K env look vs ρ s.heap → HRel K ρ hp s.heap → wpAny (model K.prog K.w) A (execs st env) (PostS K env look ρ s Q) E s

section
variable {K : KX} {r : Nat} {env : Env} {look : Str → Option Nat}
noncomputable def sNil : XS := fun vs Q => Q .next vs
noncomputable def sCons (a b : XS) : XS := fun vs Q => a vs fun fl vs' hp => match fl with | .next => b vs' Q hp | fl => Q fl vs' hp
theorem ss_nil : SoundSs K r env look [] sNil := fun A ok vs Q hp ρ s E q F H => wpAny_execs_nil ⟨_, vs, hp, ρ, s.heap, s.toks, rfl, q, F, H, StepS.refl .., trivial⟩
theorem ss_cons {st : Stmt} {rest : List Stmt} {a b : XS} (ha : SoundS K r env look st a) (hb : SoundSs K r env look rest b) : SoundSs K r env look (st :: rest) (sCons a b) := by
  intro A ok vs Q hp ρ s E q F H
  refine wpAny_execs_cons (wpAny_mono (ha A ok vs _ hp ρ s E q F H) ?_ (fun _ _ x => x))
  rintro fl s' ⟨af, vs', hp', ρ', h', t, rfl, q', F', H', S, fr⟩
  cases af <;> cases fl <;> first | exact fr.elim | skip
  · exact wpAny_mono (hb A ok vs' Q hp' ρ' { s with heap := h', toks := t } E q' F' H') (fun fl s' p => PostS.after S p) (fun _ _ x => x)
  · exact ⟨.brk, vs', hp', ρ', h', t, rfl, q', F', H', S, trivial⟩
  · exact ⟨.cont, vs', hp', ρ', h', t, rfl, q', F', H', S, trivial⟩
  · exact ⟨.ret _, vs', hp', ρ', h', t, rfl, q', F', H', S, fr⟩

/-- x = e -/
noncomputable def sAssign (k : Nat) (a : XE) : XS := fun vs Q => a vs fun v hp => Q .next (vs.set k (some v)) hp
theorem s_assign {x : Str} {k : Nat} {pos' pos : Pos} {value : Expr} {a : XE} (ha : SoundE K r env look value a) (hk : env.kindOf x = some .local ∨ env.kindOf x = some .cell) (hl : look x = some k)
    (hs : swapsWith value (some (.Name x pos')) pos.line env = pure false) : SoundS K r env look (.Assign [.Name x pos'] value pos) (sAssign k a) := by
  intro A ok vs Q hp ρ s E q F H
  refine wpAny_Assign_Name (ha.then ok q F H ?_) hs
  intro va hp₁ ρ₁ h₁ t₁ ra q₁ H₁ S₁ r₁ F₁
  refine wpAny_mono (store_name (s := { s with heap := h₁, toks := t₁ }) hk hl F₁ H₁ r₁) ?_ (fun _ _ x => x)
  rintro _ s' ⟨h₂, t₂, rfl, F₂, H₂, S₂⟩
  exact ⟨.next, _, hp₁, ρ₁, h₂, t₂, rfl, q₁, F₂, H₂, S₁.toS.trans S₂, trivial⟩
/-- e -/
noncomputable def sExpr (a : XE) : XS := fun vs Q => a vs fun _ hp => Q .next vs hp
theorem s_expr {e : Expr} {pos : Pos} {a : XE} (ha : SoundE K r env look e a) (hi : interactive env = false) (hs : swapsWith e none pos.line env = pure false) : SoundS K r env look (.Expr e pos) (sExpr a) := by
  intro A ok vs Q hp ρ s E q F H
  refine wpAny_Expr_any (ha.then ok q F H ?_) hi hs
  intro va hp₁ ρ₁ h₁ t₁ ra q₁ H₁ S₁ r₁ F₁
  exact ⟨.next, vs, hp₁, ρ₁, h₁, t₁, rfl, q₁, F₁, H₁, S₁.toS, trivial⟩
noncomputable def sRet (a : XE) : XS := fun vs Q => a vs fun v hp => Q (.ret v) vs hp
theorem s_ret {e : Expr} {pos : Pos} {a : XE} (ha : SoundE K r env look e a) : SoundS K r env look (.Return (some e) pos) (sRet a) := by
  intro A ok vs Q hp ρ s E q F H
  refine wpAny_Return_some (ha.then ok q F H ?_)
  intro va hp₁ ρ₁ h₁ t₁ ra q₁ H₁ S₁ r₁ F₁
  exact ⟨.ret va, vs, hp₁, ρ₁, h₁, t₁, rfl, q₁, F₁, H₁, S₁.toS, r₁⟩
noncomputable def sCont : XS := fun vs Q => Q .cont vs
theorem s_cont {pos : Pos} : SoundS K r env look (.Continue pos) sCont := fun A ok vs Q hp ρ s E q F H => by
  show wpAny _ A (do standAt pos; pure Flow.cont) _ E s
  exact wpAny_bind (wpAny_standAt (wpAny_pure ⟨.cont, vs, hp, ρ, s.heap, s.toks, rfl, q, F, H, StepS.refl .., trivial⟩))
noncomputable def sIf (t : XB) (a b : XS) : XS := fun vs Q => t vs fun x hp => match x with | true => a vs Q hp | false => b vs Q hp
theorem s_if {test : Expr} {body orelse : List Stmt} {pos : Pos} {t : XB} {a b : XS} (ht : SoundB K r env look test t) (ha : SoundSs K r env look body a) (hb : SoundSs K r env look orelse b) :
    SoundS K r env look (.If test body orelse pos) (sIf t a b) := by
  intro A ok vs Q hp ρ s E q F H
  refine wpAny_If (ht.then ok q F H ?_)
  intro c hp₁ ρ₁ h₁ t₁ q₁ H₁ S₁ F₁
  cases c with
  | true => exact wpAny_mono (ha A ok vs Q hp₁ ρ₁ { s with heap := h₁, toks := t₁ } E q₁ F₁ H₁) (fun rv s' p => PostS.after S₁.toS p) (fun _ _ x => x)
  | false => exact wpAny_mono (hb A ok vs Q hp₁ ρ₁ { s with heap := h₁, toks := t₁ } E q₁ F₁ H₁) (fun rv s' p => PostS.after S₁.toS p) (fun _ _ x => x)
end
end Mine

set_option autoImplicit false
set_option linter.unusedVariables false
namespace Mine
open PySem PySem.Spec PySem.Calls PyProof.Rows

noncomputable abbrev XT := V → List (Option V) → (List (Option V) → List O → Prop) → List O → Prop
inductive PostT (K : KX) (env : Env) (look : Str → Option Nat) (ρ : Rho) (s : Shared) (Q : List (Option V) → List O → Prop) (s' : Shared) : Prop
  | mk (vs' : List (Option V)) (hp' : List O) (ρ' : Rho) (h' : Heap) (t : Nat) (e : s' = { s with heap := h', toks := t }) (q : Q vs' hp') (F : FRel K env look vs' ρ' h') (H : HRel K ρ' hp' h') (S : StepS K env ρ s.heap ρ' h')
noncomputable def SoundT (K : KX) (r : Nat) (env : Env) (look : Str → Option Nat) (t : Expr) (p : XT) : Prop :=
  ∀ A, OkA r A → ∀ v vs Q hp ρ s E rv, p v vs Q hp → FRel K env look vs ρ s.heap → HRel K ρ hp s.heap → VR ρ s.heap v rv → wpAny (model K.prog K.w) A (assign t env rv) (fun _ => PostT K env look ρ s Q) E s
section
variable {K : KX} {r : Nat} {env : Env} {look : Str → Option Nat}
noncomputable def tName (k : Nat) : XT := fun v vs Q => Q (vs.set k (some v))
theorem t_name {x : Str} {k : Nat} {pos : Pos} (hk : env.kindOf x = some .local ∨ env.kindOf x = some .cell) (hl : look x = some k) : SoundT K r env look (.Name x pos) (tName k) := by
  intro A ok v vs Q hp ρ s E rv q F H hv
  refine wpAny_assign_Name (wpAny_mono (store_name hk hl F H hv) ?_ (fun _ _ x => x))
  rintro _ s' ⟨h₂, t₂, rfl, F₂, H₂, S₂⟩
  exact ⟨_, hp, ρ, h₂, t₂, rfl, q, F₂, H₂, S₂⟩

/-- all items of an iterator -/
theorem draw_all {A : Around} {ρ : Rho} {hp : List O} {it : Addr} {g : G} (hn : K.New it) (ho : Off ρ it) (hg : gOk g hp) : ∀ (xs : List PyData) (ys : List PyData) (s : Shared) (E : Value → Shared → Prop),
    IterAt ρ s.heap it g (xs ++ ys) → HRel K ρ hp s.heap →
    wpAny (model K.prog K.w) A (draw (.ref it) xs.length) (fun l s' => ∃ h' t, s' = { s with heap := h', toks := t } ∧ DRs h' (mu ρ) l xs ∧ IterAt ρ h' it g ys ∧ HRel K ρ hp h' ∧ Heap.SameBut it s.heap h') E s
  | [], ys, s, E, I, H => wpAny_pure ⟨s.heap, s.toks, rfl, .nil, I, H, Heap.SameBut.refl ..⟩
  | x :: xs, ys, s, E, I, H => by
    show wpAny _ A (do match ← pyNext (.ref it) with
      | none => pure []
      | some v => return v :: (← holding [v] (draw (.ref it) xs.length))) _ E s
    refine wpAny_bind (wpAny_mono (iter_next I H hg hn ho) ?_ (fun _ _ x => x))
    rintro _ s' ⟨rv, h', t, rfl, rfl, d, I', H', hs⟩
    refine wpAny_bind (wpAny_holding (wpAny_mono (draw_all hn ho hg xs ys { s with heap := h', toks := t } E I' H') ?_ (fun _ _ x => x)))
    rintro l s'' ⟨h'', t'', rfl, d', I'', H'', hs'⟩
    have nonseq : ∀ a o vs n, h'.get? a = some o → o.data = .seq vs n → a ∉ mu ρ → h''.get? a = some o ∧ a ∉ mu ρ := by
      intro a o vs n e hd hm
      refine ⟨(hs'.2 a ?_).trans e, hm⟩
      rintro rfl
      obtain ⟨o', fs, e', hd', _⟩ := I'.dom
      rw [e] at e'; cases e'; rw [hd] at hd'; cases hd'
    exact wpAny_pure ⟨h'', t'', rfl, .cons (d.mono nonseq) d', I'', H'', hs.trans hs'⟩
theorem iter_able {A : Around} {s : Shared} {ρ : Rho} {hp : List O} {v : V} {rv : Value} {E : Value → Shared → Prop} {k : G → List PyData → Prop} {Q : Bool → Shared → Prop} (q : iterV v hp k) (hv : VR ρ s.heap v rv) (H : HRel K ρ hp s.heap) (hq : Q false s) :
    wpAny (model K.prog K.w) A (notIterableAtAll rv) Q E s := by
  have key : ∀ {T id : String}, s.TypeIs rv T → typeLookup (.type T) "__iter__" = pure (some (.builtin id)) → wpAny (model K.prog K.w) A (notIterableAtAll rv) Q E s := by
    intro T id hT hl
    unfold notIterableAtAll
    exact wpAny_bind (wpAny_specialOf hT hl (wpAny_pure hq))
  unfold iterV at q
  split at q
  · cases hv with | list h1 _ _ => exact key ⟨_, h1, rfl⟩ slot_list_iter.lookup
  · cases hv with | tuple h1 _ _ => exact key ⟨_, h1, rfl⟩ PySem.F.slot_tuple_iter.lookup
  · cases hv; exact key (typeIs_str _ _ _) PySem.F.slot_str_iter.lookup
  · obtain ⟨a, t, u, w, rfl, e, _⟩ := hv; exact key ⟨_, e, rfl⟩ PySem.F.slot_range_iter.lookup
  · obtain ⟨p, ep, rfl⟩ := hv
    split at q
    · rename_i e
      obtain ⟨ha, vs, n, hL, _⟩ := H.at e ep
      exact key ⟨_, ha ▸ hL, rfl⟩ slot_list_iter.lookup
    · exact q.elim
  · exact q.elim
theorem StepS.skip {ρ ρ' : Rho} {h h₁ h₂ : Heap} {it : Addr} (S : StepS K env ρ h ρ' h₁) (hi : h.get? it = none) (hs : Heap.ExtBut it h₁ h₂) : StepS K env ρ h ρ' h₂ :=
  ⟨S.pre, S.new, fun b o e a c d => hs b o (ne_of_get? hi e) (S.keep b o e a c d), fun b o e => let ⟨o', e'⟩ := S.dom b o e; ⟨o', hs b o' (ne_of_get? hi e) e'⟩⟩
theorem Step.skip {ρ ρ' : Rho} {h h₁ h₂ : Heap} {it : Addr} (S : Step K ρ h ρ' h₁) (hi : h.get? it = none) (hs : Heap.ExtBut it h₁ h₂) : Step K ρ h ρ' h₂ :=
  ⟨S.pre, S.new, fun b o e a c => hs b o (ne_of_get? hi e) (S.keep b o e a c), fun b o e => let ⟨o', e'⟩ := S.dom b o e; ⟨o', hs b o' (ne_of_get? hi e) e'⟩⟩
theorem DRs.skip {ρ : Rho} {hp : List O} {h h' : Heap} {it : Addr} {l : List Value} {xs : List PyData} (d : DRs h (mu ρ) l xs) (hs : Heap.ExtBut it h h') (hd : ∀ o, h.get? it = some o → ∀ vs n, o.data ≠ .seq vs n) : DRs h' (mu ρ) l xs :=
  d.mono fun a o vs n e q hm => ⟨hs a o (by rintro rfl; exact hd o e vs n q) e, hm⟩
/-- a value is taken apart into all its items -/
theorem unpack_items {A : Around} {s : Shared} {ρ : Rho} {hp : List O} {v : V} {rv : Value} {E : Value → Shared → Prop} {xs : List PyData} (hh : A.handled = none) (q : iterV v hp fun g ys => ys = xs) (hv : VR ρ s.heap v rv) (H : HRel K ρ hp s.heap) :
    wpAny (model K.prog K.w) A (unpackItems rv xs.length none) (fun l s' => ∃ h' t, s' = { s with heap := h', toks := t } ∧ DRs h' (mu ρ) l xs ∧ HRel K ρ hp h' ∧ Step K ρ s.heap ρ h') E s := by
  unfold unpackItems
  refine wpAny_bind (iter_able q hv H ?_)
  rw [if_neg (by simp)]
  refine wpAny_bind (wpAny_holding (wpAny_mono (iter_start q hv H) ?_ (fun _ _ x => x)))
  rintro _ s' ⟨it, g, ys, h₁, rfl, rfl, rfl, hg, I, hi, hk⟩
  have H₁ : HRel K ρ hp h₁ := H.grow hk
  have S₁ : Step K ρ s.heap ρ h₁ := Step.grow hk
  have hn := H.fresh hi
  have ho := H.off hi
  refine wpAny_bind (wpAny_holding (wpAny_mono (draw_all hn ho hg ys [] { s with heap := h₁ } E (by simpa using I) H₁) ?_ (fun _ _ x => x)))
  rintro l s'' ⟨h₂, t₂, rfl, d, I₂, H₂, hs₂⟩
  show wpAny _ A (if l.length < ys.length then _ else _) _ E _
  rw [if_neg (by rw [d.length]; omega)]
  refine wpAny_bind (wpAny_holding (wpAny_mono (iter_end (s := { s with heap := h₂, toks := t₂ }) hh I₂ H₂ hg hn ho) ?_ (fun _ _ x => x)))
  rintro _ s₃ ⟨h₃, rfl, rfl, H₃, hs₃⟩
  rw [if_neg (by simp)]
  have nonseq : ∀ o, h₂.get? it = some o → ∀ vs n, o.data ≠ .seq vs n := by
    obtain ⟨o, fs, e, hd, _⟩ := I₂.dom
    intro o' e' vs n q
    rw [e] at e'; cases e'; rw [hd] at q; cases q
  exact wpAny_pure ⟨h₃, t₂, rfl, d.skip (hp := hp) hs₃ nonseq, H₃, (S₁.skip hi hs₂.extBut).skip hi hs₃⟩

noncomputable abbrev XTs := List V → List (Option V) → (List (Option V) → List O → Prop) → List O → Prop
noncomputable def SoundTs (K : KX) (r : Nat) (env : Env) (look : Str → Option Nat) (ts : List Expr) (p : XTs) : Prop :=
  ((assignEach ts env).findIdx? (·.1) = none ∧ (assignEach ts env).length = ts.length) ∧ ∀ A, OkA r A → ∀ ls vs Q hp ρ s E rvs, p ls vs Q hp → FRel K env look vs ρ s.heap → HRel K ρ hp s.heap → VRs ρ s.heap ls rvs →
    wpAny (model K.prog K.w) A (assignInOrder ((assignEach ts env).map (·.2)) rvs) (fun _ => PostT K env look ρ s Q) E s
noncomputable def tsNil : XTs := fun ls vs Q hp => match ls with | [] => Q vs hp | _ => False
noncomputable def tsCons (a : XT) (b : XTs) : XTs := fun ls vs Q hp => match ls with | v :: l => a v vs (fun vs' => b l vs' Q) hp | [] => False
theorem ts_nil : SoundTs K r env look [] tsNil := by
  refine ⟨⟨rfl, rfl⟩, ?_⟩
  intro A ok ls vs Q hp ρ s E rvs q F H hv
  cases ls with
  | nil => exact wpAny_pure ⟨vs, hp, ρ, s.heap, s.toks, rfl, q, F, H, StepS.refl ..⟩
  | cons v l => exact q.elim
theorem VRs.stepS {vs : List (Option V)} {ρ ρ' : Rho} {hp : List O} {h h' : Heap} (S : StepS K env ρ h ρ' h') (F : FRel K env look vs ρ h) (H : HRel K ρ hp h) {l : List V} {xs : List Value} (d : VRs ρ h l xs) : VRs ρ' h' l xs := by
  induction l generalizing xs with
  | nil => cases d; exact .nil
  | cons v l ih => cases d with | cons a b => exact .cons (a.stepS S F H) (ih b)
theorem ts_cons {t : Expr} {ts : List Expr} {a : XT} {b : XTs} (ha : SoundT K r env look t a) (hb : SoundTs K r env look ts b) (he : assignEach (t :: ts) env = (false, assign t env) :: assignEach ts env) : SoundTs K r env look (t :: ts) (tsCons a b) := by
  refine ⟨⟨by rw [he, List.findIdx?_cons]; simp [hb.1.1], by rw [he]; simp [hb.1.2]⟩, ?_⟩
  intro A ok ls vs Q hp ρ s E rvs q F H hv
  cases ls with
  | nil => exact q.elim
  | cons v l =>
    cases hv with
    | cons d ds =>
      rename_i x xs
      rw [he]
      show wpAny _ A (do holding xs (assign t env x); assignInOrder ((assignEach ts env).map (·.2)) xs) _ E s
      refine wpAny_bind (wpAny_holding (wpAny_mono (ha A ok v vs _ hp ρ s E x q F H d) ?_ (fun _ _ x => x)))
      rintro _ s' ⟨vs', hp', ρ', h', t', rfl, q', F', H', S'⟩
      refine wpAny_mono (hb.2 A ok l vs' Q hp' ρ' { s with heap := h', toks := t' } E xs q' F' H' (ds.stepS S' F H)) ?_ (fun _ _ x => x)
      rintro _ s'' ⟨vs'', hp'', ρ'', h'', t'', rfl, q'', F'', H'', S''⟩
      exact ⟨vs'', hp'', ρ'', h'', t'', rfl, q'', F'', H'', S'.trans S''⟩
theorem DRs.vrs {ρ : Rho} {h : Heap} : ∀ {xs : List PyData} {l : List Value}, DRs h (mu ρ) l xs → VRs ρ h (xs.map .d) l
  | [], _, d => by cases d; exact .nil
  | x :: xs, _, d => by cases d with | cons a b => exact .cons a (DRs.vrs b)
noncomputable def tTuple (n : Nat) (b : XTs) : XT := fun v vs Q hp => iterV v hp fun _ xs => xs.length = n ∧ b (xs.map .d) vs Q hp
theorem iterV_eq {v : V} {hp : List O} {k : G → List PyData → Prop} (q : iterV v hp k) : ∃ xs, (∃ g, k g xs) ∧ iterV v hp fun _ ys => ys = xs := by
  cases v with
  | d x =>
    cases x with
    | list l => exact ⟨l, ⟨_, q⟩, rfl⟩
    | tuple l => exact ⟨l, ⟨_, q⟩, rfl⟩
    | str x => exact ⟨_, ⟨_, q⟩, rfl⟩
    | _ => exact q.elim
  | r i =>
    simp only [iterV] at q ⊢
    split at q
    · rename_i l e; exact ⟨l, ⟨_, q⟩, rfl⟩
    · exact q.elim
  | rng a b c => exact ⟨_, ⟨_, q.2⟩, q.1, rfl⟩
  | g v => exact q.elim
theorem unpack_sound {A : Around} {ts : List Expr} {b : XTs} {v : V} {vs : List (Option V)} {Q : List (Option V) → List O → Prop} {hp : List O} {ρ : Rho} {s : Shared} {E : Value → Shared → Prop} {rv : Value} (ok : OkA r A) (hb : SoundTs K r env look ts b) (q : tTuple ts.length b v vs Q hp)
    (F : FRel K env look vs ρ s.heap) (H : HRel K ρ hp s.heap) (hv : VR ρ s.heap v rv) : wpAny (model K.prog K.w) A (unpack rv (assignEach ts env)) (fun _ => PostT K env look ρ s Q) E s := by
  obtain ⟨xs, ⟨g, hn, q⟩, qi⟩ := iterV_eq q
  unfold unpack
  rw [hb.1.1, hb.1.2, ← hn]
  refine wpAny_bind (wpAny_holding (wpAny_mono (unpack_items ok.hh qi hv H) ?_ (fun _ _ x => x)))
  rintro l s' ⟨h', t', rfl, d, H', S'⟩
  refine wpAny_mono (hb.2 A ok _ vs Q hp ρ { s with heap := h', toks := t' } E l q (F.step H S') H' d.vrs) ?_ (fun _ _ x => x)
  rintro _ s'' ⟨vs'', hp'', ρ'', h'', t'', rfl, q'', F'', H'', S''⟩
  exact ⟨vs'', hp'', ρ'', h'', t'', rfl, q'', F'', H'', S'.toS.trans S''⟩
theorem t_tuple {ts : List Expr} {k : Nat} {pos : Pos} {b : XTs} (hb : SoundTs K r env look ts b) : SoundT K r env look (.Tuple ts k pos) (tTuple ts.length b) := by
  intro A ok v vs Q hp ρ s E rv q F H hv
  show wpAny _ A (do standAt pos; unpack rv (assignEach ts env)) _ E s
  exact wpAny_bind (wpAny_standAt (unpack_sound ok hb q F H hv))

/-- an iterator is written: the frame stands -/
theorem VR.skip {ρ : Rho} {h h' : Heap} {it : Addr} {g : G} {xs : List PyData} (I : IterAt ρ h it g xs) (hs : Heap.ExtBut it h h') {w : V} {rw' : Value} (hw : VR ρ h w rw') : VR ρ h' w rw' := by
  obtain ⟨o, fs, e, hd, T, hc, _, hr⟩ := I.dom
  cases w with
  | d x => exact DR.mono (fun a o' vs n e' q hm => ⟨hs a o' (by rintro rfl; rw [e] at e'; cases e'; rw [hd] at q; cases q) e', hm⟩) hw
  | r i => exact hw
  | rng a b c =>
    obtain ⟨qq, t, u, w, rfl, e1, hm⟩ := hw
    refine ⟨qq, t, u, w, rfl, hs _ _ ?_ e1, hm⟩
    rintro rfl
    rw [e] at e1; cases e1
    simp only [Value.type.injEq] at hc
    exact hr hc.symm
  | g v => exact hw
theorem FRel.skip {vs : List (Option V)} {ρ : Rho} {h h' : Heap} {it : Addr} {g : G} {xs : List PyData} (F : FRel K env look vs ρ h) (I : IterAt ρ h it g xs) (hs : Heap.ExtBut it h h') : FRel K env look vs ρ h' := by
  obtain ⟨o, fs, e, hd, _⟩ := I.dom
  have hne : ∀ b ob, h.get? b = some ob → (∀ fs, ob.data ≠ .fields fs) → h'.get? b = some ob := fun b ob eb hq => hs b ob (by rintro rfl; rw [e] at eb; cases eb; exact hq _ hd) eb
  obtain ⟨m, ⟨o', es, ep, e', dd, rr⟩, f⟩ := F.ns
  refine ⟨F.kd, F.gl, F.bi, F.lb, F.lo, ⟨m, ⟨o', es, ep, hne _ _ e' (fun _ z => by rw [dd] at z; cases z), dd, rr⟩, fun x k v a b c => let ⟨rv, p, q⟩ := f x k v a b c; ⟨rv, p, q.skip I hs⟩⟩, ?_, F.ci, F.ij⟩
  intro x hx
  obtain ⟨c, o', ov, a1, a2, a3, a4, a5, a6⟩ := F.cl x hx
  exact ⟨c, o', ov, a1, a2, a3, hne _ _ a4 (fun _ z => by rw [a5] at z; cases z), a5, fun k v b1 b2 => let ⟨rv, p, q⟩ := a6 k v b1 b2; ⟨rv, p, q.skip I hs⟩⟩
theorem Off.stepS {ρ ρ' : Rho} {h h' : Heap} (S : StepS K env ρ h ρ' h') {a : Addr} {o : Obj} (ha : h.get? a = some o) (x : Off ρ a) : Off ρ' a := fun p hp => by
  rcases S.new p hp with q | q
  · exact x p q
  · exact ⟨ne_of_get? q.1 ha, fun hf => by rw [q.2 a hf] at ha; cases ha⟩

/-- a loop over given items -/
noncomputable def forL (g : G) (tgt : XT) (body : XS) (Q : QS) : List PyData → List (Option V) → List O → Prop
  | [], vs, hp => gOk g hp ∧ Q .next vs hp
  | x :: xs, vs, hp => gOk g hp ∧ tgt (.d x) vs (fun vs' hp' => body vs' (fun fl vs'' hp'' => match fl with
    | .next => forL g tgt body Q xs vs'' hp''
    | .cont => forL g tgt body Q xs vs'' hp''
    | .brk => Q .next vs'' hp''
    | .ret v => Q (.ret v) vs'' hp'') hp') hp
noncomputable def sFor (tgt : XT) (it : XE) (body : XS) : XS := fun vs Q => it vs fun v hp => iterV v hp fun g xs => forL g tgt body Q xs vs hp
theorem s_for {target iter : Expr} {body : List Stmt} {pos : Pos} {tgt : XT} {it : XE} {b : XS} (ht : SoundT K r env look target tgt) (hi : SoundE K r env look iter it) (hb : SoundSs K r env look body b)
    (hs : ∀ x, foldedSetIterable iter env x = pure x) : SoundS K r env look (.For target iter body [] pos) (sFor tgt it b) := by
  intro A ok vs Q hp ρ s E q F H
  refine wpAny_For (hi.then ok q F H ?_) hs
  intro v hp₁ ρ₁ h₁ t₁ rv q₁ H₁ S₁ r₁ F₁
  refine wpAny_mono (iter_start (s := { s with heap := h₁, toks := t₁ }) q₁ r₁ H₁) ?_ (fun _ _ x => x)
  rintro _ s' ⟨I, g, xs, h₂, rfl, rfl, q₂, hg, Ia, hI, hk⟩
  have H₂ : HRel K ρ₁ hp₁ h₂ := H₁.grow hk
  have S₂ : Step K ρ₁ h₁ ρ₁ h₂ := Step.grow hk
  have hn := H₁.fresh hI
  refine codeAny_forLoop_any (fun n s' => ∃ xs vs' hp' ρ' h' t', n = xs.length ∧ s' = { s with heap := h', toks := t' } ∧ forL g tgt b Q xs vs' hp' ∧ FRel K env look vs' ρ' h' ∧ HRel K ρ' hp' h' ∧
    IterAt ρ' h' I g xs ∧ Off ρ' I ∧ StepS K env ρ₁ h₁ ρ' h') ?_ xs.length ⟨xs, vs, hp₁, ρ₁, h₂, t₁, rfl, rfl, q₂, F₁.step H₁ S₂, H₂, Ia, H₁.off hI, S₂.toS⟩
  rintro n s' ⟨xs, vs', hp', ρ', h', t', rfl, rfl, q', F', H', Ia', ho, S'⟩
  cases xs with
  | nil =>
    obtain ⟨hg', q'⟩ := q'
    refine wpAny_mono (iter_end (s := { s with heap := h', toks := t' }) ok.hh Ia' H' hg' hn ho) ?_ (fun _ _ x => x)
    rintro _ s'' ⟨h'', rfl, rfl, H'', hs''⟩
    exact wpAny_execs_nil ⟨.next, vs', hp', ρ', h'', t', rfl, q', F'.skip Ia' hs'', H'', S₁.toS.trans (S'.skip hI hs''), trivial⟩
  | cons x xs =>
    obtain ⟨hg', q'⟩ := q'
    refine wpAny_mono (iter_next (s := { s with heap := h', toks := t' }) Ia' H' hg' hn ho) ?_ (fun _ _ x => x)
    rintro _ s'' ⟨rx, h'', t'', rfl, rfl, dx, Ia'', H'', hs''⟩
    refine iter_owned (s := { s with heap := h'', toks := t'' }) Ia'' ?_
    have F'' := F'.skip Ia' hs''.extBut
    have S'' := S'.skip hI hs''.extBut
    refine wpAny_mono (ht A ok (.d x) vs' _ hp' ρ' { s with heap := h'', toks := t'' } _ rx q' F'' H'' dx) ?_ (fun _ _ x => x)
    rintro _ s₃ ⟨vs₃, hp₃, ρ₃, h₃, t₃, rfl, q₃, F₃, H₃, S₃⟩
    have hI'' : ∃ o, h''.get? I = some o := let ⟨o, _, e, _⟩ := Ia''.dom; ⟨o, e⟩
    obtain ⟨oI, eI⟩ := hI''
    have Ia₃ := Ia''.stepS S₃ F'' H'' ho.mu (H''.newTb hn)
    have ho₃ := ho.stepS S₃ eI
    obtain ⟨oI₃, _, eI₃, _⟩ := Ia₃.dom
    refine wpAny_mono (hb A ok vs₃ _ hp₃ ρ₃ { s with heap := h₃, toks := t₃ } _ q₃ F₃ H₃) ?_ (fun _ _ x => x)
    rintro fl s₄ ⟨af, vs₄, hp₄, ρ₄, h₄, t₄, rfl, q₄, F₄, H₄, S₄, fr⟩
    have S₄' : StepS K env ρ₁ h₁ ρ₄ h₄ := (S''.trans S₃).trans S₄
    have more : forL g tgt b Q xs vs₄ hp₄ → ∃ m, m < (x :: xs).length ∧ ∃ xs vs' hp' ρ' h' t', m = xs.length ∧ ({ s with heap := h₄, toks := t₄ } : Shared) = { s with heap := h', toks := t' } ∧ forL g tgt b Q xs vs' hp' ∧ FRel K env look vs' ρ' h' ∧ HRel K ρ' hp' h' ∧
        IterAt ρ' h' I g xs ∧ Off ρ' I ∧ StepS K env ρ₁ h₁ ρ' h' := fun qq =>
      ⟨xs.length, by simp, xs, vs₄, hp₄, ρ₄, h₄, t₄, rfl, rfl, qq, F₄, H₄, Ia₃.stepS S₄ F₃ H₃ ho₃.mu (H₃.newTb hn), ho₃.stepS S₄ eI₃, S₄'⟩
    cases af <;> cases fl <;> first | exact fr.elim | skip
    · exact more q₄
    · exact ⟨.next, vs₄, hp₄, ρ₄, h₄, t₄, rfl, q₄, F₄, H₄, S₁.toS.trans S₄', trivial⟩
    · exact more q₄
    · exact ⟨.ret _, vs₄, hp₄, ρ₄, h₄, t₄, rfl, q₄, F₄, H₄, S₁.toS.trans S₄', fr⟩

/-- a while loop, by turns -/
noncomputable def whileN (t : XB) (body : XS) (Q : QS) : Nat → List (Option V) → List O → Prop
  | 0, _, _ => False
  | n + 1, vs, hp => t vs (fun b hp' => match b with
    | false => Q .next vs hp'
    | true => body vs (fun fl vs'' hp'' => match fl with
      | .next => whileN t body Q n vs'' hp''
      | .cont => whileN t body Q n vs'' hp''
      | .brk => Q .next vs'' hp''
      | .ret v => Q (.ret v) vs'' hp'') hp') hp
noncomputable def sWhile (t : XB) (body : XS) : XS := fun vs Q hp => ∃ n, whileN t body Q n vs hp
theorem s_while {test : Expr} {body : List Stmt} {pos : Pos} {t : XB} {b : XS} (ht : SoundB K r env look test t) (hb : SoundSs K r env look body b) : SoundS K r env look (.While test body [] pos) (sWhile t b) := by
  intro A ok vs Q hp ρ s E q F H
  obtain ⟨n, q⟩ := q
  refine wpAny_While (codeAny_whileLoop (fun n s' => ∃ vs' hp' ρ' h' t', s' = { s with heap := h', toks := t' } ∧ whileN t b Q n vs' hp' ∧ FRel K env look vs' ρ' h' ∧ HRel K ρ' hp' h' ∧ StepS K env ρ s.heap ρ' h') ?_ n
    ⟨vs, hp, ρ, s.heap, s.toks, rfl, q, F, H, StepS.refl ..⟩)
  rintro n s' ⟨vs', hp', ρ', h', t', rfl, q', F', H', S'⟩
  cases n with
  | zero => exact q'.elim
  | succ n =>
    refine ht.then ok (s := { s with heap := h', toks := t' }) q' F' H' ?_
    intro c hp₁ ρ₁ h₁ t₁ q₁ H₁ S₁ F₁
    cases c with
    | false => exact wpAny_execs_nil ⟨.next, vs', hp₁, ρ₁, h₁, t₁, rfl, q₁, F₁, H₁, S'.trans S₁.toS, trivial⟩
    | true =>
      refine wpAny_mono (hb A ok vs' _ hp₁ ρ₁ { s with heap := h₁, toks := t₁ } _ q₁ F₁ H₁) ?_ (fun _ _ x => x)
      rintro fl s₄ ⟨af, vs₄, hp₄, ρ₄, h₄, t₄, rfl, q₄, F₄, H₄, S₄, fr⟩
      have S₄' := (S'.trans S₁.toS).trans S₄
      cases af <;> cases fl <;> first | exact fr.elim | skip
      · exact ⟨n, Nat.lt_succ_self n, vs₄, hp₄, ρ₄, h₄, t₄, rfl, q₄, F₄, H₄, S₄'⟩
      · exact ⟨.next, vs₄, hp₄, ρ₄, h₄, t₄, rfl, q₄, F₄, H₄, S₄', trivial⟩
      · exact ⟨n, Nat.lt_succ_self n, vs₄, hp₄, ρ₄, h₄, t₄, rfl, q₄, F₄, H₄, S₄'⟩
      · exact ⟨.ret _, vs₄, hp₄, ρ₄, h₄, t₄, rfl, q₄, F₄, H₄, S₄', fr⟩
end
end Mine

set_option autoImplicit false
set_option linter.unusedVariables false
namespace Mine
open PySem PySem.Spec PySem.Calls PyProof.Rows

section
variable {K : KX} {r : Nat} {env : Env} {look : Str → Option Nat}

theorem inplace_list {A : Around} {s : Shared} {E : Value → Shared → Prop} {Q : Value → Shared → Prop} {l b : Addr} {xs ys : Array Value} {n n2 : Nat} (hl : IsL s.heap l xs n) (hb : IsL s.heap b ys n2)
    (hz : xs.size + ys.size ≤ sizeLine) (h : Q (.ref l) { s with heap := s.heap.update l (Obj.mapSeq fun x => x ++ ys) }) :
    wpAny (model K.prog K.w) A (inplaceOp .Add (.ref l) (.ref b)) Q E s := by
  unfold inplaceOp
  refine wpAny_holding ?_
  have ha : s.TypeIs (.ref l) "list" := ⟨_, hl, rfl⟩
  have hb' : s.TypeIs (.ref b) "list" := ⟨_, hb, rfl⟩
  have hfi : fillsInplaceSlot (.type "list") "add" (Operator.Add == .Add) = pure false := by
    unfold fillsInplaceSlot
    show (typeLookup (.type "list") (dunderI "add") >>= fun fi => pure (fi.isSome && !isSeqSlot fi)) = pure false
    rw [PySem.F.slot_list_iadd.lookup]
    show (pure (_ && !isSeqSlot (some (.builtin "list.__iadd__"))) : Sem Bool) = pure false
    rw [show isSeqSlot (some (.builtin "list.__iadd__")) = true from by decide +kernel]
    rfl
  have hsi : seqSlot? (.type "list") (dunderI "add") = pure (some (.builtin "list.__iadd__")) := PySem.seqSlot_of PySem.F.slot_list_iadd.lookup (by decide +kernel)
  refine wpAny_bind (wpAny_typeOf ha (wpAny_bind (wpAny_of_eq hfi ?_)))
  show wpAny _ A (if false = true then _ else _) Q E s
  rw [if_neg Bool.false_ne_true]
  refine wpAny_bind (wpAny_binaryOp1_none (nm := "add") ha hb' noFill_list_add ?_)
  refine wpAny_bind (wpAny_of_eq hsi ?_)
  refine wpAny_bind (wpAny_rule ?_)
  refine call_meets PySem.F.slot_list_iadd ha PySem.F.entry_list_iadd (PySem.F.args_list_iadd_2 _ _) (AutoSeq1.list___iadd___list_list_0 l xs n b ys n2 ?_ (by omega) (by omega)) ⟨hl, hb, h⟩
  simp only [Bool.and_eq_true, Builtin.List.listTooLong, decide_eq_true_eq, not_and]
  intro _; omega

noncomputable def opIAdd : Op2 := fun va vb Q hp => match va, vb with
  | .d (.int a), .d (.int b) => Q (.d (.int (a + b))) hp
  | .d (.str a), .d (.str b) => a.length + b.length ≤ sizeLine ∧ Q (.d (.str (a ++ b))) hp
  | va, vb => atL va hp fun i l1 => ∃ l2, lget vb hp = some l2 ∧ l1.length + l2.length ≤ sizeLine ∧ Q (.r i) (hp.set i (.lst (l1 ++ l2)))
theorem s_iadd : Sound2 K r (inplaceOp .Add) opIAdd := by
  intro A ok ρ hp s va vb ra rb Q E q H ha hb
  unfold opIAdd at q
  split at q
  · cases ha; cases hb
    exact PyProof.Rows.iadd_int (PostE.pure _ q H (.int ..))
  · cases ha; cases hb
    exact PyProof.Rows.iadd_str (fun t' tk => PostE.pure _ q.2 H (.str ..)) q.1
  · obtain ⟨i, l, p, vs, n, rfl, e, ep, rfl, hpa, hL, d, l2, e2, hz, q⟩ := atL_rel q H ha
    obtain ⟨b, ys, n', rfl, h2, d2⟩ := lget_rel H hb e2
    have z1 := d.length
    have z2 := d2.length
    simp only [Array.length_toList] at z1 z2
    obtain ⟨H', S'⟩ := put_list (A := A) (f := fun xs => xs ++ ys) (l' := l ++ l2) H e ep hL hpa (by rw [Array.toList_append]; exact d.append d2)
    exact inplace_list hL h2 (by omega) ⟨_, _, ρ, _, s.toks, rfl, q, H', S', ⟨p, ep, by rw [hpa]⟩⟩

noncomputable def sAug (f : Op2) (k : Nat) (a : XE) : XS := fun vs Q hp => match vs[k]? with
  | some (some old) => a vs (fun v => f old v fun w hp' => Q .next (vs.set k (some w)) hp') hp
  | _ => False
theorem s_aug {x : Str} {k : Nat} {pos' pos : Pos} {op : Operator} {value : Expr} {f : Op2} {a : XE} (hf : Sound2 K r (inplaceOp op) f) (ha : SoundE K r env look value a) (hk : env.kindOf x = some .local ∨ env.kindOf x = some .cell) (hl : look x = some k) :
    SoundS K r env look (.AugAssign (.Name x pos') op value pos) (sAug f k a) := by
  intro A ok vs Q hp ρ s E q F H
  unfold sAug at q
  split at q
  · rename_i old e
    refine wpAny_AugAssign_Name ?_
    have key : ∀ ro, VR ρ s.heap old ro → wpAny (model K.prog K.w) A (eval value env) (fun v s₂ => wpAny (model K.prog K.w) A (inplaceOp op ro v) (fun w s₃ => wpAny (model K.prog K.w) A (storeName env x w) (fun _ => PostS K env look ρ s Q .next) E s₃) E s₂) E s := by
      intro ro hro
      refine ha.then ok q F H ?_
      intro va hp₁ ρ₁ h₁ t₁ ra q₁ H₁ S₁ r₁ F₁
      refine wpAny_mono (hf A ok ρ₁ hp₁ { s with heap := h₁, toks := t₁ } old va ro ra _ E q₁ H₁ (hro.step S₁ H) r₁) ?_ (fun _ _ x => x)
      rintro rw' s₂ ⟨w, hp₂, ρ₂, h₂, t₂, rfl, q₂, H₂, S₂, r₂⟩
      refine wpAny_mono (store_name (s := { s with heap := h₂, toks := t₂ }) hk hl (F₁.step H₁ S₂) H₂ r₂) ?_ (fun _ _ x => x)
      rintro _ s' ⟨h₃, t₃, rfl, F₃, H₃, S₃⟩
      exact ⟨.next, _, hp₂, ρ₂, h₃, t₃, rfl, q₂, F₃, H₃, (S₁.trans S₂).toS.trans S₃, trivial⟩
    rcases hk with hk' | hk'
    · obtain ⟨m, n, f⟩ := F.ns
      obtain ⟨rv, e1, e2⟩ := f x k old hk' hl e
      exact wpAny_loadName_local F.kd hk' n e1 (key rv e2)
    · obtain ⟨c, o, ov, a1, a2, a3, a4, a5, a6⟩ := F.cl x (.inl hk')
      obtain ⟨rv, rfl, e2⟩ := a6 k old hl e
      exact wpAny_loadName_cell F.kd hk' a1 ⟨o, a4, a5⟩ (key rv e2)
  · exact q.elim

/-- xs[i] = v, the list an object of the abstract heap -/
noncomputable def putItem (vo vi : V) (x : PyData) (Q : List O → Prop) (hp : List O) : Prop := match vi with
  | .d (.int i) => (-2 ^ 63 ≤ i ∧ i < 2 ^ 63) ∧ atL vo hp fun j l => ∃ k, seqIndex? i l.length = some k ∧ Q (hp.set j (.lst (l.set k x)))
  | _ => False
theorem put_item {A : Around} {ρ : Rho} {hp : List O} {s : Shared} {vo vi : V} {x : PyData} {ro ri rx : Value} {Q : List O → Prop} {E : Value → Shared → Prop} (q : putItem vo vi x Q hp) (H : HRel K ρ hp s.heap) (ho : VR ρ s.heap vo ro) (hi : VR ρ s.heap vi ri) (hx : DR s.heap (mu ρ) rx x) :
    wpAny (model K.prog K.w) A (setItem ro ri rx) (fun _ s' => ∃ hp' h', s' = { s with heap := h' } ∧ Q hp' ∧ HRel K ρ hp' h' ∧ Step K ρ s.heap ρ h') E s := by
  unfold putItem at q
  split at q
  · rename_i i
    cases hi
    rename_i t
    obtain ⟨⟨hlo, hhi⟩, q⟩ := q
    obtain ⟨j, l, p, vs, n, rfl, e, ep, rfl, hpa, hL, d, k, hk, q⟩ := atL_rel q H ho
    have z := d.length
    simp only [Array.length_toList] at z
    obtain ⟨hkl, p2, p3⟩ := seqIndex_pos hk
    obtain ⟨H', S'⟩ := put_list (A := A) (f := fun xs => xs.setIfInBounds k rx) (l' := l.set k x) H e ep hL hpa (by simpa using d.set k hx)
    unfold setItem
    refine wpAny_holding ?_
    have hT : s.TypeIs (.ref p.m) "list" := ⟨_, hL, rfl⟩
    refine wpAny_bind (wpAny_sequenceKey hT (by decide) ?_)
    refine wpAny_bind (wpAny_callSpecial?_slot (name := Str.ofString "__setitem__") hT slot_list_setitem
      (wpAny_call_entry slot_list_setitem hT entry_list_setitem ?_ (args_list_setitem _ _ _)))
    show wpAny _ _ (Builtin.List.listSubscript? (.int i t) >>= _) _ _ s
    refine wpAny_bind (wpAny_listSubscript_int (by simp only [Builtin.List.listFitsIndex, Bool.and_eq_true, decide_eq_true_eq]; omega) ?_)
    have hx' : vs[k]? = some (vs[k]'(by omega)) := Array.getElem?_eq_getElem (by omega)
    have fin : wpAny (model K.prog K.w) A.in1 (setSeqItemAt p.m k rx) (fun _ s' => wpAny (model K.prog K.w) A.in1 (ret .none) (fun fin s' => ∃ v, fin = .done (.ret v) ∧ wpAny (model K.prog K.w) A (pure ()) (fun _ s' => ∃ hp' h', s' = { s with heap := h' } ∧ Q hp' ∧ HRel K ρ hp' h' ∧ Step K ρ s.heap ρ h') E s') E s') E s :=
      wpAny_setSeqItemAt hL rfl (wpAny_pure ⟨.none, rfl, wpAny_pure ⟨_, _, rfl, q, H', S'⟩⟩)
    rcases Int.lt_or_le i 0 with hneg | hpos
    · obtain ⟨m, rfl⟩ : ∃ m, i = Int.negSucc m := Int.eq_negSucc_of_lt_zero hneg
      show wpAny _ _ ((Builtin.List.listItems (.ref p.m) >>= fun xs => pure ((seqIndex? (Int.negSucc m) xs.size).bind fun j => xs[j]?.map (j, ·))) >>= _) _ _ s
      refine wpAny_bind (wpAny_bind (wpAny_listItems hL rfl (wpAny_pure ?_)))
      rw [z, hk]
      show wpAny _ _ (match Value.ref p.m, vs[k]?.map (k, ·) with | .ref a, some (j, _) => _ | _, _ => _) _ _ s
      rw [hx']
      exact wpAny_bind fin
    · obtain ⟨m, rfl⟩ := Int.eq_ofNat_of_zero_le hpos
      have : m = k := by have := p2 hpos; omega
      subst this
      show wpAny _ _ ((seqItemAt p.m m >>= fun r => pure (r.map (m, ·))) >>= _) _ _ s
      refine wpAny_bind (wpAny_bind (wpAny_seqItemAt hL rfl (wpAny_pure ?_)))
      rw [hx']
      exact wpAny_bind fin
  · exact q.elim
/-- the value's data -/
noncomputable def isD (v : V) (k : PyData → Prop) : Prop := match v with | .d x => k x | _ => False
noncomputable def sPut (o i a : XE) : XS := fun vs Q => a vs fun v => o vs fun vo => i vs fun vi hp => isD v fun x => putItem vo vi x (fun hp' => Q .next vs hp') hp
theorem s_put {o i value : Expr} {pos' pos : Pos} {po pi a : XE} (ha : SoundE K r env look value a) (ho : SoundE K r env look o po) (hi : SoundE K r env look i pi)
    (hs : swapsWith value (some (.Subscript o i pos')) pos.line env = pure false) : SoundS K r env look (.Assign [.Subscript o i pos'] value pos) (sPut po pi a) := by
  intro A ok vs Q hp ρ s E q F H
  refine wpAny_Assign_Subscript (ha.then ok q F H ?_) hs
  intro va hp₁ ρ₁ h₁ t₁ ra q₁ H₁ S₁ r₁ F₁
  refine ho.then ok (s := { s with heap := h₁, toks := t₁ }) q₁ F₁ H₁ ?_
  intro vo hp₂ ρ₂ h₂ t₂ ro q₂ H₂ S₂ r₂ F₂
  refine hi.then ok (s := { s with heap := h₂, toks := t₂ }) q₂ F₂ H₂ ?_
  intro vi hp₃ ρ₃ h₃ t₃ ri q₃ H₃ S₃ r₃ F₃
  have ra' := (r₁.step S₂ H₁).step S₃ H₂
  cases va with
  | d x =>
    refine wpAny_mono (put_item (s := { s with heap := h₃, toks := t₃ }) q₃ H₃ (r₂.step S₃ H₂) r₃ ra') ?_ (fun _ _ x => x)
    rintro _ s' ⟨hp', h', rfl, q', H', S'⟩
    exact ⟨.next, vs, hp', ρ₃, h', t₃, rfl, q', F₃.step H₃ S', H', (((S₁.trans S₂).trans S₃).trans S').toS, trivial⟩
  | _ => exact q₃.elim
end
end Mine

set_option autoImplicit false
set_option linter.unusedVariables false
namespace Mine
open PySem PySem.Spec PySem.Calls PyProof.Rows

/-- the place of a name among the names of a function -/
noncomputable def lk (nm : List Str) (x : Str) : Option Nat := nm.findIdx? (· == x)
theorem lk_get {nm : List Str} {x : Str} {k : Nat} (h : lk nm x = some k) : nm[k]? = some x := by
  unfold lk at h
  obtain ⟨hk, e, _⟩ := List.findIdx?_eq_some_iff_getElem.mp h
  rw [List.getElem?_eq_getElem hk, beq_iff_eq.mp e]

/-- what stands fixed of the names -/
structure KG (K : KX) (mg mb : Str → Option Value) : Prop where
  g : K.h0.Ns 3 mg
  g' : (3 : Addr) ≠ K.tb
  b : K.h0.Ns 0 mb
  b' : (0 : Addr) ≠ K.tb
  lim : K.h0.NoLimit
  lim' : cStatics ≠ K.tb
theorem HRel.nsOf {K : KX} {ρ : Rho} {hp : List O} {h : Heap} (H : HRel K ρ hp h) {a : Addr} {m : Str → Option Value} (n : K.h0.Ns a m) (ha : a ≠ K.tb) : h.Ns a m :=
  let ⟨o, es, ep, e, q⟩ := n; ⟨o, es, ep, H.keep _ _ e ha, q⟩
theorem HRel.limOf {K : KX} {ρ : Rho} {hp : List O} {h : Heap} (H : HRel K ρ hp h) {mg mb : Str → Option Value} (G : KG K mg mb) : h.NoLimit :=
  let ⟨mc, a, b⟩ := G.lim; ⟨mc, H.nsOf a G.lim', b⟩

structure FnAt (K : KX) (a : Addr) (fd : FuncData) (body : List Stmt) : Prop where
  ob : ∃ o, K.h0.get? a = some o ∧ o.data = .func fd
  tb : a ≠ K.tb
  bd : fd.body = .stmts body
  code : ∃ c o vs t, fd.code = .ref c ∧ K.h0.get? c = some o ∧ o.data = .fields vs ∧ vs[1]? = some (.str fd.qualname t) ∧ c ≠ K.tb
  clo : fd.closure = []
  gl : fd.globals = 3
  bi : fd.builtins = 0
  co : fd.scope.isCoroutine = false
  gen : fd.scope.isGenerator = false
  kd : fd.scope.kind = .function

noncomputable abbrev FT := List V → (V → List O → Prop) → List O → Prop
/-- the call of a value; the last arguments go by name -/
noncomputable def SoundF (K : KX) (r : Nat) (f : Value) (kn : List Str) (F : FT) : Prop :=
  ∀ A, OkA r A → ∀ ρ hp s vas ras ks Q, ∀ E : Value → Shared → Prop, ks.length = kn.length → F vas Q hp → HRel K ρ hp s.heap → VRs ρ s.heap vas (ras ++ ks) →
    codeAny (model K.prog K.w) A (.call f ⟨ras, kn.zip ks⟩) (fun r s' => match r with | .ok (.ret v) => PostE K ρ s Q v s' | .ok _ => False | .error e => E e s') s
theorem SoundF.call {K : KX} {r : Nat} {f : Value} {kn : List Str} {F : FT} (h : SoundF K r f kn F) : ∀ A, OkA r A → ∀ ρ hp s vas ras ks Q E, ks.length = kn.length → F vas Q hp → HRel K ρ hp s.heap → VRs ρ s.heap vas (ras ++ ks) →
    wpAny (model K.prog K.w) A (call f ras (kn.zip ks)) (PostE K ρ s Q) E s := fun A ok ρ hp s vas ras ks Q E hl q H R => wpAny_call (h A ok ρ hp s vas ras ks Q E hl q H R)

noncomputable abbrev BT := List V → (List V → List O → Prop) → List O → Prop
noncomputable def SoundBind (K : KX) (fd : FuncData) (kn : List Str) (ps : List Str) (bd : BT) : Prop :=
  ∀ A, A.handled = none → ∀ ρ hp s vas ras ks Q E, ks.length = kn.length → bd vas Q hp → HRel K ρ hp s.heap → VRs ρ s.heap vas (ras ++ ks) →
    wpAny (model K.prog K.w) A (bindArgs fd ⟨ras, kn.zip ks⟩) (fun binds s' => ∃ vas' ras' hp' ρ' h' t, s' = { s with heap := h', toks := t } ∧ binds = ps.zip ras' ∧ ras'.length = ps.length ∧
      Q vas' hp' ∧ HRel K ρ' hp' h' ∧ Step K ρ s.heap ρ' h' ∧ VRs ρ' h' vas' ras') E s
/-- as many arguments as parameters -/
noncomputable def bPlain (n : Nat) : BT := fun vas Q hp => vas.length = n ∧ Q vas hp
theorem b_plain {K : KX} {fd : FuncData} {ps : List Str} (h : ∀ ras : List Value, ras.length = ps.length → bindArgs fd ⟨ras, []⟩ = pure (ps.zip ras)) : SoundBind K fd [] ps (bPlain ps.length) := by
  intro A hh ρ hp s vas ras ks Q E hk q H R
  cases ks with
  | cons _ _ => simp at hk
  | nil =>
    rw [List.append_nil] at R
    have hl := R.length
    have e : ras.length = ps.length := by rw [← hl]; exact q.1
    rw [show ([] : List Str).zip ([] : List Value) = [] from rfl, h ras e]
    exact wpAny_pure ⟨vas, ras, hp, ρ, s.heap, s.toks, rfl, rfl, e, q.2, H, Step.refl .., R⟩

/-- how a function's value leaves it -/
noncomputable def fin (keep : Bool) (n : Nat) (Q : V → List O → Prop) (v : V) (hp' : List O) : Prop :=
  match keep with
  | true => Q v hp'
  | false => match v with
    | .d x => Q (.d x) (hp'.take n)
    | .r i => if i < n then Q (.r i) (hp'.take n) else match hp'[i]? with | some (.lst l) => Q (.d (.list l)) (hp'.take n) | _ => False
    | .rng .. => False
    | .g v => Q (.g v) (hp'.take n)
theorem fin_rel {K : KX} {keep : Bool} {ρ ρ' : Rho} {hp hp' : List O} {s : Shared} {h' : Heap} {t : Nat} {Q : V → List O → Prop} {v : V} {rv : Value}
    (q : fin keep hp.length Q v hp') (H : HRel K ρ hp s.heap) (H' : HRel K ρ' hp' h') (S : Step K ρ s.heap ρ' h') (r : VR ρ' h' v rv) : PostE K ρ s Q rv { s with heap := h', toks := t } := by
  cases keep with
  | true => exact ⟨v, hp', ρ', h', t, rfl, q, H', S, r⟩
  | false =>
    have hl : ρ.length ≤ hp'.length := by rw [← H'.len]; exact S.pre.length_le
    have C := H'.cut S.pre hl
    rw [H.len] at C
    cases v with
    | d x => exact ⟨.d x, _, ρ, h', t, rfl, q, C, S.cut, DR.cut S.pre r⟩
    | r i =>
      obtain ⟨p, e, rfl⟩ := r
      unfold fin at q
      simp only at q
      split at q
      · rename_i hi
        refine ⟨.r i, _, ρ, h', t, rfl, q, C, S.cut, ⟨p, ?_, rfl⟩⟩
        obtain ⟨u, hu⟩ := S.pre
        rw [← hu, List.getElem?_append_left (by rw [H.len]; exact hi)] at e
        exact e
      · rename_i hi
        split at q
        · rename_i l e'
          obtain ⟨e1, vs, n, h1, h2⟩ := H'.ob i _ p e' e
          refine ⟨.d (.list l), _, ρ, h', t, rfl, q, C, S.cut, ?_⟩
          rw [e1]
          refine DR.list h1 ?_ (DRs.cut S.pre h2)
          intro hm
          obtain ⟨u, hu⟩ := S.pre
          have hiρ : ρ.length ≤ i := by rw [H.len]; omega
          have nd := H'.nd
          rw [← hu] at nd e
          simp only [mu, List.map_append] at nd hm
          have := (List.nodup_append.mp nd).2.2 p.m hm p.m
          refine this ?_ rfl
          rw [List.getElem?_append_right hiρ] at e
          exact List.mem_map.mpr ⟨p, List.mem_of_getElem? e, rfl⟩
        · exact q.elim
    | rng a b c => exact q.elim
    | g v => exact ⟨.g v, _, ρ, h', t, rfl, q, C, S.cut, r⟩

theorem bindL_get {kindOf : Str → Option NameKind} : ∀ {ps : List Str} {ras : List Value} {m : Str → Option Value} {k : Nat} {x : Str} {rv : Value}, ps.Nodup → ps[k]? = some x → ras[k]? = some rv → kindOf x = some .local →
    bindL kindOf (ps.zip ras) m x = some rv := by
  have skip : ∀ {ps : List Str} {ras : List Value} {m : Str → Option Value} {x : Str}, x ∉ ps → bindL kindOf (ps.zip ras) m x = m x := by
    intro ps
    induction ps with
    | nil => intros; rfl
    | cons p ps ih =>
      intro ras m x hx
      cases ras with
      | nil => rfl
      | cons a ras =>
        simp only [List.zip_cons_cons, bindL]
        rw [ih (fun h => hx (List.mem_cons_of_mem _ h))]
        split
        · exact if_neg (fun h : x = p => hx (by rw [h]; exact List.mem_cons_self))
        · rfl
  intro ps
  induction ps with
  | nil => intro ras m k x rv _ e; simp at e
  | cons p ps ih =>
    intro ras m k x rv nd e e' hl
    cases ras with
    | nil => simp at e'
    | cons a ras =>
      simp only [List.zip_cons_cons, bindL]
      obtain ⟨n1, n2⟩ := List.nodup_cons.mp nd
      cases k with
      | zero =>
        simp at e e'; subst e; subst e'
        rw [skip n1, if_pos hl, if_pos rfl]
      | succ k => simp at e e'; exact ih n2 e e' hl
theorem bindC_get {kindOf : Str → Option NameKind} : ∀ {ps : List Str} {ras : List Value} {m : Str → Option Value} {k : Nat} {x : Str} {rv : Value}, ps.Nodup → ps[k]? = some x → ras[k]? = some rv → kindOf x ≠ some .local →
    bindC kindOf (ps.zip ras) m x = some rv := by
  have skip : ∀ {ps : List Str} {ras : List Value} {m : Str → Option Value} {x : Str}, x ∉ ps → bindC kindOf (ps.zip ras) m x = m x := by
    intro ps
    induction ps with
    | nil => intros; rfl
    | cons p ps ih =>
      intro ras m x hx
      cases ras with
      | nil => rfl
      | cons a ras =>
        simp only [List.zip_cons_cons, bindC]
        rw [ih (fun h => hx (List.mem_cons_of_mem _ h))]
        split
        · rfl
        · exact if_neg (fun h : x = p => hx (by rw [h]; exact List.mem_cons_self))
  intro ps
  induction ps with
  | nil => intro ras m k x rv _ e; simp at e
  | cons p ps ih =>
    intro ras m k x rv nd e e' hl
    cases ras with
    | nil => simp at e'
    | cons a ras =>
      simp only [List.zip_cons_cons, bindC]
      obtain ⟨n1, n2⟩ := List.nodup_cons.mp nd
      cases k with
      | zero =>
        simp at e e'; subst e; subst e'
        rw [skip n1, if_neg hl, if_pos rfl]
      | succ k => simp at e e'; exact ih n2 e e' hl
theorem cellsFrom_some : ∀ (names : List (Str × NameKind)) (n : Nat) (acc : List (Str × Addr)) (x : Str), ((x, NameKind.cell) ∈ names ∨ (acc.lookup x).isSome = true) → ((cellsFrom n names acc).lookup x).isSome = true
  | [], n, acc, x, h => by
    rcases h with h | h
    · cases h
    · exact h
  | (y, kind) :: r, n, acc, x, h => by
    unfold cellsFrom
    split
    · rename_i hk
      refine cellsFrom_some r (n + 1) _ x ?_
      rw [List.lookup_cons]
      cases hb : x == y with
      | true => exact .inr rfl
      | false =>
        rcases h with h | h
        · rcases List.mem_cons.mp h with e | h
          · cases e; simp at hb
          · exact .inl h
        · exact .inr h
    · rename_i hk
      refine cellsFrom_some r n _ x ?_
      rcases h with h | h
      · rcases List.mem_cons.mp h with e | h
        · cases e; exact absurd rfl hk
        · exact .inl h
      · exact .inr h

theorem VRs.get {ρ : Rho} {h : Heap} {vs : List V} {xs : List Value} (r : VRs ρ h vs xs) {k : Nat} {v : V} (e : vs[k]? = some v) : ∃ x, xs[k]? = some x ∧ VR ρ h v x := by
  induction vs generalizing xs k with
  | nil => simp at e
  | cons w vs ih =>
    cases r with
    | cons a b =>
      cases k with
      | zero => simp at e; subst e; exact ⟨_, by simp, a⟩
      | succ k => simp at e; obtain ⟨x, e', q⟩ := ih b e; exact ⟨x, by simpa using e', q⟩

/-- the function's run: its body from its arguments -/
noncomputable def runFn (keep : Bool) (bd : BT) (n : Nat) (body : XS) : FT := fun vas Q hp => bd vas (fun vas' hp₁ => body (vas'.map some ++ List.replicate n none) (fun fl _ hp' => match fl with
  | .ret v => fin keep hp.length Q v hp'
  | _ => fin keep hp.length Q (.d .none) hp') hp₁) hp

theorem f_run {K : KX} {mg mb : Str → Option Value} (G : KG K mg mb) {r : Nat} {a : Addr} {fd : FuncData} {body : List Stmt} (X : FnAt K a fd body) {kn ps rest : List Str} {bd : BT} {p : XS} {keep : Bool} {n : Nat}
    (hb : SoundBind K fd kn ps bd) (nd : ps.Nodup) (hkind : ∀ x ∈ ps, fd.scope.names.lookup x = some .local ∨ fd.scope.names.lookup x = some .cell) (hfree : ∀ x, fd.scope.names.lookup x ≠ some .free)
    (hp : ∀ L, SoundSs K r (callEnvC fd L a) (lk (ps ++ rest)) body p) : SoundF K (r + 1) (.ref a) kn (runFn keep bd n p) := by
  intro A ok ρ hp₀ s vas ras ks Q E hk q H R
  obtain ⟨o, ho, hd⟩ := X.ob
  refine codeAny_call_function (fd := fd) (by have := ok.dp; omega) (H.keep _ _ ho X.tb) hd X.co X.gen X.bd ?_ ?_
  · obtain ⟨c, oc, vs, t, e1, e2, e3, e4, e5⟩ := X.code
    exact ⟨c, oc, vs, t, e1, H.keep _ _ e2 e5, e3, e4⟩
  refine wpAny_mono (hb A.in1 ok.hh ρ hp₀ s vas ras ks _ _ hk q H R) ?_ (fun _ _ x => x)
  rintro binds s₁ ⟨vas', ras', hp₁, ρ₁, h₁, t₁, rfl, rfl, hl', q₁, H₁, S₁, R₁⟩
  rw [X.clo]
  refine wpAny_newFunctionEnv_cells X.kd ?_ ?_
  · intro x hx
    obtain ⟨x1, x2⟩ := x
    have hm : x1 ∈ ps := (List.of_mem_zip hx).1
    rcases hkind x1 hm with e | e
    · exact .inl e
    · exact .inr ⟨e, cellsFrom_some _ _ _ _ (.inl (mem_of_lookup e))⟩
  intro env he s₂ I
  have he' : env = callEnvC fd h₁.objs.size a := he
  have hs₂ : ∃ h₂ t₂, s₂ = { s with heap := h₂, toks := t₂ } := by
    obtain ⟨h₂, t₂, e⟩ := I.toInCall.same
    exact ⟨h₂, t₂, e⟩
  obtain ⟨h₂, t₂, rfl⟩ := hs₂
  have keep₂ : ∀ b o, h₁.get? b = some o → h₂.get? b = some o := I.toInCall.keep
  have H₂ : HRel K ρ₁ hp₁ h₂ := H₁.grow keep₂
  have S₂ : Step K ρ₁ h₁ ρ₁ h₂ := Step.grow keep₂
  have R₂ := R₁.step S₂ H₁
  have hloc : env.locals = h₁.objs.size := by rw [he']; rfl
  have hkof : ∀ x, env.kindOf x = fd.scope.names.lookup x := by intro x; rw [he']; rfl
  have hcell : env.cells = cellsFrom (h₁.objs.size + 1) fd.scope.names [] := by rw [he']; rfl
  have hvs : ∀ (k : Nat) (v : V), (vas'.map some ++ List.replicate n none)[k]? = some (some v) → vas'[k]? = some v := by
    intro k v e
    by_cases hk : k < vas'.length
    · rw [List.getElem?_append_left (by simpa using hk), List.getElem?_map] at e
      cases e' : vas'[k]? with
      | none => rw [e'] at e; cases e
      | some w => rw [e'] at e; simpa using e
    · rw [List.getElem?_append_right (by simpa using hk), List.getElem?_replicate] at e
      split at e <;> cases e
  have hps : ∀ (x : Str) (k : Nat) (v : V), lk (ps ++ rest) x = some k → vas'[k]? = some v → ps[k]? = some x := by
    intro x k v e e'
    have := lk_get e
    have hk : k < ps.length := by rw [← hl', ← R₁.length]; exact (List.getElem?_eq_some_iff.mp e').1
    rwa [List.getElem?_append_left hk] at this
  have newc : ∀ c, h₁.objs.size ≤ c → K.New c ∧ Off ρ₁ c := fun c hc => ⟨H₁.fresh (get?_beyond hc), H₁.off (get?_beyond hc)⟩
  have F : FRel K env (lk (ps ++ rest)) (vas'.map some ++ List.replicate n none) ρ₁ h₂ := by
    refine ⟨by rw [he']; exact X.kd, by rw [he']; exact X.gl, by rw [he']; exact X.bi, ?_, ?_, ?_, ?_, ?_, ?_⟩
    · rw [hloc]; exact (newc _ (Nat.le_refl _)).1
    · rw [hloc]; exact (newc _ (Nat.le_refl _)).2
    · refine ⟨_, I.toInCall.ns, fun x k v hx hl e => ?_⟩
      have e1 := hvs k v e
      obtain ⟨rv, e2, e3⟩ := R₂.get e1
      exact ⟨rv, bindL_get nd (hps x k v hl e1) e2 hx, e3⟩
    · intro x hx
      have hxc : fd.scope.names.lookup x = some .cell := by
        rcases hx with hx | hx
        · rw [← hkof]; exact hx
        · exact absurd (by rw [← hkof]; exact hx) (hfree x)
      have is : (env.cells.lookup x).isSome = true := by rw [hcell]; exact cellsFrom_some _ _ _ _ (.inl (mem_of_lookup hxc))
      obtain ⟨c, hc⟩ := Option.isSome_iff_exists.mp is
      have hab := I.above x c (mem_of_lookup hc)
      rw [hloc] at hab
      obtain ⟨oc, g1, g2⟩ := I.cell x c hc
      refine ⟨c, oc, _, hc, (newc c (Nat.le_of_lt hab)).1, (newc c (Nat.le_of_lt hab)).2, g1, g2, fun k v hl e => ?_⟩
      have e1 := hvs k v e
      obtain ⟨rv, e2, e3⟩ := R₂.get e1
      refine ⟨rv, bindC_get nd (hps x k v hl e1) e2 ?_, e3⟩
      rw [hkof, hxc]; simp
    · intro x y c h1 h2
      exact name_of_addr I.apart (mem_of_lookup h1) (mem_of_lookup h2)
    · intro x y k h1 h2
      have e1 := lk_get h1
      have e2 := lk_get h2
      rw [e1] at e2; cases e2; rfl
  refine ⟨H₂.limOf G, codeAny_func ?_⟩
  have ok' : OkA r (A.deeper env) := ⟨ok.hh, by have := ok.dp; show A.depth + 1 + r < _; omega, by have := ok.un; show A.units + 3 + _ + 200 < _; omega⟩
  have hp' : SoundSs K r env (lk (ps ++ rest)) body p := by rw [he']; exact hp _
  refine wpAny_mono (hp' (A.deeper env) ok' _ _ hp₁ ρ₁ { s with heap := h₂, toks := t₂ } _ q₁ F H₂) ?_ (fun _ _ x => x)
  rintro fl s₃ ⟨af, vs', hp₃, ρ₃, h₃, t₃, rfl, q₃, F₃, H₃, S₃, fr⟩
  have S : Step K ρ s.heap ρ₃ h₃ := by
    refine S₁.trans ⟨S₃.pre, ?_, ?_, ?_⟩
    · intro p hp
      rcases S₃.new p hp with x | x
      · exact .inl x
      · exact .inr ⟨none_of_dom S₂.dom x.1, fun b hb => none_of_dom S₂.dom (x.2 b hb)⟩
    · intro b o e hb hm
      refine S₃.keep b o (keep₂ _ _ e) hb hm ?_
      have hlt := Heap.lt_size e
      rintro (z | ⟨x, _, hc⟩)
      · rw [hloc] at z; exact absurd hlt (by rw [z]; exact Nat.lt_irrefl _)
      · have := I.above x b (mem_of_lookup hc); rw [hloc] at this; exact absurd hlt (Nat.not_lt.mpr (Nat.le_of_lt this))
    · intro b o e; exact S₃.dom b o (keep₂ _ _ e)
  have dn : VR ρ₃ h₃ (.d .none) .none := .none
  cases af <;> cases fl <;> first | exact fr.elim | skip
  · exact fin_rel q₃ H H₃ S dn
  · exact fin_rel q₃ H H₃ S dn
  · exact fin_rel q₃ H H₃ S dn
  · exact fin_rel q₃ H H₃ S fr

section
variable {K : KX} {mg mb : Str → Option Value} {r : Nat} {env : Env} {look : Str → Option Nat}
/-- f(args) -/
noncomputable def xCall (F : FT) (p : XL) : XE := fun vs Q => p vs fun l hp => F l Q hp
theorem e_call (G : KG K mg mb) {f : Str} {a : Addr} {fd : FuncData} {body : List Stmt} {args : List Expr} {p pos : Pos} {F : FT} {l : XL} (X : FnAt K a fd body) (hF : SoundF K r (.ref a) [] F) (hl : SoundL K r env look args l)
    (hk : env.kindOf f = some .globalImplicit) (hg : mg f = some (.ref a)) (hd : (f == ("__debug__" : Str)) = false) (hb : ∀ t : List (Bool × Sem Value), backTo pos (starEach args env) = t → ∀ x ∈ t, x.1 = false) :
    SoundE K r env look (.Call (.Name f p) args [] pos) (xCall F l) := by
  intro A ok vs Q hp ρ s E q FR H
  refine wpAny_Call_Name_kw (Calls.Name_function_global FR.kd hk (Calls.loadGlobal_global (mg := mg) ?_ hg ?_) hd)
  · rw [FR.gl]; exact H.nsOf G.g G.g'
  obtain ⟨o, ho, hdd⟩ := X.ob
  refine callWith_function_kw (o := o) (fd := fd) ?_
  have base := hl A ok pos vs _ hp ρ s E q FR H
  have fin : ∀ rvs s', PostL K ρ s (fun l hp => F l Q hp) rvs s' → (s'.heap.get? a = some o ∧ o.data = .func fd) ∧ wpAny (model K.prog K.w) A (call (.ref a) ([] ++ rvs) []) (PostE K ρ s Q) E s' := by
    rintro rvs s' ⟨l, hp₁, ρ₁, h₁, t₁, rfl, q₁, H₁, S₁, r₁⟩
    refine ⟨⟨H₁.keep _ _ ho X.tb, hdd⟩, wpAny_mono (hF.call A ok ρ₁ hp₁ { s with heap := h₁, toks := t₁ } l rvs [] Q E rfl q₁ H₁ (by rw [List.append_nil]; exact r₁)) (fun _ _ x => PostE.after S₁ x) (fun _ _ x => x)⟩
  have hb' := hb _ rfl
  show wpAny _ A (evalArgs (.ref a) true (backTo pos (starEach args env)) []) _ E s
  revert base hb'
  generalize backTo pos (starEach args env) = T
  intro base hb'
  cases T with
  | nil =>
    refine PySem.evalArgs_none ⟨⟨H.keep _ _ ho X.tb, hdd⟩, fun Γ p hΓ => ?_⟩
    have base' : wpAny (model K.prog K.w) A (spliced []) (fun rvs s' => (s'.heap.get? a = some o ∧ o.data = .func fd) ∧ wpAny (model K.prog K.w) A (call (.ref a) ([] ++ rvs) []) (PostE K ρ s Q) E s') E s :=
      wpAny_mono base (fun rvs s' x => fin rvs s' x) (fun _ _ x => x)
    exact (base' Γ p hΓ).2 Γ p hΓ
  | cons x rest =>
    obtain ⟨b, t⟩ := x
    have hb0 : b = false := hb' (b, t) List.mem_cons_self
    subst hb0
    exact Calls.evalArgs_plain (wpAny_mono base (fun rvs s' x => fin rvs s' x) (fun _ _ x => x))
end
end Mine

set_option autoImplicit false
set_option linter.unusedVariables false
namespace Mine
open PySem PySem.Spec PySem.Calls PyProof.Rows

section
variable {K : KX} {mg mb : Str → Option Value} {r : Nat} {env : Env} {look : Str → Option Nat}
/-- a call of a value that is no function of the program -/
noncomputable def SoundV (K : KX) (r : Nat) (f : Value) (F : FT) : Prop :=
  ∀ A, OkA r A → ∀ ρ hp s vas ras Q E, F vas Q hp → HRel K ρ hp s.heap → VRs ρ s.heap vas ras → wpAny (model K.prog K.w) A (call f ras) (PostE K ρ s Q) E s

theorem callWith_typeS {M : Model} {A : Around} {E : Value → Shared → Prop} {s : Shared} {pos : Pos} {T : String} {first : List Value} {trees : List (Bool × Sem Value)} {Q : Value → Shared → Prop}
    (hp : trees.any (·.1) = false) (h : wpAny M A (spliced trees) (fun vs s₁ => wpAny M A (call (.type T) (first ++ vs)) Q E s₁) E s) : wpAny M A (callWith pos (.type T) first trees []) Q E s := by
  refine PySem.callWith_type hp ?_
  cases trees with
  | nil =>
    refine PySem.evalArgs_none (fun Γ p hΓ => ?_)
    exact h Γ p hΓ Γ p hΓ
  | cons x rest =>
    obtain ⟨b, t⟩ := x
    simp only [List.any_cons, Bool.or_eq_false_iff] at hp
    obtain ⟨rfl, _⟩ := hp
    exact Calls.evalArgs_plain h

theorem e_bcall (G : KG K mg mb) {f : Str} {id : String} {args : List Expr} {p pos : Pos} {F : FT} {l : XL} (hF : SoundV K r (.builtin id) F) (hl : SoundL K r env look args l)
    (hk : env.kindOf f = some .globalImplicit) (hg : mg f = none) (hm : mb f = some (.builtin id)) (hd : (f == ("__debug__" : Str)) = false) (hb : (backTo pos (starEach args env)).any (·.1) = false) :
    SoundE K r env look (.Call (.Name f p) args [] pos) (xCall F l) := by
  intro A ok vs Q hp ρ s E q FR H
  refine wpAny_Call_Name_kw (Calls.Name_function_global FR.kd hk (Calls.loadGlobal_builtin (mg := mg) (mb := mb) ?_ hg ?_ hm ?_) hd)
  · rw [FR.gl]; exact H.nsOf G.g G.g'
  · rw [FR.bi]; exact H.nsOf G.b G.b'
  refine callWith_builtin hb (wpAny_mono (hl A ok pos vs _ hp ρ s E q FR H) ?_ (fun _ _ x => x))
  rintro rvs s' ⟨l, hp₁, ρ₁, h₁, t₁, rfl, q₁, H₁, S₁, r₁⟩
  exact wpAny_mono (hF A ok ρ₁ hp₁ { s with heap := h₁, toks := t₁ } l rvs Q E q₁ H₁ r₁) (fun _ _ x => PostE.after S₁ x) (fun _ _ x => x)
theorem e_tcall (G : KG K mg mb) {f : Str} {id : String} {args : List Expr} {p pos : Pos} {F : FT} {l : XL} (hF : SoundV K r (.type id) F) (hl : SoundL K r env look args l)
    (hk : env.kindOf f = some .globalImplicit) (hg : mg f = none) (hm : mb f = some (.type id)) (hd : (f == ("__debug__" : Str)) = false) (hb : (backTo pos (starEach args env)).any (·.1) = false) :
    SoundE K r env look (.Call (.Name f p) args [] pos) (xCall F l) := by
  intro A ok vs Q hp ρ s E q FR H
  refine wpAny_Call_Name_kw (Calls.Name_function_global FR.kd hk (Calls.loadGlobal_builtin (mg := mg) (mb := mb) ?_ hg ?_ hm ?_) hd)
  · rw [FR.gl]; exact H.nsOf G.g G.g'
  · rw [FR.bi]; exact H.nsOf G.b G.b'
  refine callWith_typeS hb (wpAny_mono (hl A ok pos vs _ hp ρ s E q FR H) ?_ (fun _ _ x => x))
  rintro rvs s' ⟨l, hp₁, ρ₁, h₁, t₁, rfl, q₁, H₁, S₁, r₁⟩
  exact wpAny_mono (hF A ok ρ₁ hp₁ { s with heap := h₁, toks := t₁ } l rvs Q E q₁ H₁ r₁) (fun _ _ x => PostE.after S₁ x) (fun _ _ x => x)

noncomputable def fLen : FT := fun vas Q hp => match vas with
  | [.d (.str x)] => (x.length : Int) < 2 ^ 63 ∧ Q (.d (.int x.length)) hp
  | [.d (.tuple l)] => (l.length : Int) < 2 ^ 63 ∧ Q (.d (.int l.length)) hp
  | [v] => match lget v hp with | some l => (l.length : Int) < 2 ^ 63 ∧ Q (.d (.int l.length)) hp | none => False
  | _ => False
theorem f_len : SoundV K r (.builtin "len") fLen := by
  intro A ok ρ hp s vas ras Q E q H R
  unfold fLen at q
  split at q
  · rename_i x
    cases R with | cons a b =>
    cases b; cases a
    exact PyProof.Rows.len_str (by omega) (PostE.pure _ q.2 H (.int ..))
  · rename_i l
    cases R with | cons a b =>
    cases b
    cases a with
    | tuple h1 h2 h3 =>
      rename_i aa vs n
      have e : vs.size = l.length := by rw [← h3.length]; simp
      refine PySem.P.len_tuple h1 (by rw [e]; omega) ?_
      rw [e]
      exact PostE.pure _ q.2 H (.int ..)
  · rename_i v _ _
    split at q
    · rename_i l e
      cases R with | cons a b =>
      cases b
      obtain ⟨aa, vs, n, rfl, h1, h3⟩ := lget_rel H a e
      have e : vs.size = l.length := by rw [← h3.length]; simp
      refine PyProof.Rows.len_list (items := vs) ⟨_, h1, rfl, n, rfl⟩ (by rw [e]; omega) ?_
      rw [e]
      exact PostE.pure _ q.2 H (.int ..)
    · exact q.elim
  · exact q.elim

noncomputable def fRange : FT := fun vas Q hp => match vas with
  | [.d (.int n)] => Q (.rng 0 n 1) hp
  | [.d (.int a), .d (.int b)] => Q (.rng a b 1) hp
  | _ => False
theorem f_range : SoundV K r (.type "range") fRange := by
  intro A ok ρ hp s vas ras Q E q H R
  unfold fRange at q
  split at q
  · cases R with | cons a b =>
    cases b; cases a
    refine call_range_1 ?_
    exact PostE.grown _ q H (fun _ _ e => Heap.get?_push_of_some _ e) ⟨_, _, _, _, rfl, Heap.get?_push_size _ rfl, H.sizeMu⟩
  · cases R with | cons a b =>
    cases b with | cons b c =>
    cases c; cases a; cases b
    refine call_range_2 ?_
    exact PostE.grown _ q H (fun _ _ e => Heap.get?_push_of_some _ e) ⟨_, _, _, _, rfl, Heap.get?_push_size _ rfl, H.sizeMu⟩
  · exact q.elim
noncomputable def fStr : FT := fun vas Q hp => match vas with
  | [.d (.int n)] => n.natAbs.log2 < 1920 ∧ Q (.d (.str (toString n))) hp
  | _ => False
theorem f_str : SoundV K r (.type "str") fStr := by
  intro A ok ρ hp s vas ras Q E q H R
  unfold fStr at q
  split at q
  · cases R with | cons a b =>
    cases b; cases a
    exact PySem.P.str_of_int q.1 (PostE.pure _ q.2 H (.str ..))
  · exact q.elim
end
end Mine

set_option autoImplicit false
set_option linter.unusedVariables false
set_option linter.unusedSimpArgs false
namespace Mine
open PySem PySem.Spec PySem.Calls PyProof.Rows

/-- the closure of a comprehension -/
noncomputable def clo (cells : List (Str × Addr)) : List (Str × NameKind) → List (Str × Addr) → List (Str × Addr)
  | [], acc => acc
  | (n, k) :: r, acc => if k == .free then clo cells r ((n, (cells.lookup n).getD 0) :: acc) else clo cells r acc
theorem closureFor_clo {env : Env} {scope : Scope} (h : ∀ x ∈ scope.names, x.2 = .free → (env.cells.lookup x.1).isSome = true) : closureFor scope env = pure (clo env.cells scope.names []) := by
  have key : ∀ (names : List (Str × NameKind)) (acc : List (Str × Addr)), (∀ x ∈ names, x.2 = .free → (env.cells.lookup x.1).isSome = true) →
      (forIn names acc (fun (x : Str × NameKind) (cs : List (Str × Addr)) => (if x.2 == .free then (do let a ← cellOf env x.1; pure (ForInStep.yield ((x.1, a) :: cs))) else pure (ForInStep.yield cs) : Sem (ForInStep (List (Str × Addr)))))) = pure (clo env.cells names acc) := by
    intro names
    induction names with
    | nil => intro acc _; rfl
    | cons x r ih =>
      intro acc hx
      obtain ⟨n, k⟩ := x
      rw [List.forIn_cons]
      unfold clo
      cases hk : (k == NameKind.free) with
      | true =>
        have hk' : k = .free := by simpa using hk
        have hs := hx (n, k) List.mem_cons_self hk'
        obtain ⟨c, hc⟩ := Option.isSome_iff_exists.mp hs
        simp only [hk, if_true]
        have e : cellOf env n = pure c := by unfold cellOf; rw [hc]
        rw [e]
        have := ih ((n, c) :: acc) (fun y hy => hx y (List.mem_cons_of_mem _ hy))
        rw [show (env.cells.lookup n).getD 0 = c by rw [hc]; rfl]
        rw [← this]
        rfl
      | false =>
        simp only [hk, Bool.false_eq_true, if_false]
        exact ih acc (fun y hy => hx y (List.mem_cons_of_mem _ hy))
  unfold closureFor
  have := key scope.names [] h
  exact (congrArg (fun t => t >>= fun cs => (pure cs : Sem (List (Str × Addr)))) this)
theorem clo_lookup {cells : List (Str × Addr)} : ∀ {names : List (Str × NameKind)} {acc : List (Str × Addr)} {x : Str} {c : Addr}, (∀ y ∈ names, y.2 = .free → (cells.lookup y.1).isSome = true) →
    (∀ y d, acc.lookup y = some d → cells.lookup y = some d) → (clo cells names acc).lookup x = some c → cells.lookup x = some c
  | [], acc, x, c, _, ha, h => ha x c h
  | (n, k) :: r, acc, x, c, hn, ha, h => by
    unfold clo at h
    split at h
    · rename_i hk
      refine clo_lookup (fun y hy => hn y (List.mem_cons_of_mem _ hy)) ?_ h
      intro y d hy
      rw [List.lookup_cons] at hy
      cases hb : y == n with
      | true =>
        rw [hb] at hy
        have e := beq_iff_eq.mp hb
        subst e
        obtain ⟨c', hc'⟩ := Option.isSome_iff_exists.mp (hn (y, k) List.mem_cons_self (by simpa using hk))
        simp only at hc'
        rw [hc'] at hy ⊢
        simpa using hy
      | false => rw [hb] at hy; exact ha y d hy
    · exact clo_lookup (fun y hy => hn y (List.mem_cons_of_mem _ hy)) ha h
theorem clo_some {cells : List (Str × Addr)} : ∀ {names : List (Str × NameKind)} {acc : List (Str × Addr)} {x : Str}, ((x, NameKind.free) ∈ names ∨ (acc.lookup x).isSome = true) → ((clo cells names acc).lookup x).isSome = true
  | [], acc, x, h => by
    rcases h with h | h
    · cases h
    · exact h
  | (y, kind) :: r, acc, x, h => by
    unfold clo
    split
    · rename_i hk
      refine clo_some ?_
      rw [List.lookup_cons]
      cases hb : x == y with
      | true => exact .inr rfl
      | false =>
        rcases h with h | h
        · rcases List.mem_cons.mp h with e | h
          · cases e; simp at hb
          · exact .inl h
        · exact .inr h
    · rename_i hk
      refine clo_some ?_
      rcases h with h | h
      · rcases List.mem_cons.mp h with e | h
        · cases e; exact absurd rfl hk
        · exact .inl h
      · exact .inr h
theorem lookup_mapk {f : Str → NameKind → NameKind} : ∀ {names : List (Str × NameKind)} {x : Str}, (names.map fun y => (y.1, f y.1 y.2)).lookup x = (names.lookup x).map (f x)
  | [], x => rfl
  | (n, k) :: r, x => by
    simp only [List.map_cons, List.lookup_cons]
    cases hb : x == n with
    | true => have := beq_iff_eq.mp hb; subst this; rfl
    | false => exact lookup_mapk
theorem kind_relabel {scope : Scope} {env env' : Env} {x : Str} (he : env'.scope = relabel scope env) (hx : env'.kindOf x = some .cell ∨ env'.kindOf x = some .free) (hc : scope.names.lookup x ≠ some .cell) : scope.names.lookup x = some .free := by
  have e : env'.kindOf x = (scope.names.lookup x).map (fun k => if (k == .free && env.scope.kind == .function && env.kindOf x == some .cell) then .cell else k) := by
    show env'.scope.names.lookup x = _
    rw [he]
    rw [← lookup_mapk (f := fun n k => if (k == .free && env.scope.kind == .function && env.kindOf n == some .cell) then .cell else k)]
    unfold relabel
    congr 1
    apply List.map_congr_left
    rintro ⟨n, k⟩ _
    simp only
    split <;> rfl
  rw [e] at hx
  cases hl : scope.names.lookup x with
  | none => rw [hl] at hx; rcases hx with h | h <;> cases h
  | some k =>
    rw [hl] at hx hc
    cases k with
    | free => rfl
    | cell => exact absurd rfl hc
    | _ => rcases hx with h | h <;> cases h

/-- the names of a comprehension before those around it -/
noncomputable def lkC (on : List Str) (look : Str → Option Nat) (x : Str) : Option Nat := match lk on x with | some k => some k | none => (look x).map (· + on.length)
theorem lk_lt {nm : List Str} {x : Str} {k : Nat} (h : lk nm x = some k) : k < nm.length := (List.getElem?_eq_some_iff.mp (lk_get h)).1

section
variable {K : KX} {r : Nat} {env : Env} {look : Str → Option Nat}
noncomputable abbrev Env.bare (env : Env) : Env := { env with cells := [] }
theorem Place.bare {b : Addr} (h : Place (Env.bare env) b) : b = env.locals := by
  rcases h with h | ⟨x, _, hc⟩
  · exact h
  · cases hc
theorem StepS.wide {ρ ρ' : Rho} {h h' : Heap} (S : StepS K (Env.bare env) ρ h ρ' h') : StepS K env ρ h ρ' h' :=
  ⟨S.pre, S.new, fun b o e a c d => S.keep b o e a c (fun z => d (.inl z.bare)), S.dom⟩
/-- a target of names of the innermost frame alone -/
noncomputable def SoundTL (K : KX) (r : Nat) (env : Env) (look : Str → Option Nat) (t : Expr) (p : XT) : Prop :=
  ∀ A, OkA r A → ∀ v vs Q hp ρ s E rv, p v vs Q hp → FRel K env look vs ρ s.heap → HRel K ρ hp s.heap → VR ρ s.heap v rv → wpAny (model K.prog K.w) A (assign t env rv) (fun _ s' =>
    ∃ vs' hp' ρ' h' t, s' = { s with heap := h', toks := t } ∧ Q vs' hp' ∧ FRel K env look vs' ρ' h' ∧ HRel K ρ' hp' h' ∧ StepS K (Env.bare env) ρ s.heap ρ' h') E s
theorem tl_name {x : Str} {k : Nat} {pos : Pos} (hk : env.kindOf x = some .local) (hl : look x = some k) : SoundTL K r env look (.Name x pos) (tName k) := by
  intro A ok v vs Q hp ρ s E rv q F H hv
  have slot : ∀ y j w, look y = some j → (vs.set k (some v))[j]? = some (some w) → (y = x ∧ w = v) ∨ (y ≠ x ∧ vs[j]? = some (some w)) := by
    intro y j w hy e
    rw [List.getElem?_set] at e
    by_cases hj : k = j
    · subst hj
      rw [if_pos rfl] at e
      split at e
      · cases e; exact .inl ⟨F.ij y x k hy hl, rfl⟩
      · cases e
    · rw [if_neg hj] at e
      exact .inr ⟨fun q => hj (by subst q; rw [hl] at hy; cases hy; rfl), e⟩
  obtain ⟨m, n, f⟩ := F.ns
  have hkc : (env.scope.kind == .class || (env.scope.kind == .module && env.locals != env.globals)) = false := by rw [F.kd]; rfl
  obtain ⟨ol, es, ep, el, dl, _⟩ := id n
  refine wpAny_assign_Name (wpAny_storeName_local hk n (fun h' n' hs => ?_) hkc)
  have S : StepS K (Env.bare env) ρ s.heap ρ h' := ⟨List.prefix_refl _, fun _ hp => .inl hp, fun b o e _ _ hb => (hs.2 b (fun q => hb (.inl q))).trans e, fun b o e => by
    by_cases hb : b = env.locals
    · subst hb; obtain ⟨o', _, _, e', _⟩ := n'; exact ⟨o', e'⟩
    · exact ⟨o, (hs.2 b hb).trans e⟩⟩
  have nonseq : ∀ o, s.heap.get? env.locals = some o → ∀ vs n, o.data ≠ .seq vs n := by
    intro o' e' vs n q
    rw [el] at e'; cases e'; rw [dl] at q; cases q
  refine ⟨_, hp, ρ, h', _, rfl, q, ⟨F.kd, F.gl, F.bi, F.lb, F.lo, ⟨_, n', ?_⟩, ?_, F.ci, F.ij⟩, H.other F.lb F.lo hs.extBut nonseq, S⟩
  · intro y j w hy hj e
    rcases slot y j w hj e with ⟨rfl, rfl⟩ | ⟨hne, e⟩
    · exact ⟨rv, by simp, hv.stepS S.wide F H⟩
    · obtain ⟨rw', e1, e2⟩ := f y j w hy hj e
      exact ⟨rw', by simp [hne, e1], e2.stepS S.wide F H⟩
  · intro y hy
    obtain ⟨c, o, ov, a1, a2, a3, a4, a5, a6⟩ := F.cl y hy
    have hne : c ≠ env.locals := by rintro rfl; rw [el] at a4; cases a4; rw [dl] at a5; cases a5
    refine ⟨c, o, ov, a1, a2, a3, (hs.2 c hne).trans a4, a5, fun j w hj e => ?_⟩
    rcases slot y j w hj e with ⟨rfl, rfl⟩ | ⟨_, e⟩
    · rcases hy with hy | hy <;> (rw [hk] at hy; cases hy)
    · obtain ⟨rw', e1, e2⟩ := a6 j w hj e
      exact ⟨rw', e1, e2.stepS S.wide F H⟩
noncomputable def SoundTsL (K : KX) (r : Nat) (env : Env) (look : Str → Option Nat) (ts : List Expr) (p : XTs) : Prop :=
  ((assignEach ts env).findIdx? (·.1) = none ∧ (assignEach ts env).length = ts.length) ∧ ∀ A, OkA r A → ∀ ls vs Q hp ρ s E rvs, p ls vs Q hp → FRel K env look vs ρ s.heap → HRel K ρ hp s.heap → VRs ρ s.heap ls rvs →
    wpAny (model K.prog K.w) A (assignInOrder ((assignEach ts env).map (·.2)) rvs) (fun _ s' =>
      ∃ vs' hp' ρ' h' t, s' = { s with heap := h', toks := t } ∧ Q vs' hp' ∧ FRel K env look vs' ρ' h' ∧ HRel K ρ' hp' h' ∧ StepS K (Env.bare env) ρ s.heap ρ' h') E s
theorem tls_nil : SoundTsL K r env look [] tsNil := by
  refine ⟨⟨rfl, rfl⟩, ?_⟩
  intro A ok ls vs Q hp ρ s E rvs q F H hv
  cases ls with
  | nil => exact wpAny_pure ⟨vs, hp, ρ, s.heap, s.toks, rfl, q, F, H, StepS.refl ..⟩
  | cons v l => exact q.elim
theorem tls_cons {t : Expr} {ts : List Expr} {a : XT} {b : XTs} (ha : SoundTL K r env look t a) (hb : SoundTsL K r env look ts b) (he : assignEach (t :: ts) env = (false, assign t env) :: assignEach ts env) : SoundTsL K r env look (t :: ts) (tsCons a b) := by
  refine ⟨⟨by rw [he, List.findIdx?_cons]; simp [hb.1.1], by rw [he]; simp [hb.1.2]⟩, ?_⟩
  intro A ok ls vs Q hp ρ s E rvs q F H hv
  cases ls with
  | nil => exact q.elim
  | cons v l =>
    cases hv with
    | cons d ds =>
      rename_i x xs
      rw [he]
      show wpAny _ A (do holding xs (assign t env x); assignInOrder ((assignEach ts env).map (·.2)) xs) _ E s
      refine wpAny_bind (wpAny_holding (wpAny_mono (ha A ok v vs _ hp ρ s E x q F H d) ?_ (fun _ _ x => x)))
      rintro _ s' ⟨vs', hp', ρ', h', t', rfl, q', F', H', S'⟩
      refine wpAny_mono (hb.2 A ok l vs' Q hp' ρ' { s with heap := h', toks := t' } E xs q' F' H' (ds.stepS S'.wide F H)) ?_ (fun _ _ x => x)
      rintro _ s'' ⟨vs'', hp'', ρ'', h'', t'', rfl, q'', F'', H'', S''⟩
      exact ⟨vs'', hp'', ρ'', h'', t'', rfl, q'', F'', H'', S'.trans S''⟩
theorem tl_tuple {ts : List Expr} {k : Nat} {pos : Pos} {b : XTs} (hb : SoundTsL K r env look ts b) : SoundTL K r env look (.Tuple ts k pos) (tTuple ts.length b) := by
  intro A ok v vs Q hp ρ s E rv q F H hv
  show wpAny _ A (do standAt pos; unpack rv (assignEach ts env)) _ E s
  refine wpAny_bind (wpAny_standAt ?_)
  obtain ⟨xs, ⟨g, hn, q⟩, qi⟩ := iterV_eq q
  unfold unpack
  rw [hb.1.1, hb.1.2, ← hn]
  refine wpAny_bind (wpAny_holding (wpAny_mono (unpack_items ok.hh qi hv H) ?_ (fun _ _ x => x)))
  rintro l s' ⟨h', t', rfl, d, H', S'⟩
  refine wpAny_mono (hb.2 A ok _ vs Q hp ρ { s with heap := h', toks := t' } E l q (F.step H S') H' d.vrs) ?_ (fun _ _ x => x)
  rintro _ s'' ⟨vs'', hp'', ρ'', h'', t'', rfl, q'', F'', H'', S''⟩
  exact ⟨vs'', hp'', ρ'', h'', t'', rfl, q'', F'', H'', S'.toS.trans S''⟩

/-- the tests of a comprehension -/
noncomputable def SoundI (K : KX) (r : Nat) (env : Env) (look : Str → Option Nat) (ifs : List Expr) (p : XB) : Prop :=
  ∀ A, OkA r A → ∀ vs Q hp ρ s E, p vs Q hp → FRel K env look vs ρ s.heap → HRel K ρ hp s.heap →
    wpAny (model K.prog K.w) A (forIn ifs true fun c r => if r = true then do let ok ← isTrue c env (eval c env); pure (ForInStep.yield ok) else pure (ForInStep.yield r)) (PostB K ρ s Q) E s
noncomputable def iNil : XB := fun _ Q => Q true
theorem i_nil : SoundI K r env look [] iNil := fun A ok vs Q hp ρ s E q F H => wpAny_tests_nil (PostB.pure0 q H)
theorem i_one {c : Expr} {p : XB} (h : SoundB K r env look c p) : SoundI K r env look [c] p := fun A ok vs Q hp ρ s E q F H => wpAny_tests_one (h A ok vs Q hp ρ s E q F H)

/-- the turns of a comprehension; its list is the object i -/
noncomputable def compL (g : G) (i : Nat) (tgt : XT) (ifs : XB) (elt : XE) (Q : List PyData → List O → Prop) : List PyData → List (Option V) → List O → Prop
  | [], vs, hp => gOk g hp ∧ atL (.r i) hp fun _ l => Q l hp
  | x :: xs, vs, hp => gOk g hp ∧ tgt (.d x) vs (fun vs' hp' => ifs vs' (fun b hp'' => match b with
    | true => elt vs' (fun v hp3 => (lget (.r i) hp3).isSome = true ∧ mAppend (.r i) [v] (fun _ hp4 => compL g i tgt ifs elt Q xs vs' hp4) hp3) hp''
    | false => compL g i tgt ifs elt Q xs vs' hp'') hp') hp
noncomputable def compEnd (m : Bool) (i : Nat) (Q : V → List O → Prop) (l : List PyData) (hp : List O) : Prop := match m with
  | false => Q (.d (.list l)) (hp.take i)
  | true => Q (.r i) (hp.take (i + 1))
noncomputable def xComp (m : Bool) (n : Nat) (tgt : XT) (it : XE) (ifs : XB) (elt : XE) : XE := fun vs Q => it vs fun v hp => iterV v hp fun g xs =>
  compL g hp.length tgt ifs elt (compEnd m hp.length Q) xs (List.replicate n none ++ vs) (hp ++ [.lst []])

theorem codeAny_compLoop_any {prog : Program} {w : World} {A : Around} {R : Result → Shared → Prop} {s : Shared} {elt target iter : Expr} {ifs : List Expr} {scope : Scope} {pos : Pos} {it acc : Value} {env : Env} (I : Nat → Shared → Prop)
    (turn : ∀ n s, I n s → wpAny (model prog w) A (pyNext it) (fun r s₁ => match r with
      | none => R (.ok .next) s₁
      | some v => wpAny (model prog w) A (letOwnedTupleGo target it v) (fun _ s₁' => wpAny (model prog w) A (assign target env v) (fun _ s₂ =>
          wpAny (model prog w) A (forIn ifs true fun c r => if r = true then do let ok ← isTrue c env (eval c env); pure (ForInStep.yield ok) else pure (ForInStep.yield r)) (fun ok s₃ =>
            if ok = true then wpAny (model prog w) A (eval elt env) (fun x s₄ =>
              wpAny (model prog w) A (call (.builtin "list.append") [acc, x]) (fun _ s₅ => ∃ m, m < n ∧ I m s₅) (notedBy (model prog w) A env fun e s' => R (.error e) s') s₄) (notedBy (model prog w) A env fun e s' => R (.error e) s') s₃
            else ∃ m, m < n ∧ I m s₃) (notedBy (model prog w) A env fun e s' => R (.error e) s') s₂) (notedBy (model prog w) A env fun e s' => R (.error e) s') s₁') (notedBy (model prog w) A env fun e s' => R (.error e) s') s₁) (notedBy (model prog w) A env fun e s' => R (.error e) s') s)
    (n : Nat) (h : I n s) :
    codeAny (model prog w) A (.compLoop (.ListComp elt [⟨target, iter, ifs, 0⟩] scope pos) 0 it acc env) R s := by
  refine codeAny_loop rfl I (fun n s hI => ?_) n h
  show wpAny _ A ((compTurn (.ListComp elt [⟨target, iter, ifs, 0⟩] scope pos) 0 it acc env).onRaise (fun x => do noteFrame x env; theTreesLotGoes x)) _ _ s
  refine wpAny_noted ?_
  rw [compTurn_list]
  refine wpAny_bind (wpAny_standAt (wpAny_bind (wpAny_mono (turn n s hI) (fun r s₁ h₁ => ?_) fun _ _ h' => h')))
  cases r with
  | none => exact wpAny_pure h₁
  | some v =>
    refine wpAny_bind (wpAny_mono h₁ (fun _ s₁' h₁' => ?_) fun _ _ h' => h')
    refine wpAny_bind (wpAny_mono h₁' (fun _ s₂ h₂ => wpAny_bind (wpAny_mono h₂ (fun ok s₃ h₃ => ?_) fun _ _ h' => h')) fun _ _ h' => h')
    cases ok with
    | false => exact wpAny_pure ⟨rfl, h₃⟩
    | true =>
      exact wpAny_bind (wpAny_bind (wpAny_mono h₃ (fun x s₄ h₄ => wpAny_bind (wpAny_mono h₄ (fun _ s₅ h₅ => wpAny_pure (wpAny_pure ⟨rfl, h₅⟩)) fun _ _ h' => h')) fun _ _ h' => h'))

/-- the frame of a comprehension -/
theorem FRel.comp {vs : List (Option V)} {ρ : Rho} {h : Heap} {scope : Scope} {C : Addr} {on : List Str} (F : FRel K env look vs ρ h) (hk : scope.kind = .function) (hnc : ∀ x ∈ scope.names, x.2 ≠ .cell)
    (hfree : ∀ x ∈ scope.names, x.2 = .free → (env.kindOf x.1 = some .cell ∨ env.kindOf x.1 = some .free) ∧ lk on x.1 = none)
    (hown : ∀ x ∈ scope.names, x.2 = .local → lk on x.1 = none → look x.1 = none) (hC : K.New C) (ho : Off ρ C) (hn : h.Ns C fun _ => none) :
    FRel K (compEnvC scope (clo env.cells scope.names []) C env) (lkC on look) (List.replicate on.length none ++ vs) ρ h := by
  have hsome : ∀ x ∈ scope.names, x.2 = .free → (env.cells.lookup x.1).isSome = true := by
    intro x hx hf
    obtain ⟨c, _, _, a1, _⟩ := F.cl x.1 (hfree x hx hf).1
    simp [a1]
  have sl : ∀ (k : Nat) (v : V), (List.replicate on.length none ++ vs)[k]? = some (some v) → on.length ≤ k ∧ vs[k - on.length]? = some (some v) := by
    intro k v e
    by_cases hk : k < on.length
    · rw [List.getElem?_append_left (by simpa using hk), List.getElem?_replicate] at e
      split at e <;> cases e
    · rw [List.getElem?_append_right (by simpa using hk)] at e
      exact ⟨by omega, by simpa using e⟩
  have lkc : ∀ x k, lkC on look x = some k → on.length ≤ k → lk on x = none ∧ look x = some (k - on.length) := by
    intro x k e hle
    unfold lkC at e
    split at e
    · rename_i j hj
      cases e
      have := lk_lt hj
      omega
    · rename_i hj
      refine ⟨hj, ?_⟩
      cases hl : look x with
      | none => rw [hl] at e; cases e
      | some j => rw [hl] at e; simp at e; subst e; simp
  have hkind : ∀ x, (compEnvC scope (clo env.cells scope.names []) C env).kindOf x = some NameKind.local → lk on x = none → look x = none := by
    intro x hx hl
    have e : (compEnvC scope (clo env.cells scope.names []) C env).kindOf x = (scope.names.lookup x).map (fun k => if (k == .free && env.scope.kind == .function && env.kindOf x == some .cell) then .cell else k) := by
      show (relabel scope env).names.lookup x = _
      rw [← lookup_mapk (f := fun n k => if (k == .free && env.scope.kind == .function && env.kindOf n == some .cell) then .cell else k)]
      unfold relabel
      congr 1
      apply List.map_congr_left
      rintro ⟨n, k⟩ _
      simp only
      split <;> rfl
    rw [e] at hx
    cases hq : scope.names.lookup x with
    | none => rw [hq] at hx; cases hx
    | some k =>
      rw [hq] at hx
      simp only [Option.map_some, Option.some.injEq] at hx
      split at hx
      · cases hx
      · subst hx; exact hown _ (mem_of_lookup hq) rfl hl
  refine ⟨?_, F.gl, F.bi, hC, ho, ?_, ?_, ?_, ?_⟩
  · show (relabel scope env).kind = _; exact hk
  · refine ⟨_, hn, fun x k v hx hl e => ?_⟩
    obtain ⟨h1, h2⟩ := sl k v e
    obtain ⟨h3, h4⟩ := lkc x k hl h1
    rw [hkind x hx h3] at h4; cases h4
  · intro x hx
    have hf := kind_relabel (env' := compEnvC scope (clo env.cells scope.names []) C env) rfl hx (fun e => hnc _ (mem_of_lookup e) rfl)
    have hm := mem_of_lookup hf
    obtain ⟨hk', hlk⟩ := hfree _ hm rfl
    obtain ⟨c, hc⟩ := Option.isSome_iff_exists.mp (clo_some (cells := env.cells) (acc := []) (.inl hm))
    have hc' := clo_lookup (acc := []) hsome (fun _ _ h => nomatch h) hc
    obtain ⟨c', o, ov, a1, a2, a3, a4, a5, a6⟩ := F.cl x hk'
    rw [hc'] at a1; cases a1
    refine ⟨c, o, ov, hc, a2, a3, a4, a5, fun k v hl e => ?_⟩
    obtain ⟨h1, h2⟩ := sl k v e
    obtain ⟨h3, h4⟩ := lkc x k hl h1
    exact a6 _ v h4 h2
  · intro x y c h1 h2
    exact F.ci x y c (clo_lookup (acc := []) hsome (fun _ _ h => nomatch h) h1) (clo_lookup (acc := []) hsome (fun _ _ h => nomatch h) h2)
  · intro x y k h1 h2
    by_cases hle : on.length ≤ k
    · exact F.ij x y _ (lkc x k h1 hle).2 (lkc y k h2 hle).2
    · have own : ∀ z, lkC on look z = some k → lk on z = some k := by
        intro z e
        unfold lkC at e
        split at e
        · rename_i j hj; cases e; exact hj
        · cases hl : look z with
          | none => rw [hl] at e; cases e
          | some j => rw [hl] at e; simp at e; omega
      have e1 := lk_get (own x h1)
      have e2 := lk_get (own y h2)
      rw [e1] at e2; cases e2; rfl

/-- the block of a comprehension -/
theorem comp_core {A : Around} (ok : OkA r A) {elt target iter : Expr} {ifs : List Expr} {scope : Scope} {pos : Pos} {on : List Str} {tgt : XT} {pi : XB} {pe : XE} {vs : List (Option V)} {hp : List O} {ρ : Rho} {s : Shared} {h₁ : Heap} {I : Addr} {g : G} {xs : List PyData} {E : Value → Shared → Prop}
    {Q : List PyData → List O → Prop} {RR : Value → Addr → Result → Shared → Prop}
    (hk : scope.kind = .function) (hnc : ∀ x ∈ scope.names, x.2 ≠ .cell) (hfree : ∀ x ∈ scope.names, x.2 = .free → (env.kindOf x.1 = some .cell ∨ env.kindOf x.1 = some .free) ∧ lk on x.1 = none)
    (hown : ∀ x ∈ scope.names, x.2 = .local → lk on x.1 = none → look x.1 = none)
    (ht : ∀ cl C, SoundTL K r (compEnvC scope cl C env) (lkC on look) target tgt) (hi : ∀ cl C, SoundI K r (compEnvC scope cl C env) (lkC on look) ifs pi) (he : ∀ cl C, SoundE K r (compEnvC scope cl C env) (lkC on look) elt pe)
    (q : compL g hp.length tgt pi pe Q xs (List.replicate on.length none ++ vs) (hp ++ [.lst []])) (F : FRel K env look vs ρ h₁) (H : HRel K ρ hp h₁)
    (hk₁ : ∀ b o, h₁.get? b = some o → s.heap.get? b = some o) (hI : h₁.get? I = none) (Ia : IterAt ρ s.heap I g xs)
    (hRR : ∀ D C hp' ρ' h' t l m, Q l hp' → hp'[hp.length]? = some (.lst l) → HRel K ρ' hp' h' → ρ'[hp.length]? = some ⟨D, D, []⟩ → Step K ρ h₁ ρ' h' → h'.Ns C m → h₁.get? C = none → K.New C → Off ρ' C →
      RR (.ref D) C (.ok .next) { s with heap := h', toks := t }) :
    wpAny (model K.prog K.w) A (newList []) (fun acc s₃ => wpAny (model K.prog K.w) A (newFunctionEnv scope env.globals (clo env.cells scope.names []) [] env.qual none .none (some env)) (fun cenv s₄ =>
      codeAny (model K.prog K.w) A (.compStart (.ListComp elt [⟨target, iter, ifs, 0⟩] scope pos) 0 (.ref I) acc { cenv with scope := relabel scope env }) (RR acc cenv.locals) s₄) E s₃) E s := by
  have Hs : HRel K ρ hp s.heap := H.grow hk₁
  have S₀ : Step K ρ h₁ ρ s.heap := Step.grow hk₁
  have hnI := H.fresh hI
  refine wpAny_newList ?_ (Nat.zero_le _)
  refine wpAny_newFunctionEnv hnc (fun x hx => nomatch hx) (fun h₂ hns hsb => ?_) hk
  dsimp only at hns hsb ⊢
  -- the list's place and the frame's
  have hD : s.heap.get? s.heap.objs.size = none := get?_beyond (Nat.le_refl _)
  generalize hC' : (s.heap.push { cls := .type "list", data := .seq ([] : List Value).toArray }).objs.size = C at hns hsb ⊢
  have hCs : C = s.heap.objs.size + 1 := by rw [← hC', Heap.size_push]
  have hCn : s.heap.get? C = none := get?_beyond (by rw [hCs]; exact Nat.le_succ _)
  have hDC : s.heap.objs.size ≠ C := by rw [hCs]; exact Nat.ne_of_lt (Nat.lt_succ_self _)
  have keep₂ : ∀ b o, (s.heap.push { cls := .type "list", data := .seq ([] : List Value).toArray }).get? b = some o → h₂.get? b = some o := by
    intro b o e
    have hb : b ≠ C := by rw [← hC']; exact Nat.ne_of_lt (Heap.lt_size e)
    exact (hsb.2 b hb).trans (Heap.get?_push_of_some _ e)
  have keepD : ∀ b o, s.heap.get? b = some o → h₂.get? b = some o := fun b o e => keep₂ b o (Heap.get?_push_of_some _ e)
  have hLD : IsL h₂ s.heap.objs.size #[] 0 := keep₂ _ _ (Heap.get?_push_size _ rfl)
  obtain ⟨H₂, S₂⟩ := Hs.add keepD (p := ⟨s.heap.objs.size, s.heap.objs.size, []⟩) (o := .lst []) hD ⟨_, hLD⟩ (fun _ h => nomatch h) ⟨rfl, #[], 0, hLD, .nil⟩
  have hCoff : Off (ρ ++ [⟨s.heap.objs.size, s.heap.objs.size, []⟩]) C := by
    intro p hp
    rcases List.mem_append.mp hp with hp | hp
    · exact Hs.off hCn p hp
    · simp at hp; subst hp; exact ⟨fun e => hDC e.symm, fun h => nomatch h⟩
  have hCnew : K.New C := Hs.fresh hCn
  have F₂ : FRel K env look vs (ρ ++ [⟨s.heap.objs.size, s.heap.objs.size, []⟩]) h₂ := (F.step H S₀).step Hs S₂
  have Fc := F₂.comp (on := on) (C := C) hk hnc hfree hown hCnew hCoff hns
  have hC₁ : h₁.get? C = none := none_of_dom (fun b o e => ⟨o, hk₁ b o e⟩) hCn
  have Ia₂ : IterAt (ρ ++ [⟨s.heap.objs.size, s.heap.objs.size, []⟩]) h₂ I g xs := by
    refine Ia.keeps (fun o e => keepD _ _ e) (fun a o vs n e hd hm => ⟨keepD _ _ e, S₂.notMu e hm⟩) S₂.pre
  have hIoff : Off (ρ ++ [⟨s.heap.objs.size, s.heap.objs.size, []⟩]) I := by
    obtain ⟨o, _, e, _⟩ := Ia.dom
    exact (H.off hI).step S₂ e
  have hIC : I ≠ C := by
    obtain ⟨o, _, e, _⟩ := Ia.dom
    exact ne_of_get? hCn e
  have hρ : ρ.length = hp.length := H.len
  have loop : ∀ t, codeAny (model K.prog K.w) A (.compLoop (.ListComp elt [⟨target, iter, ifs, 0⟩] scope pos) 0 (.ref I) (.ref s.heap.objs.size) (compEnvC scope (clo env.cells scope.names []) C env)) (RR (.ref s.heap.objs.size) C) { s with heap := h₂, toks := t } := by
    intro t
    refine codeAny_compLoop_any (fun n s' => ∃ xs vs' hp' ρ' h' t', n = xs.length ∧ s' = { s with heap := h', toks := t' } ∧ compL g hp.length tgt pi pe Q xs vs' hp' ∧ FRel K (compEnvC scope (clo env.cells scope.names []) C env) (lkC on look) vs' ρ' h' ∧ HRel K ρ' hp' h' ∧
      IterAt ρ' h' I g xs ∧ Off ρ' I ∧ StepS K (Env.bare (compEnvC scope (clo env.cells scope.names []) C env)) ρ h₁ ρ' h' ∧ (ρ ++ [⟨s.heap.objs.size, s.heap.objs.size, []⟩]) <+: ρ') ?_ xs.length
      ⟨xs, _, _, _, h₂, t, rfl, rfl, q, Fc, H₂, Ia₂, hIoff, (S₀.trans S₂).toS, List.prefix_refl _⟩
    rintro n s' ⟨xs, vs', hp', ρ', h', t', rfl, rfl, q', F', H', Ia', ho, S', P'⟩
    have hD' : ρ'[hp.length]? = some ⟨s.heap.objs.size, s.heap.objs.size, []⟩ := pre_get P' (by rw [← hρ]; simp)
    have fullStep : ∀ {ρ'' : Rho} {h'' : Heap}, StepS K (Env.bare (compEnvC scope (clo env.cells scope.names []) C env)) ρ h₁ ρ'' h'' → Step K ρ h₁ ρ'' h'' := by
      intro ρ'' h'' S
      refine ⟨S.pre, S.new, ?_, S.dom⟩
      intro b o e hb hm
      refine S.keep b o e hb hm (fun z => ?_)
      have z' : b = C := z.bare
      subst z'; rw [hC₁] at e; cases e
    cases xs with
    | nil =>
      obtain ⟨hg', q'⟩ := q'
      refine wpAny_mono (iter_end (s := { s with heap := h', toks := t' }) ok.hh Ia' H' hg' hnI ho) ?_ (fun _ _ x => x)
      rintro _ s'' ⟨h'', rfl, rfl, H'', hs''⟩
      have F'' := F'.skip Ia' hs''
      obtain ⟨m, hm, _⟩ := F''.ns
      unfold atL at q'
      simp only at q'
      split at q'
      · rename_i l e
        exact hRR _ C hp' ρ' h'' t' l m q' e H'' hD' ((fullStep S').skip hI hs'') hm hC₁ hCnew F''.lo
      · exact q'.elim
    | cons x xs =>
      obtain ⟨hg', q'⟩ := q'
      refine wpAny_mono (iter_next (s := { s with heap := h', toks := t' }) Ia' H' hg' hnI ho) ?_ (fun _ _ x => x)
      rintro _ s'' ⟨rx, h'', t'', rfl, rfl, dx, Ia'', H'', hs''⟩
      refine iter_owned (s := { s with heap := h'', toks := t'' }) Ia'' ?_
      have F'' := F'.skip Ia' hs''.extBut
      have S'' := S'.skip hI hs''.extBut
      refine wpAny_mono (ht _ _ A ok (.d x) vs' _ hp' ρ' { s with heap := h'', toks := t'' } _ rx q' F'' H'' dx) ?_ (fun _ _ x => x)
      rintro _ s₃ ⟨vs₃, hp₃, ρ₃, h₃, t₃, rfl, q₃, F₃, H₃, S₃⟩
      obtain ⟨oI, _, eI, _⟩ := id Ia''.dom
      have Ia₃ := Ia''.stepS S₃.wide F'' H'' ho.mu (H''.newTb hnI)
      have ho₃ := ho.stepS S₃ eI
      obtain ⟨oI₃, _, eI₃, _⟩ := id Ia₃.dom
      have S₃' := S''.trans S₃
      refine wpAny_mono (hi _ _ A ok vs₃ _ hp₃ ρ₃ { s with heap := h₃, toks := t₃ } _ q₃ F₃ H₃) ?_ (fun _ _ x => x)
      rintro b s₄ ⟨hp₄, ρ₄, h₄, t₄, rfl, q₄, H₄, S₄⟩
      have F₄ := F₃.step H₃ S₄
      have Ia₄ := Ia₃.stepS S₄.toS F₃ H₃ ho₃.mu (H₃.newTb hnI)
      have ho₄ := ho₃.step S₄ eI₃
      obtain ⟨oI₄, _, eI₄, _⟩ := id Ia₄.dom
      cases b with
      | false => exact ⟨xs.length, by simp, xs, vs₃, hp₄, ρ₄, h₄, t₄, rfl, rfl, q₄, F₄, H₄, Ia₄, ho₄, S₃'.trans S₄.toS, (P'.trans S₃.pre).trans S₄.pre⟩
      | true =>
        refine wpAny_mono (he _ _ A ok vs₃ _ hp₄ ρ₄ { s with heap := h₄, toks := t₄ } _ q₄ F₄ H₄) ?_ (fun _ _ x => x)
        rintro rv s₅ ⟨v, hp₅, ρ₅, h₅, t₅, rfl, q₅, H₅, S₅, r₅⟩
        have F₅ := F₄.step H₄ S₅
        have Ia₅ := Ia₄.stepS S₅.toS F₄ H₄ ho₄.mu (H₄.newTb hnI)
        have ho₅ := ho₄.step S₅ eI₄
        obtain ⟨oI₅, _, eI₅, _⟩ := id Ia₅.dom
        obtain ⟨l₅, hl₅⟩ := Option.isSome_iff_exists.mp q₅.1
        have S₅' := (S₃'.trans S₄.toS).trans S₅.toS
        have P₅ := ((P'.trans S₃.pre).trans S₄.pre).trans S₅.pre
        have hD₅ : ρ₅[hp.length]? = some ⟨s.heap.objs.size, s.heap.objs.size, []⟩ := pre_get P₅ (by rw [← hρ]; simp)
        refine wpAny_mono (m_append (r := r) A ok ρ₅ hp₅ { s with heap := h₅, toks := t₅ } (.r hp.length) l₅ (.ref s.heap.objs.size) [v] [rv] _ _ q₅.2 H₅ ⟨_, hD₅, rfl⟩ hl₅ (.cons r₅ .nil)) ?_ (fun _ _ x => x)
        rintro _ s₆ ⟨v₆, hp₆, ρ₆, h₆, t₆, rfl, q₆, H₆, S₆, _⟩
        exact ⟨xs.length, by simp, xs, vs₃, hp₆, ρ₆, h₆, t₆, rfl, rfl, q₆, F₅.step H₅ S₆, H₆, Ia₅.stepS S₆.toS F₅ H₅ ho₅.mu (H₅.newTb hnI), ho₅.step S₆ eI₅, S₅'.trans S₆.toS, P₅.trans S₆.pre⟩
  exact codeAny_compStart_list (loop _) (iter_self (s := { s with heap := h₂, toks := _ }) Ia₂ (loop _))
end
end Mine

set_option autoImplicit false
set_option linter.unusedVariables false
set_option linter.unusedSimpArgs false
namespace Mine
open PySem PySem.Spec PySem.Calls PyProof.Rows
section
variable {K : KX} {r : Nat} {env : Env} {look : Str → Option Nat}

theorem comp_done' {m : Bool} {Q : V → List O → Prop} {l : List PyData} {hp hp' : List O} {ρ ρ' : Rho} {s : Shared} {h' : Heap} {D : Addr} (q : compEnd m hp.length Q l hp') (e : hp'[hp.length]? = some (.lst l)) (H' : HRel K ρ' hp' h')
    (hD : ρ'[hp.length]? = some ⟨D, D, []⟩) (S : Step K ρ s.heap ρ' h') (H : HRel K ρ hp s.heap) : ∃ v hp₂ ρ₂, Q v hp₂ ∧ HRel K ρ₂ hp₂ h' ∧ Step K ρ s.heap ρ₂ h' ∧ VR ρ₂ h' v (.ref D) ∧ ρ₂ <+: ρ' := by
  have hl := (List.getElem?_eq_some_iff.mp e).1
  have hlen := H'.len
  have hρ := H.len
  cases m with
  | false =>
    have C := H'.cut S.pre (by omega)
    rw [H.len] at C
    obtain ⟨e1, vs, n, h1, h2⟩ := H'.ob _ _ _ e hD
    refine ⟨.d (.list l), _, ρ, q, C, S.cut, ?_, S.pre⟩
    refine DR.list h1 ?_ (DRs.cut S.pre h2)
    intro hm
    obtain ⟨u, hu⟩ := S.pre
    have nd := H'.nd
    rw [← hu] at nd hD
    simp only [mu, List.map_append] at nd hm
    refine (List.nodup_append.mp nd).2.2 D hm D ?_ rfl
    rw [List.getElem?_append_right (by omega)] at hD
    exact List.mem_map.mpr ⟨_, List.mem_of_getElem? hD, rfl⟩
  | true =>
    have pr : ρ'.take (hp.length + 1) <+: ρ' := List.take_prefix ..
    have ll : (ρ'.take (hp.length + 1)).length = hp.length + 1 := by rw [List.length_take]; omega
    have C := H'.cut pr (by rw [ll]; omega)
    rw [ll] at C
    refine ⟨.r hp.length, _, _, q, C, ⟨?_, fun p hp => S.new p (pr.subset hp), S.keep, S.dom⟩, ⟨⟨D, D, []⟩, ?_, rfl⟩, pr⟩
    · refine List.prefix_take_iff.mpr ⟨S.pre, ?_⟩
      rw [H.len]; omega
    · rw [List.getElem?_take, if_pos (Nat.lt_succ_self _)]; exact hD
theorem comp_done {m : Bool} {Q : V → List O → Prop} {l : List PyData} {hp hp' : List O} {ρ ρ' : Rho} {s : Shared} {h' : Heap} {D : Addr} (t : Nat) (q : compEnd m hp.length Q l hp') (e : hp'[hp.length]? = some (.lst l)) (H' : HRel K ρ' hp' h')
    (hD : ρ'[hp.length]? = some ⟨D, D, []⟩) (S : Step K ρ s.heap ρ' h') (H : HRel K ρ hp s.heap) : PostE K ρ s Q (.ref D) { s with heap := h', toks := t } := by
  obtain ⟨v, hp₂, ρ₂, q₂, H₂, S₂, r₂, _⟩ := comp_done' q e H' hD S H
  exact ⟨v, hp₂, ρ₂, h', t, rfl, q₂, H₂, S₂, r₂⟩

theorem Step.skipC {ρ ρ' : Rho} {h h₁ h₂ : Heap} {C : Addr} (S : Step K ρ h ρ' h₁) (hi : h.get? C = none) (hs : Heap.SameBut C h₁ h₂) : Step K ρ h ρ' h₂ := S.skip hi hs.extBut
theorem ns_nonseq {h : Heap} {C : Addr} {m : Str → Option Value} (n : h.Ns C m) : ∀ o, h.get? C = some o → ∀ vs k, o.data ≠ .seq vs k := by
  obtain ⟨o', es, ep, e', d, _⟩ := n
  intro o e vs k q
  rw [e] at e'; cases e'; rw [d] at q; cases q

theorem e_comp {elt target iter : Expr} {ifs : List Expr} {scope : Scope} {pos : Pos} (on : List Str) {m : Bool} {tgt : XT} {it : XE} {pi : XB} {pe : XE}
    (hit : SoundE K r env look iter it)
    (ht : ∀ cl C, SoundTL K r (compEnvC scope cl C env) (lkC on look) target tgt) (hi : ∀ cl C, SoundI K r (compEnvC scope cl C env) (lkC on look) ifs pi) (he : ∀ cl C, SoundE K r (compEnvC scope cl C env) (lkC on look) elt pe)
    (hk : scope.kind = .function) (hnc : ∀ x ∈ scope.names, x.2 ≠ .cell) (hfree : ∀ x ∈ scope.names, x.2 = .free → (env.kindOf x.1 = some .cell ∨ env.kindOf x.1 = some .free) ∧ lk on x.1 = none)
    (hown : ∀ x ∈ scope.names, x.2 = .local → lk on x.1 = none → look x.1 = none) (hnames : ∀ x ∈ scope.names, x.2 = .local → scope.names.lookup x.1 = some .local)
    (hs : ∀ x, foldedSetIterable iter env x = pure x) :
    SoundE K r env look (.ListComp elt [⟨target, iter, ifs, 0⟩] scope pos) (xComp m on.length tgt it pi pe) := by
  intro A ok vs Q hp ρ s E q F H
  rw [eval_ListComp]
  have hsome : ∀ x ∈ scope.names, x.2 = .free → (env.cells.lookup x.1).isSome = true := by
    intro x hx hf
    obtain ⟨c, _, _, a1, _⟩ := F.cl x.1 (hfree x hx hf).1
    simp [a1]
  refine wpAny_comprehension_free (use := none) rfl hs (closureFor_clo hsome) hk hnames (hit.then ok q F H ?_)
  intro v hp₁ ρ₁ h₁ t₁ rv q₁ H₁ S₁ r₁ F₁
  refine wpAny_mono (iter_start (s := { s with heap := h₁, toks := t₁ }) q₁ r₁ H₁) ?_ (fun _ _ x => x)
  rintro _ s' ⟨I, g, xs, h₂, rfl, rfl, q₂, hg, Ia, hI, hk₂⟩
  refine comp_core (s := { s with heap := h₂, toks := t₁ }) (RR := fun acc C => compPost (model K.prog K.w) A E none (PostE K ρ s Q) acc C) ok hk hnc hfree hown ht hi he q₂ F₁ H₁ hk₂ hI Ia ?_
  intro D C hp' ρ' h' t l mm ql el H' hD S' hn hC hCn hCo
  refine ⟨mm, hn, fun h'' hs'' => ?_⟩
  have H'' : HRel K ρ' hp' h'' := H'.other hCn hCo hs''.extBut (ns_nonseq hn)
  exact PostE.after S₁ (comp_done (s := { s with heap := h₁, toks := t₁ }) t ql el H'' hD (S'.skipC hC hs'') H₁)

theorem VR.but {ρ : Rho} {h h' : Heap} {C : Addr} {m : Str → Option Value} (n : h.Ns C m) (hs : Heap.ExtBut C h h') {w : V} {rw' : Value} (hw : VR ρ h w rw') : VR ρ h' w rw' := by
  obtain ⟨o, es, ep, e, hd, _⟩ := n
  cases w with
  | d x => exact DR.mono (fun a o' vs n e' q hm => ⟨hs a o' (by rintro rfl; rw [e] at e'; cases e'; rw [hd] at q; cases q) e', hm⟩) hw
  | r i => exact hw
  | rng a b c =>
    obtain ⟨qq, t, u, w, rfl, e1, hm⟩ := hw
    refine ⟨qq, t, u, w, rfl, hs _ _ ?_ e1, hm⟩
    rintro rfl
    rw [e] at e1; cases e1
    cases hd
  | g v => exact hw
theorem FRel.but {vs : List (Option V)} {ρ : Rho} {h h' : Heap} {C : Addr} {m : Str → Option Value} (F : FRel K env look vs ρ h) (n : h.Ns C m) (hs : Heap.ExtBut C h h') (hne : env.locals ≠ C) : FRel K env look vs ρ h' := by
  obtain ⟨o, es, ep, e, hd, _⟩ := id n
  obtain ⟨m', ⟨o', es', ep', e', dd, rr⟩, f⟩ := F.ns
  refine ⟨F.kd, F.gl, F.bi, F.lb, F.lo, ⟨m', ⟨o', es', ep', hs _ _ hne e', dd, rr⟩, fun x k v a b c => let ⟨rv, p, q⟩ := f x k v a b c; ⟨rv, p, q.but n hs⟩⟩, ?_, F.ci, F.ij⟩
  intro x hx
  obtain ⟨c, o', ov, a1, a2, a3, a4, a5, a6⟩ := F.cl x hx
  refine ⟨c, o', ov, a1, a2, a3, hs _ _ ?_ a4, a5, fun k v b1 b2 => let ⟨rv, p, q⟩ := a6 k v b1 b2; ⟨rv, p, q.but n hs⟩⟩
  rintro rfl
  rw [e] at a4; cases a4; rw [hd] at a5; cases a5

/-- x = [ ... ] by the exchange of stores -/
theorem s_comp {x : Str} {k : Nat} {pos' spos : Pos} {elt target iter : Expr} {ifs : List Expr} {scope : Scope} {pos : Pos} (on : List Str) {m : Bool} {tgt : XT} {it : XE} {pi : XB} {pe : XE}
    (hit : SoundE K r env look iter it)
    (ht : ∀ cl C, SoundTL K r (compEnvC scope cl C env) (lkC on look) target tgt) (hi : ∀ cl C, SoundI K r (compEnvC scope cl C env) (lkC on look) ifs pi) (he : ∀ cl C, SoundE K r (compEnvC scope cl C env) (lkC on look) elt pe)
    (hk : scope.kind = .function) (hnc : ∀ x ∈ scope.names, x.2 ≠ .cell) (hfree : ∀ x ∈ scope.names, x.2 = .free → (env.kindOf x.1 = some .cell ∨ env.kindOf x.1 = some .free) ∧ lk on x.1 = none)
    (hown : ∀ x ∈ scope.names, x.2 = .local → lk on x.1 = none → look x.1 = none) (hnames : ∀ x ∈ scope.names, x.2 = .local → scope.names.lookup x.1 = some .local)
    (hs : ∀ x, foldedSetIterable iter env x = pure x)
    (hkx : env.kindOf x = some .local) (hl : look x = some k) (hsw : swapsWith (.ListComp elt [⟨target, iter, ifs, 0⟩] scope pos) (some (.Name x pos')) spos.line env = pure true) :
    SoundS K r env look (.Assign [.Name x pos'] (.ListComp elt [⟨target, iter, ifs, 0⟩] scope pos) spos) (sAssign k (xComp m on.length tgt it pi pe)) := by
  intro A ok vs Q hp ρ s E q F H
  rw [exec_Assign_Name_used _ _ _ _ hsw]
  refine wpAny_bind (wpAny_standAt (wpAny_bind ?_))
  show wpAny _ A (do let _ ← comprehension (.ListComp elt [⟨target, iter, ifs, 0⟩] scope pos) scope env _ (newList []) false (eval iter env) (some (assign (.Name x pos') env))) _ _ s
  have hsome : ∀ x ∈ scope.names, x.2 = .free → (env.cells.lookup x.1).isSome = true := by
    intro x hx hf
    obtain ⟨c, _, _, a1, _⟩ := F.cl x.1 (hfree x hx hf).1
    simp [a1]
  refine wpAny_bind (wpAny_mono (wpAny_comprehension_free (use := some (assign (.Name x pos') env)) (Q := fun _ s' => PostS K env look ρ s Q .next s') rfl hs (closureFor_clo hsome) hk hnames (hit.then ok q F H ?_)) (fun _ s' hq => wpAny_pure (wpAny_pure hq)) fun _ _ e => e)
  intro v hp₁ ρ₁ h₁ t₁ rv q₁ H₁ S₁ r₁ F₁
  refine wpAny_mono (iter_start (s := { s with heap := h₁, toks := t₁ }) q₁ r₁ H₁) ?_ (fun _ _ x => x)
  rintro _ s' ⟨I, g, xs, h₂, rfl, rfl, q₂, hg, Ia, hI, hk₂⟩
  refine comp_core (s := { s with heap := h₂, toks := t₁ }) (RR := fun acc C => compPost (model K.prog K.w) A E (some (assign (.Name x pos') env)) (fun _ s' => PostS K env look ρ s Q .next s') acc C) ok hk hnc hfree hown ht hi he q₂ F₁ H₁ hk₂ hI Ia ?_
  intro D C hp' ρ' h' t l mm ql el H' hD S' hn hC hCn hCo
  show wpAny _ A (assign (.Name x pos') env (.ref D)) _ _ _
  obtain ⟨v₂, hp₂, ρ₂, q₃, H₃, S₃, r₃, pr⟩ := comp_done' (s := { s with heap := h₁, toks := t₁ }) ql el H' hD S' H₁
  have F₃ := F₁.step H₁ S₃
  have hLC : env.locals ≠ C := by
    obtain ⟨m', ⟨o, _, _, e, _⟩, _⟩ := F₁.ns
    exact ne_of_get? hC e
  have hCo₂ : Off ρ₂ C := fun p hp => hCo p (pr.subset hp)
  refine wpAny_assign_Name (wpAny_mono (store_name (s := { s with heap := h', toks := t }) (.inl hkx) hl F₃ H₃ r₃) ?_ (fun _ _ x => x))
  rintro _ s₄ ⟨h₄, t₄, rfl, F₄, H₄, S₄⟩
  obtain ⟨oC, esC, epC, eC, dC, rC⟩ := id hn
  have nP : ¬ Place env C := by
    rintro (z | ⟨y, hy, hc⟩)
    · exact hLC z.symm
    · obtain ⟨c, o, ov, a1, _, _, a4, _⟩ := F₁.cl y (.inl hy)
      rw [hc] at a1; cases a1
      rw [hC] at a4; cases a4
  have hn₄ : h₄.Ns C mm := ⟨oC, esC, epC, S₄.keep C oC eC (H'.newTb hCn) hCo₂.mu nP, dC, rC⟩
  refine ⟨mm, hn₄, fun h₅ hs₅ => ?_⟩
  refine ⟨.next, _, hp₂, ρ₂, h₅, t₄, rfl, q₃, F₄.but hn₄ hs₅.extBut hLC, H₄.other hCn hCo₂ hs₅.extBut (ns_nonseq hn₄), ?_, trivial⟩
  exact (S₁.toS.trans (S₃.toS.trans S₄)).skip (none_of_dom S₁.dom hC) hs₅.extBut
end
end Mine

set_option autoImplicit false
set_option linter.unusedVariables false
set_option linter.unusedSimpArgs false
namespace Mine
open PySem PySem.Spec PySem.Calls PyProof.Rows

/-- a part of the fixed heap -/
structure KF (K : KX) (Kf : W.Frag) : Prop where
  inn : Kf.In K.h0
  ntb : ∀ a o, Kf.lookup a = some o → a ≠ K.tb
theorem KF.now {K : KX} {Kf : W.Frag} {ρ : Rho} {hp : List O} {h : Heap} (X : KF K Kf) (H : HRel K ρ hp h) : Kf.In h := fun a o e => H.keep a o (X.inn a o e) (X.ntb a o e)

theorem lookIn_ns {h : Heap} {a : Addr} {m : Str → Option Value} (n : h.Ns1 a m) {o : Obj} (e : h.get? a = some o) (name : Str) : W.lookIn name o = some (m name) := by
  obtain ⟨o', es, ep, e', hd, hk, hu, hm⟩ := n
  rw [e] at e'; cases e'
  unfold W.lookIn
  rw [hd, ← hm name]
  simp only [nsFind, findBy]
  rw [← Array.find?_toList]
  cases hf : es.toList.find? (fun e => e.key.isStr name) with
  | some en => rfl
  | none =>
    have hany : es.toList.any (·.refKey) = false := by
      rw [List.any_eq_false]
      intro x hx
      obtain ⟨n, t, hh⟩ := hk x (by simpa using hx)
      simp [DictEntry.refKey, hh]
    simp [hany]

section
variable {K : KX} {r : Nat} {env : Env} {look : Str → Option Nat} {ρ : Rho} {hp : List O} {Kf : W.Frag}
/-- the values of named arguments -/
noncomputable def SoundK (K : KX) (r : Nat) (env : Env) (look : Str → Option Nat) (kws : List Keyword) (p : XL) : Prop :=
  ∀ A, OkA r A → ∀ pos vs Q hp ρ s E, p vs Q hp → FRel K env look vs ρ s.heap → HRel K ρ hp s.heap →
    wpAny (model K.prog K.w) A (evalAll ((backToKw pos (keywordEach kws env)).map (·.2))) (fun rvs s' => rvs.length = kws.length ∧ PostL K ρ s Q rvs s') E s
theorem k_nil : SoundK K r env look [] lNil := fun A ok pos vs Q hp ρ s E q F H => wpAny_evalAll_nil ⟨rfl, _, hp, ρ, s.heap, s.toks, rfl, q, H, Step.refl .., .nil⟩
theorem k_cons {n : Option Str} {e : Expr} {kp : Pos} {kws : List Keyword} {a : XE} {p : XL} (ha : SoundE K r env look e a) (hp : SoundK K r env look kws p) : SoundK K r env look (⟨n, e, kp⟩ :: kws) (lCons a p) := by
  intro A ok pos vs Q hp' ρ s E q F H
  show wpAny _ A (do let v ← (do let v ← eval e env; standAt pos; pure v); return v :: (← holding [v] (evalAll ((backToKw pos (keywordEach kws env)).map (·.2))))) _ E s
  refine wpAny_bind (wpAny_bind (ha.then ok q F H ?_))
  intro va hp₁ ρ₁ h₁ t₁ ra q₁ H₁ S₁ r₁ F₁
  refine wpAny_bind (wpAny_standAt (wpAny_pure (wpAny_bind (wpAny_holding (wpAny_mono (hp A ok pos vs _ hp₁ ρ₁ { s with heap := h₁, toks := t₁ } E q₁ F₁ H₁) ?_ (fun _ _ x => x))))))
  rintro rvs s' ⟨hlen, l, hp₂, ρ₂, h₂, t₂, rfl, q₂, H₂, S₂, r₂⟩
  exact wpAny_pure ⟨by simp [hlen], va :: l, hp₂, ρ₂, h₂, t₂, rfl, q₂, H₂, S₁.trans S₂, .cons (r₁.step S₂ H₁) r₂⟩

noncomputable def knOf (kws : List Keyword) : List Str := kws.filterMap fun k => match k with | ⟨n, _, _⟩ => n
theorem knOf_eq (pos : Pos) (kws : List Keyword) : (backToKw pos (keywordEach kws env)).filterMap (·.1) = knOf kws := by
  induction kws with
  | nil => rfl
  | cons k kws ih =>
    obtain ⟨n, e, p⟩ := k
    show ((n, _) :: backToKw pos (keywordEach kws env)).filterMap (·.1) = _
    unfold knOf
    cases n with
    | none => simpa [List.filterMap_cons, knOf] using ih
    | some n => simpa [List.filterMap_cons, knOf] using ih
theorem knOf_len {kws : List Keyword} (pos : Pos) (h : (backToKw pos (keywordEach kws env)).all (·.1.isSome) = true) : (knOf kws).length = kws.length := by
  induction kws with
  | nil => rfl
  | cons k kws ih =>
    obtain ⟨n, e, p⟩ := k
    have h' : (((n, _) :: backToKw pos (keywordEach kws env)).all (·.1.isSome)) = true := h
    simp only [List.all_cons, Bool.and_eq_true] at h'
    cases n with
    | none => cases h'.1
    | some n =>
      have := ih h'.2
      simp only [knOf] at this ⊢
      simp [List.filterMap_cons, this]

/-- all arguments of a call -/
theorem eval_args {A : Around} (ok : OkA r A) {f : Value} {args : List Expr} {kws : List Keyword} {pos : Pos} {l k : XL} {vs : List (Option V)} {Q : List V → List O → Prop} {s : Shared} {E : Value → Shared → Prop}
    (hl : SoundL K r env look args l) (hk : SoundK K r env look kws k) (hb : (backTo pos (starEach args env)).any (·.1) = false) (hkn : (backToKw pos (keywordEach kws env)).all (·.1.isSome) = true)
    (q : l vs (fun vas => k vs fun kas => Q (vas ++ kas)) hp) (F : FRel K env look vs ρ s.heap) (H : HRel K ρ hp s.heap) :
    wpAny (model K.prog K.w) A (evalArgs f true (backTo pos (starEach args env)) (backToKw pos (keywordEach kws env)))
      (fun x s' => ∃ ks vas hp' ρ' h' t, x.kw = (knOf kws).zip ks ∧ ks.length = (knOf kws).length ∧ s' = { s with heap := h', toks := t } ∧ Q vas hp' ∧ HRel K ρ' hp' h' ∧ Step K ρ s.heap ρ' h' ∧ VRs ρ' h' vas (x.pos ++ ks)) E s := by
  have second : ∀ rvs s', PostL K ρ s (fun vas => k vs fun kas => Q (vas ++ kas)) rvs s' → wpAny (model K.prog K.w) A (evalAll ((backToKw pos (keywordEach kws env)).map (·.2)))
      (fun ks s₂ => ∃ vas hp' ρ' h' t, (knOf kws).zip ks = (knOf kws).zip ks ∧ ks.length = (knOf kws).length ∧ s₂ = { s with heap := h', toks := t } ∧ Q vas hp' ∧ HRel K ρ' hp' h' ∧ Step K ρ s.heap ρ' h' ∧ VRs ρ' h' vas (rvs ++ ks)) E s' := by
    rintro rvs s' ⟨vas, hp₁, ρ₁, h₁, t₁, rfl, q₁, H₁, S₁, r₁⟩
    refine wpAny_mono (hk A ok pos vs _ hp₁ ρ₁ { s with heap := h₁, toks := t₁ } E q₁ (F.step H S₁) H₁) ?_ (fun _ _ x => x)
    rintro ks s₂ ⟨hlen, kas, hp₂, ρ₂, h₂, t₂, rfl, q₂, H₂, S₂, r₂⟩
    exact ⟨vas ++ kas, hp₂, ρ₂, h₂, t₂, rfl, by rw [knOf_len pos hkn, hlen], rfl, q₂, H₂, S₁.trans S₂, (r₁.step S₂ H₁).append r₂⟩
  have base := hl A ok pos vs _ hp ρ s E q F H
  revert base hb
  generalize backTo pos (starEach args env) = T
  intro hb base
  cases T with
  | nil =>
    refine evalArgs_kw_nil hkn (fun Γ p hΓ => ?_)
    have := (wpAny_mono base second (fun _ _ x => x)) Γ p hΓ Γ p hΓ
    rw [knOf_eq]
    refine Sem.wp_mono _ _ _ ?_ (fun _ _ _ x => x) _ _ this
    rintro ks p' s' ⟨vas, hp', ρ', h', t, x⟩
    exact ⟨ks, vas, hp', ρ', h', t, x⟩
  | cons x rest =>
    obtain ⟨b, t⟩ := x
    simp only [List.any_cons, Bool.or_eq_false_iff] at hb
    obtain ⟨rfl, _⟩ := hb
    refine evalArgs_kw hkn (wpAny_mono base ?_ (fun _ _ x => x))
    intro rvs s' x
    refine wpAny_mono (second rvs s' x) ?_ (fun _ _ x => x)
    rintro ks s₂ ⟨vas, hp', ρ', h', t, x⟩
    rw [knOf_eq]
    exact ⟨ks, vas, hp', ρ', h', t, x⟩

/-- an object with fields -/
noncomputable def atI (v : V) (hp : List O) (C : Addr) (k : Nat → List (Nat × V) → Prop) : Prop := match v with
  | .r i => match hp[i]? with | some (.inst c fs) => c = C ∧ k i fs | _ => False
  | _ => False
theorem atI_rel {h : Heap} {v : V} {rv : Value} {C : Addr} {k : Nat → List (Nat × V) → Prop} (q : atI v hp C k) (H : HRel K ρ hp h) (hv : VR ρ h v rv) :
    ∃ i p fs ox od m, v = .r i ∧ rv = .ref p.a ∧ k i fs ∧ hp[i]? = some (.inst C fs) ∧ ρ[i]? = some p ∧ W.InstAt h p.a ox C (some od) ∧ ox.dict = some p.m ∧ h.get? p.m = some od ∧ h.Ns1 p.m m ∧
      (∀ k x, K.attrs[k]? = some x → match fs.lookup k with
        | some v => (∃ rv, m x = some rv ∧ VR ρ h v rv) ∧ (∀ j, v = .r j → j < i) ∧ isField v
        | none => m x = none) ∧ (∀ x, x ∉ K.attrs → m x = none) := by
  unfold atI at q
  split at q
  · rename_i i
    obtain ⟨p, ep, rfl⟩ := hv
    split at q
    · rename_i c fs e
      obtain ⟨rfl, q⟩ := q
      obtain ⟨o, od, m, h1, h2, h3, h4, h5, h7, h8, h9, h10, h11⟩ := H.at e ep
      refine ⟨i, p, fs, o, od, m, rfl, rfl, q, e, ep, ⟨h1, h2, by unfold W.notCls; rw [h4], ?_⟩, h3, h7, h9, h10, h11⟩
      rw [h3]; exact h7
    · exact q.elim
  · exact q.elim
theorem handed_VR {h : Heap} {v : V} {rv : Value} (hv : VR ρ h v rv) : W.handedIn rv = true := by
  cases v with
  | d x => cases hv <;> rfl
  | r i => obtain ⟨p, _, rfl⟩ := hv; rfl
  | rng a b c => obtain ⟨q, _, _, _, rfl, _⟩ := hv; rfl
  | g v => obtain ⟨rfl, h⟩ := hv; cases rv <;> first | rfl | exact h.elim

noncomputable def getF (C : Addr) (k : Nat) (v : V) (Q : V → List O → Prop) (hp : List O) : Prop := atI v hp C fun _ fs => match fs.lookup k with | some w => Q w hp | none => False
theorem get_field (X : KF K Kf) {C : Addr} {k : Nat} {x : Str} {attr : Option Value} {expr : Bool} (hx : K.attrs[k]? = some x) (hg : W.plainGet Kf C x = true) (hh : W.hasDictIn Kf C = true) (ha : W.findIn Kf (.ref C) x = some attr) (hn : W.noGet Kf attr = true) :
    Sound1 K r (fun v => getAttr v x expr) (getF C k) := by
  intro A ok ρ hp s va ra Q E q H hv
  obtain ⟨i, p, fs, ox, od, m, rfl, rfl, q, e, ep, I, hd, ho, n, hf, _⟩ := atI_rel q H hv
  have hf := hf k x hx
  split at q
  · rename_i w hw
    rw [hw] at hf
    obtain ⟨⟨rv, hm, hr⟩, _⟩ := hf
    refine W.get_value (X.now H) I (W.plainGet_of hg).1 (W.findObj_own hh ha hn (by rw [lookIn_ns n ho, hm])) (handed_VR hr) ?_
    exact PostE.pure _ q H hr
  · exact q.elim
end
end Mine

set_option autoImplicit false
set_option linter.unusedVariables false
set_option linter.unusedSimpArgs false
namespace Mine
open PySem PySem.Spec PySem.Calls PyProof.Rows
section
variable {K : KX} {r : Nat} {env : Env} {look : Str → Option Nat} {ρ : Rho} {hp : List O} {Kf : W.Frag}

/-- e.x -/
noncomputable def xUn (f : V → (V → List O → Prop) → List O → Prop) (a : XE) : XE := fun vs Q => a vs fun v => f v Q
theorem e_attr {value : Expr} {attr : Str} {pos : Pos} {f : V → (V → List O → Prop) → List O → Prop} {a : XE} (hf : Sound1 K r (fun v => getAttr v attr true) f) (ha : SoundE K r env look value a)
    (he : eval (.Attribute value attr pos) env = (do
      let o ← eval value env
      standAt pos.atName
      let r ← holding [o] (getAttr o attr true)
      letTemporaryGo value o r
      pure r)) (hg : ∀ o r, letTemporaryGo value o r = pure ()) : SoundE K r env look (.Attribute value attr pos) (xUn f a) := by
  intro A ok vs Q hp ρ s E q F H
  rw [he]
  refine wpAny_bind (ha.then ok q F H ?_)
  intro va hp₁ ρ₁ h₁ t₁ ra q₁ H₁ S₁ r₁ F₁
  refine wpAny_bind (wpAny_standAt (wpAny_bind (wpAny_holding (wpAny_mono (hf A ok ρ₁ hp₁ { s with heap := h₁, toks := t₁ } va ra Q E q₁ H₁ r₁) ?_ (fun _ _ x => x)))))
  intro rv s' p
  rw [hg]
  exact wpAny_bind (wpAny_pure (wpAny_pure (PostE.after S₁ p)))

/-- the fields after a store -/
noncomputable def putFs (k : Nat) (w : V) (fs : List (Nat × V)) : List (Nat × V) := (k, w) :: fs.filter (fun x => x.1 != k)
theorem putFs_look (k j : Nat) (w : V) (fs : List (Nat × V)) : (putFs k w fs).lookup j = if j = k then some w else fs.lookup j := by
  unfold putFs
  rw [List.lookup_cons]
  by_cases h : j = k
  · subst h; simp
  · have hb : (j == k) = false := by simpa using h
    rw [hb, if_neg h]
    simp only
    induction fs with
    | nil => rfl
    | cons x fs ih =>
      obtain ⟨n, v⟩ := x
      rw [List.filter_cons]
      split
      · rw [List.lookup_cons, List.lookup_cons, ih]
      · rename_i hn
        have : n = k := by simpa using hn
        subst this
        rw [List.lookup_cons, hb, ih]
noncomputable def setF (C : Addr) (k : Nat) (v w : V) (Q : List O → Prop) (hp : List O) : Prop := atI v hp C fun i fs => ((match w with | .r j => j < i | .rng .. => False | .g _ => False | _ => True) : Prop) ∧ Q (hp.set i (.inst C (putFs k w fs)))
theorem set_field (X : KF K Kf) {C : Addr} {k : Nat} {x : Str} (hx : K.attrs[k]? = some x) (huniq : ∀ j, K.attrs[j]? = some x → j = k) (hl : K.attrs.length ≤ 1000) (hs : W.findIn Kf (.ref C) "__setattr__" = some (some (.builtin "object.__setattr__")))
    (hov : W.plainOver Kf C = true) (ht : W.takerIn Kf C x = some none) (hh : W.hasDictIn Kf C = true) {A : Around} {ρ : Rho} {hp : List O} {s : Shared} {v w : V} {rv rw' : Value} {Q : List O → Prop} {E : Value → Shared → Prop}
    (q : setF C k v w Q hp) (H : HRel K ρ hp s.heap) (hv : VR ρ s.heap v rv) (hw : VR ρ s.heap w rw') :
    wpAny (model K.prog K.w) A (setAttr rv x rw') (fun _ s' => ∃ hp' h' t, s' = { s with heap := h', toks := t } ∧ Q hp' ∧ HRel K ρ hp' h' ∧ Step K ρ s.heap ρ h') E s := by
  obtain ⟨i, p, fs, ox, od, m, rfl, rfl, q, e, ep, I, hd, ho, n, hf, hout⟩ := atI_rel q H hv
  obtain ⟨hlow, q⟩ := q
  have hpm := List.mem_of_getElem? ep
  obtain ⟨oo, oo', mm, g1, g2, g3, g4, g5, g7, g8, g9, g10, g11⟩ := H.at e ep
  refine W.set_plain (X.now H) I hs (W.osa_open (s := { s with toks := s.toks + 1 }) (X.now H) I hov ht fun b => ?_)
  obtain ⟨cd, hc, hd'⟩ := W.any_some hh
  obtain ⟨hxo, hcl, hn, -⟩ := I
  obtain ⟨oc, odi, oda, osl⟩ := ox
  dsimp only at hcl hd
  subst hcl hd
  refine wpAny_bind (wpAny_pure (wpAny_bind (wpAny_bind (wpAny_loadPart hxo (wpAny_bind (W.Looks.here (s := { s with toks := s.toks + 1 }) (W.looks_clsIn (X.now H) hc) ?_))))))
  rw [hd']
  refine wpAny_pure (a := some p.m) (wpAny_bind (wpAny_pure (wpAny_bind ?_)))
  refine wpAny_nsSet1EFk (s := { s with toks := s.toks + 1 }) n fun h' n' hsb hcls => ?_
  have hwn : Within (fun y => if y = x then some rw' else m y) K.attrs := by
    intro y hy
    apply Classical.byContradiction
    intro hn'
    apply hy
    have : y ≠ x := by rintro rfl; exact hn' (List.mem_of_getElem? hx)
    simp [this, hout y hn']
  obtain ⟨o₂, es₂, ep₂, e₂, d₂, z₂⟩ := n'.count hwn
  refine wpAny_bind (wpAny_lookBehind e₂ (by rw [d₂]; exact pastItsLine_dict (by rw [sizeLine_eq]; omega)) ?_)
  refine wpAny_pure ?_
  have S : Step K ρ s.heap ρ h' := Step.own hpm hsb ⟨_, e₂⟩
  obtain ⟨od', e3, c3, _⟩ := hcls od ho
  have hox : h'.get? p.a = some ⟨.ref C, some p.m, oda, osl⟩ := by
    have hne : p.a ≠ p.m := by
      intro z
      have := (H.fx p hpm p.a g5).1
      exact this (z ▸ List.mem_map.mpr ⟨p, hpm, rfl⟩)
    exact (hsb.2 _ hne).trans hxo
  refine ⟨hp.set i (.inst C (putFs k w fs)), h', _, rfl, q, ?_, S⟩
  refine H.own ep (List.getElem?_eq_some_iff.mp e).1 hsb ?_ ⟨_, e₂⟩
  rw [g1] at hxo; cases hxo
  rw [g7] at ho; cases ho
  refine ⟨_, od', _, hox, rfl, rfl, g4, g5, e3, by rw [c3]; exact g8, n', ?_, ?_⟩
  · intro j y hy
    rw [putFs_look]
    by_cases hj : j = k
    · subst hj
      rw [if_pos rfl]
      rw [hx] at hy; cases hy
      refine ⟨⟨rw', by simp, hw.step S H⟩, ?_, ?_⟩
      · rintro j rfl; exact hlow
      · cases w with
        | rng => exact hlow.elim
        | g => exact hlow.elim
        | _ => trivial
    · rw [if_neg hj]
      have hyx : y ≠ x := by rintro rfl; exact hj (huniq j hy)
      have := hf j y hy
      revert this
      cases fs.lookup j with
      | none => intro z; simp [hyx, z]
      | some u => rintro ⟨⟨ru, z1, z2⟩, z3, z4⟩; exact ⟨⟨ru, by simp [hyx, z1], z2.step S H⟩, z3, z4⟩
  · intro y hy
    have hyx : y ≠ x := by rintro rfl; exact hy (List.mem_of_getElem? hx)
    simp [hyx, hout y hy]
end
end Mine

set_option autoImplicit false
set_option linter.unusedVariables false
set_option linter.unusedSimpArgs false
namespace Mine
open PySem PySem.Spec PySem.Calls PyProof.Rows
section
variable {K : KX} {r : Nat} {env : Env} {look : Str → Option Nat} {ρ : Rho} {hp : List O} {Kf : W.Frag}

/-- a store into an object's field -/
noncomputable def SoundSet (K : KX) (x : Str) (p : V → V → (List O → Prop) → List O → Prop) : Prop :=
  ∀ A ρ hp s v w rv rw' Q E, p v w Q hp → HRel K ρ hp s.heap → VR ρ s.heap v rv → VR ρ s.heap w rw' →
    wpAny (model K.prog K.w) A (setAttr rv x rw') (fun _ s' => ∃ hp' h' t, s' = { s with heap := h', toks := t } ∧ Q hp' ∧ HRel K ρ hp' h' ∧ Step K ρ s.heap ρ h') E s
noncomputable def sSetF (p : V → V → (List O → Prop) → List O → Prop) (o value : XE) : XS := fun vs Q => value vs fun w => o vs fun v => p v w fun hp => Q .next vs hp
theorem s_setf {x : Str} {p : V → V → (List O → Prop) → List O → Prop} {o value : Expr} {pos' pos : Pos} {a b : XE} (hp : SoundSet K x p) (ha : SoundE K r env look o a) (hb : SoundE K r env look value b)
    (hs : swapsWith value (some (.Attribute o x pos')) pos.line env = pure false) : SoundS K r env look (.Assign [.Attribute o x pos'] value pos) (sSetF p a b) := by
  intro A ok vs Q hp' ρ s E q F H
  refine plainObj_wpAny_Assign_Attribute (hb.then ok q F H ?_) hs
  intro w hp₁ ρ₁ h₁ t₁ rw' q₁ H₁ S₁ r₁ F₁
  refine ha.then ok (s := { s with heap := h₁, toks := t₁ }) q₁ F₁ H₁ ?_
  intro v hp₂ ρ₂ h₂ t₂ rv q₂ H₂ S₂ r₂ F₂
  refine wpAny_mono (hp A ρ₂ hp₂ { s with heap := h₂, toks := t₂ } v w rv rw' _ E q₂ H₂ r₂ (r₁.step S₂ H₁)) ?_ (fun _ _ x => x)
  rintro _ s' ⟨hp₃, h₃, t₃, rfl, q₃, H₃, S₃⟩
  exact ⟨.next, vs, hp₃, ρ₂, h₃, t₃, rfl, q₃, F₂.step H₂ S₃, H₃, ((S₁.trans S₂).trans S₃).toS, trivial⟩
noncomputable def sAugF (g : V → (V → List O → Prop) → List O → Prop) (op : V → V → (V → List O → Prop) → List O → Prop) (p : V → V → (List O → Prop) → List O → Prop) (o value : XE) : XS :=
  fun vs Q => o vs fun v => g v fun old => value vs fun w => op old w fun new => p v new fun hp => Q .next vs hp
theorem s_augf {x : Str} {g : V → (V → List O → Prop) → List O → Prop} {op : V → V → (V → List O → Prop) → List O → Prop} {oper : Operator} {p : V → V → (List O → Prop) → List O → Prop} {o value : Expr} {pos' pos : Pos} {a b : XE}
    (hg : Sound1 K r (fun v => getAttr v x true) g) (hop : Sound2 K r (inplaceOp oper) op) (hp : SoundSet K x p) (ha : SoundE K r env look o a) (hb : SoundE K r env look value b) :
    SoundS K r env look (.AugAssign (.Attribute o x pos') oper value pos) (sAugF g op p a b) := by
  intro A ok vs Q hp' ρ s E q F H
  refine wpAny_AugAssign_AttributeAny (ha.then ok q F H ?_)
  intro v hp₁ ρ₁ h₁ t₁ rv q₁ H₁ S₁ r₁ F₁
  refine wpAny_mono (hg A ok ρ₁ hp₁ { s with heap := h₁, toks := t₁ } v rv _ E q₁ H₁ r₁) ?_ (fun _ _ x => x)
  rintro ro s' ⟨old, hp₂, ρ₂, h₂, t₂, rfl, q₂, H₂, S₂, r₂⟩
  have F₂ := F₁.step H₁ S₂
  refine hb.then ok (s := { s with heap := h₂, toks := t₂ }) q₂ F₂ H₂ ?_
  intro w hp₃ ρ₃ h₃ t₃ rw' q₃ H₃ S₃ r₃ F₃
  refine wpAny_mono (hop A ok ρ₃ hp₃ { s with heap := h₃, toks := t₃ } old w ro rw' _ E q₃ H₃ (r₂.step S₃ H₂) r₃) ?_ (fun _ _ x => x)
  rintro rn s' ⟨new, hp₄, ρ₄, h₄, t₄, rfl, q₄, H₄, S₄, r₄⟩
  refine wpAny_mono (hp A ρ₄ hp₄ { s with heap := h₄, toks := t₄ } v new rv rn _ E q₄ H₄ (((r₁.step S₂ H₁).step S₃ H₂).step S₄ H₃) r₄) ?_ (fun _ _ x => x)
  rintro _ s' ⟨hp₅, h₅, t₅, rfl, q₅, H₅, S₅⟩
  exact ⟨.next, vs, hp₅, ρ₄, h₅, t₅, rfl, q₅, (F₃.step H₃ S₄).step H₄ S₅, H₅, ((((S₁.trans S₂).trans S₃).trans S₄).trans S₅).toS, trivial⟩
theorem set_fieldS (X : KF K Kf) {C : Addr} {k : Nat} {x : Str} (hx : K.attrs[k]? = some x) (huniq : ∀ j, K.attrs[j]? = some x → j = k) (hl : K.attrs.length ≤ 1000) (hs : W.findIn Kf (.ref C) "__setattr__" = some (some (.builtin "object.__setattr__")))
    (hov : W.plainOver Kf C = true) (ht : W.takerIn Kf C x = some none) (hh : W.hasDictIn Kf C = true) : SoundSet K x (setF C k) :=
  fun A ρ hp s v w rv rw' Q E q H hv hw => set_field X hx huniq hl hs hov ht hh q H hv hw

/-- o.f(args), f of o's class -/
noncomputable def xMeth (C : Addr) (F : FT) (a : XE) (l k : XL) : XE := fun vs Q => a vs fun v hp => (atI v hp C fun _ _ => True) ∧ l vs (fun vas => k vs fun kas => F (v :: (vas ++ kas)) Q) hp
theorem e_meth (X : KF K Kf) {C f : Addr} {fd : FuncData} {body : List Stmt} {o : Expr} {name : Str} {args : List Expr} {kws : List Keyword} {apos pos : Pos} {F : FT} {a : XE} {l k : XL}
    (hF : SoundF K r (.ref f) (knOf kws) F) (Y : FnAt K f fd body) (ho : SoundE K r env look o a) (hl : SoundL K r env look args l) (hk : SoundK K r env look kws k)
    (hg : W.plainGet Kf C name = true) (hf : W.findIn Kf (.ref C) name = some (some (.ref f))) (ht : W.typeIn Kf (.ref f) = some (.type "function")) (hn : name ∉ K.attrs)
    (hbase : attributeBase o name env (eval o env) = eval o env) (hb : (backTo pos (starEach args env)).any (·.1) = false) (hkn : (backToKw pos (keywordEach kws env)).all (·.1.isSome) = true)
    (hform : methodCallForm (args.length + kws.length) (backTo pos (starEach args env)) (backToKw pos (keywordEach kws env)) = true) (hline : (apos.endLine == pos.line) = true) :
    SoundE K r env look (.Call (.Attribute o name apos) args kws pos) (xMeth C F a l k) := by
  intro A ok vs Q hp ρ s E q FR H
  rw [arm_eval_Call, hbase]
  refine wpAny_bind (ho.then ok q FR H ?_)
  intro v hp₁ ρ₁ h₁ t₁ rv q₁ H₁ S₁ r₁ F₁
  refine wpAny_bind (wpAny_standAt ?_)
  have hpos : methodCallPos true o env apos pos = pure pos := by unfold methodCallPos; simp [hline]
  unfold methodCall
  rw [hform]
  obtain ⟨i, p, fs, ox, od, m, rfl, rfl, _, e, ep, I, hd, hod, n, hfld, hout⟩ := atI_rel q₁.1 H₁ r₁
  refine wpAny_bind (wpAny_holding (W.method_fn (s := { s with heap := h₁, toks := t₁ }) (X.now H₁) I (W.plainGet_of hg).1 (W.plainGet_of hg).2 hf ht ?_ ?_))
  · unfold W.shadowIn
    simp only
    rw [lookIn_ns n hod, hout name hn]; rfl
  refine wpAny_bind (wpAny_of_eq hpos ?_)
  obtain ⟨of, hof, hdf⟩ := Y.ob
  refine callWith_function_kw (o := of) (fd := fd) ?_
  refine wpAny_mono (eval_args (s := { s with heap := h₁, toks := t₁ }) (Q := fun l => F (V.r i :: l) Q) ok hl hk hb hkn q₁.2 F₁ H₁) ?_ (fun _ _ x => x)
  rintro x s' ⟨ks, vas, hp₂, ρ₂, h₂, t₂, hkw, hlen, rfl, q₂, H₂, S₂, r₂⟩
  refine ⟨⟨H₂.keep _ _ hof Y.tb, hdf⟩, ?_⟩
  rw [hkw]
  have r₁' : VR ρ₂ h₂ (.r i) (.ref p.a) := r₁.step S₂ H₁
  exact wpAny_mono (hF.call A ok ρ₂ hp₂ { s with heap := h₂, toks := t₂ } _ ([.ref p.a] ++ x.pos) ks Q E hlen q₂ H₂ (by rw [List.append_assoc]; exact .cons r₁' r₂)) (fun _ _ z => PostE.after (S₁.trans S₂) z) (fun _ _ z => z)
end
end Mine

set_option autoImplicit false
set_option linter.unusedVariables false
set_option linter.unusedSimpArgs false
namespace Mine
open PySem PySem.Spec PySem.Calls PyProof.Rows
section
variable {K : KX} {mg mb : Str → Option Value} {r : Nat} {env : Env} {look : Str → Option Nat} {ρ : Rho} {hp : List O} {Kf : W.Frag}

noncomputable def xG (v : Value) : XE := fun _ Q => Q (.g v)
theorem e_glob (G : KG K mg mb) {f : Str} {a : Addr} {p : Pos} (hk : env.kindOf f = some .globalImplicit) (hg : mg f = some (.ref a)) (hd : (f == ("__debug__" : Str)) = false) : SoundE K r env look (.Name f p) (xG (.ref a)) := by
  intro A ok vs Q hp ρ s E q FR H
  refine Calls.Name_function_global FR.kd hk (Calls.loadGlobal_global (mg := mg) ?_ hg (PostE.pure0 q H ⟨rfl, trivial⟩)) hd
  rw [FR.gl]; exact H.nsOf G.g G.g'
theorem e_tname (G : KG K mg mb) {f : Str} {T : String} {p : Pos} (hk : env.kindOf f = some .globalImplicit) (hg : mg f = none) (hm : mb f = some (.type T)) (hd : (f == ("__debug__" : Str)) = false) : SoundE K r env look (.Name f p) (xG (.type T)) := by
  intro A ok vs Q hp ρ s E q FR H
  refine Calls.Name_function_global FR.kd hk (Calls.loadGlobal_builtin (mg := mg) (mb := mb) ?_ hg ?_ hm (PostE.pure0 q H ⟨rfl, trivial⟩)) hd
  · rw [FR.gl]; exact H.nsOf G.g G.g'
  · rw [FR.bi]; exact H.nsOf G.b G.b'
noncomputable def tyOf : PyData → Option String
  | .none => some "NoneType"
  | .bool _ => some "bool"
  | .int _ => some "int"
  | .str _ => some "str"
  | .list _ => some "list"
  | .tuple _ => some "tuple"
  | _ => none
noncomputable def fType : FT := fun vas Q hp => match vas with
  | [v] => match dget v hp with | some x => (match tyOf x with | some T => Q (.g (.type T)) hp | none => False) | none => False
  | _ => False
theorem f_type : SoundV K r (.type "type") fType := by
  intro A ok ρ hp s vas ras Q E q H R
  unfold fType at q
  split at q
  · rename_i v
    cases R with | cons a b =>
    rename_i rv rvs
    cases b
    split at q
    · rename_i x e
      split at q
      · rename_i T hT
        have key : s.TypeIs rv T := by
          cases v with
          | d y =>
            cases e
            cases a <;> cases hT
            · exact PySem.typeIs_none _
            · exact PySem.typeIs_bool _ _
            · exact typeIs_int _ _ _
            · exact typeIs_str _ _ _
            · rename_i h1 _ _; exact ⟨_, h1, rfl⟩
            · rename_i h1 _ _; exact ⟨_, h1, rfl⟩
          | r i =>
            obtain ⟨p, ep, rfl⟩ := a
            simp only [dget] at e
            split at e
            · rename_i l hl
              cases e; cases hT
              obtain ⟨ha, vs, n, hL, _⟩ := H.at hl ep
              exact ⟨_, ha ▸ hL, rfl⟩
            · cases e
          | rng => cases e
          | g => cases e
        refine call_type_of key ?_ (PostE.pure0 q H ⟨rfl, trivial⟩)
        have : T ∈ ["NoneType", "bool", "int", "str", "list", "tuple"] := by
          cases x <;> cases hT <;> decide
        revert this
        generalize T = U
        intro h
        simp only [List.mem_cons, List.mem_nil_iff, or_false] at h
        rcases h with rfl | rfl | rfl | rfl | rfl | rfl <;> decide
      · exact q.elim
    · exact q.elim
  · exact q.elim
noncomputable def opIsT (neg : Bool) : Op2 := fun va vb Q hp => match va, vb with
  | .g (.type T), .g (.type U) => Q (.d (.bool (if neg then !(Value.type T == Value.type U) else (Value.type T == Value.type U)))) hp
  | _, _ => False
theorem s_isT : Sound2 K r (compareOp .Is) (opIsT false) := by
  intro A ok ρ hp s va vb ra rb Q E q H ha hb
  unfold opIsT at q
  split at q
  · obtain ⟨rfl, _⟩ := ha
    obtain ⟨rfl, _⟩ := hb
    exact wpAny_is_plain rfl (PostE.pure0 q H (.bool _))
  · exact q.elim
theorem s_isNotT : Sound2 K r (compareOp .IsNot) (opIsT true) := by
  intro A ok ρ hp s va vb ra rb Q E q H ha hb
  unfold opIsT at q
  split at q
  · obtain ⟨rfl, _⟩ := ha
    obtain ⟨rfl, _⟩ := hb
    exact wpAny_isNot_plain rfl (PostE.pure0 q H (.bool _))
  · exact q.elim
end
end Mine

set_option autoImplicit false
set_option linter.unusedVariables false
set_option linter.unusedSimpArgs false
namespace Mine
open PySem PySem.Spec PySem.Calls PyProof.Rows
section
variable {K : KX} {mg mb : Str → Option Value} {r : Nat} {env : Env} {look : Str → Option Nat} {ρ : Rho} {hp : List O} {Kf : W.Frag}

/-- a new object of a class with its own __init__ -/
noncomputable def mkInst (C : Addr) (F : FT) : FT := fun vas Q hp => F (.r hp.length :: vas) (fun v hp' => v = .d .none ∧ Q (.r hp.length) hp') (hp ++ [.inst C []])
theorem f_make (X : KF K Kf) {C fI : Addr} {kn : List Str} {F : FT} (hF : SoundF K r (.ref fI) kn F) (hm : W.makesIn Kf C = true) (hi : W.findIn Kf (.ref C) "__init__" = some (some (.ref fI))) (hf : W.typeIn Kf (.ref fI) = some (.type "function")) :
    SoundF K (r + 1) (.ref C) kn (mkInst C F) := by
  intro A ok ρ hp s vas ras ks Q E hlen q H R
  obtain ⟨hh, g, d, t, os⟩ := s
  have Xn := X.now H
  refine W.make_core (W.makes_of Xn hm) (W.looks_findIn Xn hi) (fun self => W.bind_fn Xn self hf) (.inl rfl) ?_
  have keep : ∀ b o, hh.get? b = some o → ((hh.push W.emptyDict).push (W.instObj C hh.objs.size)).get? b = some o := fun b o e => Heap.get?_push_of_some _ (Heap.get?_push_of_some _ e)
  have gx : ((hh.push W.emptyDict).push (W.instObj C hh.objs.size)).get? (hh.objs.size + 1) = some (W.instObj C hh.objs.size) := by
    have := Heap.get?_push_size (o := W.instObj C hh.objs.size) (hh.push W.emptyDict) rfl
    rwa [Heap.size_push] at this
  have gd : ((hh.push W.emptyDict).push (W.instObj C hh.objs.size)).get? hh.objs.size = some W.emptyDict := Heap.get?_push_of_some _ (Heap.get?_push_size _ rfl)
  have n1 : hh.get? hh.objs.size = none := get?_beyond (Nat.le_refl _)
  have n2 : hh.get? (hh.objs.size + 1) = none := get?_beyond (Nat.le_succ _)
  obtain ⟨H', S'⟩ := H.add keep (p := ⟨hh.objs.size + 1, hh.objs.size, [hh.objs.size + 1]⟩) (o := .inst C []) n1 ⟨_, gd⟩ (by
      intro a ha
      simp at ha; subst ha
      exact ⟨n2, ⟨_, gx⟩, Nat.succ_ne_self _⟩) (by
      refine ⟨_, _, fun _ => none, gx, rfl, rfl, rfl, by simp, gd, rfl, ⟨_, #[], 0, gd, rfl, (fun e he => by simp at he), (by unfold UniqKeys; simp), fun _ => rfl⟩, ?_, fun _ _ => rfl⟩
      intro k x hx
      rfl)
  have R' : VRs (ρ ++ [⟨hh.objs.size + 1, hh.objs.size, [hh.objs.size + 1]⟩]) ((hh.push W.emptyDict).push (W.instObj C hh.objs.size)) (.r hp.length :: vas) ((.ref (hh.objs.size + 1) :: ras) ++ ks) :=
    .cons ⟨⟨hh.objs.size + 1, hh.objs.size, [hh.objs.size + 1]⟩, by rw [← H.len]; simp, rfl⟩ (R.step S' H)
  have ok' : OkA r (A.under (.builtin "type.__call__" ⟨.ref C :: ras, kn.zip ks⟩)) := by
    refine ⟨ok.hh, ?_, ?_⟩
    · have := ok.dp
      have e := W.depth_under_kw A C ras (kn.zip ks)
      rw [e]; omega
    · have := ok.un
      have e : (A.under (.builtin "type.__call__" ⟨.ref C :: ras, kn.zip ks⟩)).units = A.units + (Code.builtin "type.__call__" ⟨.ref C :: ras, kn.zip ks⟩).cUnits := rfl
      have e2 : (Code.builtin "type.__call__" ⟨.ref C :: ras, kn.zip ks⟩).cUnits ≤ 50 := by
        show 1 + 3 * 0 ≤ 50
        decide
      rw [e]; omega
  have W' := hF _ ok' _ _ ⟨(hh.push W.emptyDict).push (W.instObj C hh.objs.size), g, d, t, os⟩ (.r hp.length :: vas) (.ref (hh.objs.size + 1) :: ras) ks _ E hlen q H' R'
  refine codeAny_mono W' ?_
  intro rr s' hr
  rcases rr with e | (v | _ | _ | _)
  · exact hr
  all_goals first | exact hr.elim | skip
  obtain ⟨v', hp', ρ', h', t', rfl, ⟨rfl, q'⟩, Hf, Sf, rf⟩ := hr
  cases rf
  refine ⟨rfl, .r hp.length, hp', ρ', h', t', rfl, q', Hf, S'.trans Sf, ⟨⟨hh.objs.size + 1, hh.objs.size, [hh.objs.size + 1]⟩, Sf.get (i := hp.length) (by rw [← H.len]; simp), rfl⟩⟩

/-- C(args) -/
theorem e_new (G : KG K mg mb) (X : KF K Kf) {f : Str} {C : Addr} {e : Expr} {rest : List Expr} {p pos : Pos} {F : FT} {l : XL} (hF : SoundF K r (.ref C) [] F) (hl : SoundL K r env look (e :: rest) l)
    (hkp : W.keepIn Kf (.ref C) = true) (hk : env.kindOf f = some .globalImplicit) (hg : mg f = some (.ref C)) (hd : (f == ("__debug__" : Str)) = false)
    (he : starEach (e :: rest) env = (false, eval e env) :: starEach rest env) (hplain : (backTo pos (starEach rest env)).any (·.1) = false) :
    SoundE K r env look (.Call (.Name f p) (e :: rest) [] pos) (xCall F l) := by
  intro A ok vs Q hp ρ s E q FR H
  refine wpAny_Call_Name_kw (Calls.Name_function_global FR.kd hk (Calls.loadGlobal_global (mg := mg) ?_ hg ?_) hd)
  · rw [FR.gl]; exact H.nsOf G.g G.g'
  refine W.callWith_K X.inn hkp (wpAny_mono (hl A ok pos vs _ hp ρ s E q FR H) ?_ (fun _ _ x => x)) he hplain
  rintro rvs s' ⟨l, hp₁, ρ₁, h₁, t₁, rfl, q₁, H₁, S₁, r₁⟩
  refine ⟨X.now H₁, ?_⟩
  exact wpAny_mono (hF.call A ok ρ₁ hp₁ { s with heap := h₁, toks := t₁ } l rvs [] Q E rfl q₁ H₁ (by rw [List.append_nil]; exact r₁)) (fun _ _ x => PostE.after S₁ x) (fun _ _ x => x)

/-- o[i] = v by the class's own method -/
noncomputable def sPutOwn (C : Addr) (F : FT) (o i a : XE) : XS := fun vs Q => a vs fun va => o vs fun vo => i vs fun vi hp => (atI vo hp C fun _ _ => True) ∧ F [vo, vi, va] (fun _ hp' => Q .next vs hp') hp
theorem s_putOwn (X : KF K Kf) {C f : Addr} {o i value : Expr} {pos' pos : Pos} {po pi a : XE} {F : FT} (hF : SoundF K r (.ref f) [] F) (ha : SoundE K r env look value a) (ho : SoundE K r env look o po) (hi : SoundE K r env look i pi)
    (hq : W.noSeq Kf C = true) (hf : W.findIn Kf (.ref C) "__setitem__" = some (some (.ref f))) (ht : W.typeIn Kf (.ref f) = some (.type "function"))
    (hs : swapsWith value (some (.Subscript o i pos')) pos.line env = pure false) : SoundS K r env look (.Assign [.Subscript o i pos'] value pos) (sPutOwn C F po pi a) := by
  intro A ok vs Q hp ρ s E q FR H
  refine wpAny_Assign_Subscript (ha.then ok q FR H ?_) hs
  intro va hp₁ ρ₁ h₁ t₁ ra q₁ H₁ S₁ r₁ F₁
  refine ho.then ok (s := { s with heap := h₁, toks := t₁ }) q₁ F₁ H₁ ?_
  intro vo hp₂ ρ₂ h₂ t₂ ro q₂ H₂ S₂ r₂ F₂
  refine hi.then ok (s := { s with heap := h₂, toks := t₂ }) q₂ F₂ H₂ ?_
  intro vi hp₃ ρ₃ h₃ t₃ ri q₃ H₃ S₃ r₃ F₃
  have ra' := (r₁.step S₂ H₁).step S₃ H₂
  have ro' := r₂.step S₃ H₂
  obtain ⟨j, p, fs, ox, od, m, rfl, rfl, _, e, ep, I, hd, hod, n, hfld, hout⟩ := atI_rel q₃.1 H₃ ro'
  have Xn := X.now H₃
  unfold setItem sequenceKey
  refine wpAny_holding (wpAny_bind (wpAny_bind (W.Looks.here (s := { s with heap := h₃, toks := t₃ }) I.type ?_)))
  refine wpAny_bind (W.Looks.here (s := { s with heap := h₃, toks := t₃ }) (W.anyM_none Xn hq) ?_)
  rw [if_pos (show (!false) = true from rfl)]
  refine wpAny_pure (wpAny_bind (W.special_fn (s := { s with heap := h₃, toks := t₃ }) Xn I hf ht (wpAny_mono (hF.call A ok ρ₃ hp₃ { s with heap := h₃, toks := t₃ } [.r j, vi, va] [.ref p.a, ri, ra] [] _ E rfl q₃.2 H₃ (.cons ro' (.cons r₃ (.cons ra' .nil)))) ?_ (fun _ _ x => x))))
  rintro _ s' ⟨v, hp', ρ', h', t', rfl, q', H', S', _⟩
  exact wpAny_pure ⟨.next, vs, hp', ρ', h', t', rfl, q', F₃.step H₃ S', H', (((S₁.trans S₂).trans S₃).trans S').toS, trivial⟩
end
end Mine

set_option autoImplicit false
set_option linter.unusedVariables false
set_option linter.unusedSimpArgs false
namespace Mine
open PySem PySem.Spec PySem.Calls PyProof.Rows
section
variable {K : KX} {mg mb : Str → Option Value} {r : Nat} {env : Env} {look : Str → Option Nat} {ρ : Rho} {hp : List O} {Kf : W.Frag}

/-- del o[i] by the class's own method -/
noncomputable def sDelOwn (C : Addr) (F : FT) (o i : XE) : XS := fun vs Q => o vs fun vo => i vs fun vi hp => (atI vo hp C fun _ _ => True) ∧ F [vo, vi] (fun _ hp' => Q .next vs hp') hp
theorem s_delOwn (X : KF K Kf) {C f : Addr} {o i : Expr} {pos' pos : Pos} {po pi : XE} {F : FT} (hF : SoundF K r (.ref f) [] F) (ho : SoundE K r env look o po) (hi : SoundE K r env look i pi)
    (hq : W.noSeq Kf C = true) (hf : W.findIn Kf (.ref C) "__delitem__" = some (some (.ref f))) (ht : W.typeIn Kf (.ref f) = some (.type "function")) : SoundS K r env look (.Delete [.Subscript o i pos'] pos) (sDelOwn C F po pi) := by
  intro A ok vs Q hp ρ s E q FR H
  refine wpAny_Delete ?_
  show wpAny _ A (do delete (.Subscript o i pos') env; deleteEach [] env) _ E s
  refine wpAny_bind (wpAny_delete_Subscript (ho.then ok q FR H ?_))
  intro vo hp₂ ρ₂ h₂ t₂ ro q₂ H₂ S₂ r₂ F₂
  refine hi.then ok (s := { s with heap := h₂, toks := t₂ }) q₂ F₂ H₂ ?_
  intro vi hp₃ ρ₃ h₃ t₃ ri q₃ H₃ S₃ r₃ F₃
  have ro' := r₂.step S₃ H₂
  obtain ⟨j, p, fs, ox, od, m, rfl, rfl, _, e, ep, I, hd, hod, n, hfld, hout⟩ := atI_rel q₃.1 H₃ ro'
  have Xn := X.now H₃
  unfold delItem sequenceKey
  refine wpAny_holding (wpAny_bind (wpAny_bind (W.Looks.here (s := { s with heap := h₃, toks := t₃ }) I.type ?_)))
  refine wpAny_bind (W.Looks.here (s := { s with heap := h₃, toks := t₃ }) (W.anyM_none Xn hq) ?_)
  rw [if_pos (show (!false) = true from rfl)]
  refine wpAny_pure (wpAny_bind (W.special_fn (s := { s with heap := h₃, toks := t₃ }) Xn I hf ht (wpAny_mono (hF.call A ok ρ₃ hp₃ { s with heap := h₃, toks := t₃ } [.r j, vi] [.ref p.a, ri] [] _ E rfl q₃.2 H₃ (.cons ro' (.cons r₃ .nil))) ?_ (fun _ _ x => x))))
  rintro _ s' ⟨v, hp', ρ', h', t', rfl, q', H', S', _⟩
  exact wpAny_pure (wpAny_pure ⟨.next, vs, hp', ρ', h', t', rfl, q', F₃.step H₃ S', H', ((S₂.trans S₃).trans S').toS, trivial⟩)

/-- o[:] = v, o and v lists apart -/
theorem setItem_all {A : Around} {E : Value → Shared → Prop} {s : Shared} {l sl src : Addr} {items new : Array Value} {n k : Nat} {Q : Unit → Shared → Prop} (hl : IsL s.heap l items n) (hv : IsL s.heap src new k) (hne : l ≠ src)
    (hs : s.heap.IsSliceOf sl .none .none .none) (hz : items.size + new.size ≤ sizeLine) (h : ∀ f : Array Value → Array Value, f items = new → Q () { s with heap := s.heap.update l (Obj.mapSeq f) }) :
    wpAny (model K.prog K.w) A (setItem (.ref l) (.ref sl) (.ref src)) Q E s := by
  obtain ⟨os, hos, hcs, hds⟩ := id hs
  have hTs : s.TypeIs (.ref sl) "slice" := ⟨os, hos, hcs⟩
  have hT : s.TypeIs (.ref l) "list" := ⟨_, hl, rfl⟩
  have hTv : s.TypeIs (.ref src) "list" := ⟨_, hv, rfl⟩
  unfold setItem
  refine wpAny_holding ?_
  refine wpAny_bind (wpAny_sequenceKey hT (by decide) ?_)
  refine wpAny_bind (wpAny_callSpecial?_slot (name := Str.ofString "__setitem__") hT slot_list_setitem
    (wpAny_call_entry slot_list_setitem hT entry_list_setitem ?_ (args_list_setitem _ _ _)))
  show wpAny _ _ (Builtin.List.listSubscript? (.ref sl) >>= _) _ _ s
  refine wpAny_bind ?_
  unfold Builtin.List.listSubscript?
  refine wpAny_bind (wpAny_specialOf hTs slice_no_index ?_)
  simp only [Option.isNone_none, if_true]
  refine wpAny_pure ?_
  show wpAny _ _ (typeOf (.ref sl) >>= _) _ _ s
  refine wpAny_bind (wpAny_typeOf hTs ?_)
  rw [if_neg (by decide)]
  rw [listSliceParts_eq]
  refine wpAny_bind (wpAny_bind (wpAny_field hos hds (x := .none) rfl (wpAny_bind (wpAny_listPart .none ?_))))
  rw [if_neg (by decide)]
  refine wpAny_bind (wpAny_field hos hds (x := .none) rfl (wpAny_bind (wpAny_listPart .none ?_)))
  refine wpAny_bind (wpAny_field hos hds (x := .none) rfl (wpAny_bind (wpAny_listPart .none (wpAny_pure ?_))))
  have hsr : Builtin.List.listSameRef (.ref l) (.ref src) = false := by
    show (l == src) = false
    simpa using hne
  dsimp only
  rw [hsr]
  rw [if_neg Bool.false_ne_true]
  refine wpAny_bind ?_
  unfold Builtin.List.listAllItems
  refine wpAny_bind (wpAny_typeOf hTv ?_)
  rw [if_pos (by decide)]
  refine wpAny_listItems hv rfl ?_
  refine wpAny_bind (wpAny_listItems hl rfl ?_)
  refine wpAny_bind (wpAny_of_eq (sliceIndices_raw none none none items.size (by simp)) ?_)
  have hb : sliceBounds none none none items.size = (0, (items.size : Int), 1) := rfl
  rw [hb]
  dsimp only
  rw [if_pos (by decide)]
  refine wpAny_bind (wpAny_rule ?_)
  have htl : Builtin.List.listTooLong (items.size + new.size) = false := by
    show decide (items.size + new.size > sizeLine) = false
    simpa using hz
  rw [htl, if_neg Bool.false_ne_true]
  refine wpAny_bind (wpAny_updateSeq hl rfl ?_)
  refine wpAny_bind (wpAny_letGo (wpAny_pure ⟨.none, rfl, wpAny_pure (h _ ?_)⟩))
  have e0 : (max (0 : Int) (items.size : Int)).toNat = items.size := by omega
  rw [e0]
  simp
/-- o[:] = v -/
noncomputable def putAll (vo va : V) (Q : List O → Prop) (hp : List O) : Prop := atL vo hp fun i l => ∃ new, lget va hp = some new ∧ va ≠ .r i ∧ l.length + new.length ≤ sizeLine ∧ Q (hp.set i (.lst new))
noncomputable def sPutAll (o a : XE) : XS := fun vs Q => a vs fun va => o vs fun vo => putAll vo va fun hp' => Q .next vs hp'
theorem s_putAll {o value : Expr} {p pos' pos : Pos} {po a : XE} (ha : SoundE K r env look value a) (ho : SoundE K r env look o po)
    (hs : swapsWith value (some (.Subscript o (.Slice none none none p) pos')) pos.line env = pure false) : SoundS K r env look (.Assign [.Subscript o (.Slice none none none p) pos'] value pos) (sPutAll po a) := by
  intro A ok vs Q hp ρ s E q FR H
  refine wpAny_Assign_Subscript (ha.then ok q FR H ?_) hs
  intro va hp₁ ρ₁ h₁ t₁ ra q₁ H₁ S₁ r₁ F₁
  refine ho.then ok (s := { s with heap := h₁, toks := t₁ }) q₁ F₁ H₁ ?_
  intro vo hp₂ ρ₂ h₂ t₂ ro q₂ H₂ S₂ r₂ F₂
  have ra' := r₁.step S₂ H₁
  refine wpAny_Slice (wpAny_pure (wpAny_pure (wpAny_pure ?_)))
  have H₃ : HRel K ρ₂ hp₂ (h₂.push { cls := .type "slice", data := .fields #[.none, .none, .none] }) := H₂.push _
  have S₃ : Step K ρ₂ h₂ ρ₂ (h₂.push { cls := .type "slice", data := .fields #[.none, .none, .none] }) := Step.push ..
  have sl : (h₂.push { cls := .type "slice", data := .fields #[.none, .none, .none] }).IsSliceOf h₂.objs.size .none .none .none := Heap.IsSliceOf.new ..
  have ro₃ := r₂.step S₃ H₂
  have ra₃ := ra'.step S₃ H₂
  obtain ⟨i, l, pp, vsl, n, rfl, e, ep, rfl, hpa, hL, d, new, hn, hne, hz, q⟩ := atL_rel (s := { s with heap := h₂.push { cls := .type "slice", data := .fields #[.none, .none, .none] }, toks := t₂ }) q₂ H₃ ro₃
  obtain ⟨a', vsn, n', rfl, hL', d'⟩ := lget_rel H₃ ra₃ hn
  have z := d.length
  have z' := d'.length
  simp only [Array.length_toList] at z z'
  have hap : pp.m ≠ a' := by
    cases va with
    | d x =>
      cases ra₃ with
      | list _ hm _ => exact fun e => hm (e ▸ List.mem_map.mpr ⟨pp, List.mem_of_getElem? ep, rfl⟩)
      | tuple h1 hm _ => exact fun e => hm (e ▸ List.mem_map.mpr ⟨pp, List.mem_of_getElem? ep, rfl⟩)
    | r j =>
      obtain ⟨pj, epj, ej⟩ := ra₃
      cases ej
      simp only [lget] at hn
      split at hn
      · rename_i lj elj
        obtain ⟨haj, _⟩ := H₃.at elj epj
        intro e'
        apply hne
        have h1 : (mu ρ₂)[i]? = some pp.m := by simp [mu, ep]
        have h2 : (mu ρ₂)[j]? = some pp.m := by simp [mu, epj, e', haj]
        have l1 := (List.getElem?_eq_some_iff.mp h1).1
        rw [(List.getElem?_inj l1 H₃.nd).mp (h1.trans h2.symm)]
      · cases hn
    | rng => cases hn
    | g => cases hn
  refine setItem_all (s := { s with heap := h₂.push { cls := .type "slice", data := .fields #[.none, .none, .none] }, toks := t₂ }) hL hL' hap sl (by omega) ?_
  intro f hf
  obtain ⟨H', S'⟩ := put_list (A := A) (s := { s with heap := h₂.push { cls := .type "slice", data := .fields #[.none, .none, .none] }, toks := t₂ }) (f := f) (l' := new) H₃ e ep hL hpa (by rw [hf]; exact d')
  exact ⟨.next, vs, _, ρ₂, _, t₂, rfl, q, (F₂.step H₂ S₃).step H₃ S', H', (((S₁.trans S₂).trans S₃).trans S').toS, trivial⟩
end
end Mine

set_option autoImplicit false
set_option linter.unusedVariables false
set_option linter.unusedSimpArgs false
namespace Mine
open PySem PySem.Spec PySem.Calls PyProof.Rows
section
variable {K : KX}
theorem b_plainK {fd : FuncData} {kn ps : List Str} (h : ∀ ras ks : List Value, ks.length = kn.length → ras.length + ks.length = ps.length → bindArgs fd ⟨ras, kn.zip ks⟩ = pure (ps.zip (ras ++ ks))) : SoundBind K fd kn ps (bPlain ps.length) := by
  intro A hh ρ hp s vas ras ks Q E hk q H R
  have hl := R.length
  rw [List.length_append] at hl
  have hq := q.1
  rw [h ras ks hk (by omega)]
  exact wpAny_pure ⟨vas, ras ++ ks, hp, ρ, s.heap, s.toks, rfl, rfl, by rw [List.length_append]; omega, q.2, H, Step.refl .., R⟩
/-- one parameter, the rest a tuple -/
noncomputable def bStar : BT := fun vas Q hp => match vas with
  | v :: rest => match datas rest with | some ds => ds.length ≤ sizeLine ∧ Q [v, .d (.tuple ds)] hp | none => False
  | [] => False
theorem b_star {fd : FuncData} {p1 p2 : Str} (h : ∀ (a : Value) (rest : List Value), bindArgs fd ⟨a :: rest, []⟩ = (newTuple rest >>= fun t => pure [(p1, a), (p2, t)])) : SoundBind K fd [] [p1, p2] bStar := by
  intro A hh ρ hp s vas ras ks Q E hk q H R
  cases ks with
  | cons _ _ => simp at hk
  | nil =>
    rw [List.append_nil] at R
    unfold bStar at q
    split at q
    · rename_i v rest
      cases R with | cons a b =>
      rename_i ra rs
      split at q
      · rename_i ds e
        have d := datas_rel b e
        have hz := d.length
        rw [show ([] : List Str).zip ([] : List Value) = [] from rfl, h]
        refine wpAny_bind (wpAny_newTuple ?_ (by omega))
        refine wpAny_pure ⟨[v, .d (.tuple ds)], [ra, .ref s.heap.objs.size], hp, ρ, _, s.toks, rfl, rfl, rfl, q.2, H.push _, Step.push .., ?_⟩
        exact .cons (a.step (Step.push K ..) H) (.cons (.tuple (n := 0) (vs := rs.toArray) (Heap.get?_push_size _ rfl) H.sizeMu (d.step (Step.push K ..) H)) .nil)
      · exact q.elim
    · exact q.elim
end
end Mine

set_option autoImplicit false
set_option linter.unusedVariables false
set_option linter.unusedSimpArgs false
namespace Mine
open PySem PySem.Spec PySem.Calls PyProof.Rows
theorem wpAny_callBorrowed {M : Model} {A : Around} {E : Value → Shared → Prop} {s : Shared} {f : Value} {pos : List Value} {Q : Value → Shared → Prop}
    (hc : codeAny M A (.call f ⟨pos, []⟩) (fun r s' => match r with | .ok (.ret v) => Q v s' | .ok _ => False | .error e => E e s') s) : wpAny M A (callBorrowed f pos) Q E s := by
  intro Γ p hΓ
  have h := hc (Γ.enter (.call f ⟨pos, []⟩) none p) p rfl (hΓ.enter _ none p (by intro x; cases x))
  have e : Sem.wp M Γ (callBorrowed f pos) (fun a _ s' => Q a s') (fun e _ s' => E e s') p s =
      wpCode M (Γ.enter (.call f ⟨pos, []⟩) none p) (fun r s' => match r with | .ok (.ret v) => Q v s' | .ok _ => False | .error e => E e s') p s := by
    unfold callBorrowed
    show wpCode M _ _ p s = _
    congr 1
    funext r s'
    cases r with
    | error e => rfl
    | ok f => cases f <;> rfl
  rw [e]; exact h
theorem slot_ci : Slot "callable_iterator" "__next__" "callable_iterator.__next__" :=
  .of (owner := "callable_iterator") (n := "__next__") (by rw [typeLookup_type, builtinLookup_eq_fast]; kernel_rfl) (by decide +kernel) (by decide +kernel) (by decide +kernel)
    (by first | exact .inl (by decide +kernel) | exact .inr (by decide +kernel)) (by rw [isSubtype_type]; kernel_rfl)
theorem entry_ci : entryFor table "callable_iterator.__next__" = some Builtin.«callable_iterator.__next__» := entryFor_of_tree (by kernel_rfl)
theorem args_ci (a : Value) : argsOk "callable_iterator.__next__" ⟨[a], []⟩ := by unfold argsOk; kernel_rfl
theorem slot_cis : Slot "callable_iterator" "__iter__" "callable_iterator.__iter__" :=
  .of (owner := "callable_iterator") (n := "__iter__") (by rw [typeLookup_type, builtinLookup_eq_fast]; kernel_rfl) (by decide +kernel) (by decide +kernel) (by decide +kernel)
    (by first | exact .inl (by decide +kernel) | exact .inr (by decide +kernel)) (by rw [isSubtype_type]; kernel_rfl)
theorem entry_cis : entryFor table "callable_iterator.__iter__" = some Builtin.«dict_keyiterator.__iter__» := entryFor_alias (id' := "dict_keyiterator.__iter__") (by kernel_rfl) rfl (by decide +kernel) (by kernel_rfl)
theorem args_cis (a : Value) : argsOk "callable_iterator.__iter__" ⟨[a], []⟩ := by unfold argsOk; kernel_rfl
section
variable {K : KX} {r : Nat} {ρ : Rho} {hp : List O}
/-- the end of an iterator that is no exception of the program -/
theorem stop_iter {α : Type} {A : Around} {s : Shared} {Q : α → Shared → Prop} {E : Value → Shared → Prop} (hh : A.handled = none)
    (h : ∀ h' e, (∀ b o, s.heap.get? b = some o → h'.get? b = some o) → ({ s with heap := h' } : Shared).TypeIs e "StopIteration" → E e { s with heap := h' }) : wpAny (model K.prog K.w) A (PySem.Builtin.SmallTypes.stopIteration : Sem α) Q E s := by
  show wpAny _ _ (newExc (.type "StopIteration") [] >>= _) _ _ _
  refine wpAny_bind ?_
  simp only [newExc, newTuple]
  refine wpAny_bind (wpAny_newObj_type ?_ (by size_fits))
  refine wpAny_bind (m := firstArgMember _ _) (wpAny_of_eq (a := Value.none) (by first | rfl | (simp only [firstArgMember]; rfl)) ?_)
  refine wpAny_newObj_type ?_ (by size_fits)
  simp only [raiseNew]
  refine wpAny_bind (wpAny_handled ?_)
  rw [hh]
  refine wpAny_bind (wpAny_pure (wpAny_throw ?_))
  exact h _ _ (fun b o e => Heap.get?_push_of_some _ (Heap.get?_push_of_some _ e)) ⟨_, Heap.get?_push_size _ rfl, rfl⟩

theorem borrows {A : Around} {s : Shared} {M f : Addr} {self : Value} {of : Obj} {fd : FuncData} {Q : Bool → Shared → Prop} {E : Value → Shared → Prop} (hM : s.heap.get? M = some (W.methodObj (.ref f) self)) (hf : s.heap.get? f = some of) (hd : of.data = .func fd) (h : Q true s) :
    wpAny (model K.prog K.w) A (borrowsExactly (.ref M)) Q E s := by
  unfold borrowsExactly
  refine wpAny_bind (wpAny_load hM ?_)
  show wpAny _ A (do match (← load f).data with | .func _ => pure true | _ => pure false) _ E s
  refine wpAny_bind (wpAny_load hf ?_)
  rw [hd]
  exact wpAny_pure h

noncomputable def nextC (i : Nat) (F : FT) (Q : Option V → List O → Prop) (hp : List O) : Prop := match hp[i]? with
  | some (.citer none) => Q none hp
  | some (.citer (some j)) => F [.r j] (fun v hp' => hp'[i]? = some (.citer (some j)) ∧ match v with
      | .d (.str x) => if (⟨#[]⟩ : Str) = x then Q none (hp'.set i (.citer none)) else Q (some v) hp'
      | _ => False) hp
  | _ => False
inductive PostN (K : KX) (ρ : Rho) (s : Shared) (Q : Option V → List O → Prop) (rr : Option Value) (s' : Shared) : Prop
  | mk (ov : Option V) (hp' : List O) (ρ' : Rho) (h' : Heap) (t : Nat) (e : s' = { s with heap := h', toks := t }) (q : Q ov hp') (H : HRel K ρ' hp' h') (S : Step K ρ s.heap ρ' h') (r : match ov, rr with | none, none => True | some v, some rv => VR ρ' h' v rv | _, _ => False)
theorem next_c {F : FT} {fd : FuncData} {body : List Stmt} (hF : SoundF K r (.ref K.readChar) [] F) (Y : FnAt K K.readChar fd body) {i : Nat} {Q : Option V → List O → Prop} {A : Around} (ok : OkA (r + 1) A) {s : Shared} {E : Value → Shared → Prop} {p : P}
    (q : nextC i F Q hp) (H : HRel K ρ hp s.heap) (ep : ρ[i]? = some p) : wpAny (model K.prog K.w) A (pyNext (.ref p.a)) (PostN K ρ s Q) E s := by
  have hh : A.in1.handled = none := ok.hh
  unfold nextC at q
  split at q
  · rename_i e
    obtain ⟨ea, o, vs, h1, h2, h3, rfl⟩ := H.at e ep
    rw [ea]
    have hT : s.TypeIs (.ref p.m) "callable_iterator" := ⟨o, h1, h2⟩
    unfold pyNext
    refine wpAny_bind (wpAny_attempt (wpAny_callSpecial?_slot (name := Str.ofString "__next__") hT slot_ci (wpAny_call_entry slot_ci hT entry_ci ?_ (args_ci _))))
    show wpAny _ _ (field (.ref p.m) 2 >>= _) _ _ s
    refine wpAny_bind (wpAny_field h1 h3 (x := .bool true) rfl ?_)
    rw [if_pos (by decide)]
    refine wpAny_bind (wpAny_rule (wpAny_bind (stop_iter hh ?_)))
    intro h' ev hk hTe
    refine wpAny_bind (wpAny_isInstance (T := "StopIteration") (b := true) hTe isSubtype_stop ?_)
    exact wpAny_pure ⟨none, hp, ρ, h', s.toks, rfl, q, H.grow hk, Step.grow hk, trivial⟩
  · rename_i j e
    obtain ⟨ea, o, vs, h1, h2, h3, hj, M, t, qq, rfl, hM, hMf, eq⟩ := H.at e ep
    rw [ea]
    have hT : s.TypeIs (.ref p.m) "callable_iterator" := ⟨o, h1, h2⟩
    obtain ⟨of, hof, hdf⟩ := Y.ob
    unfold pyNext
    refine wpAny_bind (wpAny_attempt (wpAny_callSpecial?_slot (name := Str.ofString "__next__") hT slot_ci (wpAny_call_entry slot_ci hT entry_ci ?_ (args_ci _))))
    show wpAny _ _ (field (.ref p.m) 2 >>= _) _ _ s
    refine wpAny_bind (wpAny_field h1 h3 (x := .bool false) rfl ?_)
    rw [if_neg (by decide)]
    refine wpAny_bind (wpAny_field h1 h3 (x := .ref M) rfl ?_)
    refine wpAny_bind (wpAny_attempt ?_)
    unfold callOutOfASlot
    refine wpAny_bind (borrows hM (H.keep _ _ hof Y.tb) hdf ?_)
    rw [if_pos rfl]
    have ok' : OkA r A.in1 := ⟨ok.hh, by have := ok.dp; show A.depth + r < _; omega, by have := ok.un; show A.units + 1 + _ + 200 < _; omega⟩
    refine wpAny_callBorrowed (W.method_call hM ?_)
    refine codeAny_mono (hF A.in1 ok' ρ hp s [.r j] [.ref qq.a] [] _ (fun _ _ => False) rfl q H (.cons ⟨qq, eq, rfl⟩ .nil)) ?_
    intro rr s' hr
    rcases rr with e' | (rv | _ | _ | _)
    · exact hr.elim
    all_goals first | exact hr.elim | skip
    obtain ⟨v, hp', ρ', h', t', rfl, ⟨e', q'⟩, H', S', rv'⟩ := hr
    have ep' := S'.get ep
    obtain ⟨_, o', vs', g1, g2, g3, gj, M', t2, q2, rfl, gM, gMf, geq⟩ := H'.at e' ep'
    dsimp only
    refine wpAny_bind (wpAny_field (s := { s with heap := h', toks := t' }) g1 g3 (x := .bool false) rfl ?_)
    rw [if_neg (by decide)]
    refine wpAny_bind (wpAny_field (s := { s with heap := h', toks := t' }) g1 g3 (x := .str ⟨#[]⟩ t2) rfl ?_)
    split at q'
    · rename_i x
      cases rv'
      refine wpAny_bind (wpAny_holding (wpAny_eqBool_str ?_))
      split at q'
      · rename_i hx
        rw [decide_eq_true hx]
        rw [if_neg (by decide)]
        refine wpAny_bind (wpAny_rule (wpAny_bind ?_))
        show wpAny _ _ (field (.ref p.m) 0 >>= _) _ _ _
        refine wpAny_bind (wpAny_field (s := { s with heap := h', toks := t' }) g1 g3 (x := .ref M') rfl ?_)
        refine wpAny_bind ?_
        unfold slotLetsGo
        refine wpAny_bind (borrows (s := { s with heap := h', toks := t' }) gM (H'.keep _ _ hof Y.tb) hdf ?_)
        rw [if_pos rfl]
        refine wpAny_pure ?_
        obtain ⟨oc, od, oda, osl⟩ := o'
        dsimp only at g2 g3
        subst g3
        have u1 : (h'.update p.m (Obj.mapFields fun x => x.setIfInBounds 0 .none)).get? p.m = some ⟨oc, od, .fields #[.none, .str ⟨#[]⟩ t2, .bool false], osl⟩ := Heap.get?_update_self _ g1 rfl
        have u2 : ((h'.update p.m (Obj.mapFields fun x => x.setIfInBounds 0 .none)).update p.m (Obj.mapFields fun x => x.setIfInBounds 1 .none)).get? p.m = some ⟨oc, od, .fields #[.none, .none, .bool false], osl⟩ := Heap.get?_update_self _ u1 rfl
        have u3 : (((h'.update p.m (Obj.mapFields fun x => x.setIfInBounds 0 .none)).update p.m (Obj.mapFields fun x => x.setIfInBounds 1 .none)).update p.m (Obj.mapFields fun x => x.setIfInBounds 2 (.bool true))).get? p.m = some ⟨oc, od, .fields #[.none, .none, .bool true], osl⟩ := Heap.get?_update_self _ u2 rfl
        refine wpAny_bind (wpAny_setField (s := { s with heap := h', toks := t' }) g1 rfl (by simp) ?_)
        refine wpAny_bind (wpAny_setField u1 rfl (by simp) ?_)
        refine wpAny_setField u2 rfl (by simp) ?_
        have hs : Heap.SameBut p.m h' (((h'.update p.m (Obj.mapFields fun x => x.setIfInBounds 0 .none)).update p.m (Obj.mapFields fun x => x.setIfInBounds 1 .none)).update p.m (Obj.mapFields fun x => x.setIfInBounds 2 (.bool true))) :=
          ((Heap.SameBut.update ..).trans (Heap.SameBut.update ..)).trans (Heap.SameBut.update ..)
        have H₂ := H'.own (o := .citer none) ep' (List.getElem?_eq_some_iff.mp e').1 hs ⟨ea, _, _, u3, g2, rfl, rfl⟩ ⟨_, u3⟩
        have S₂ : Step K ρ' h' ρ' _ := Step.own (List.mem_of_getElem? ep') hs ⟨_, u3⟩
        refine stop_iter hh ?_
        intro h'' ev hk hTe
        refine wpAny_bind (wpAny_isInstance (T := "StopIteration") (b := true) hTe isSubtype_stop ?_)
        exact wpAny_pure ⟨none, _, ρ', h'', t', rfl, q', H₂.grow hk, (S'.trans S₂).trans (Step.grow hk), trivial⟩
      · rename_i hx
        rw [decide_eq_false hx]
        rw [if_pos (by decide)]
        exact wpAny_pure ⟨_, rfl, wpAny_pure ⟨some (.d (.str x)), hp', ρ', h', t', rfl, q', H', S', .str ..⟩⟩
    · exact q'.elim
  · exact q.elim
end
end Mine

set_option autoImplicit false
set_option linter.unusedVariables false
set_option linter.unusedSimpArgs false
namespace Mine
open PySem PySem.Spec PySem.Calls PyProof.Rows
section
variable {K : KX} {mg mb : Str → Option Value} {r : Nat} {env : Env} {look : Str → Option Nat} {ρ : Rho} {hp : List O} {Kf : W.Frag}
/-- a loop over an iterator that calls -/
noncomputable def forC (i : Nat) (F : FT) (tgt : XT) (body : XS) (Q : QS) : Nat → List (Option V) → List O → Prop
  | 0, _, _ => False
  | n + 1, vs, hp => nextC i F (fun ov hp' => match ov with
    | none => Q .next vs hp'
    | some v => tgt v vs (fun vs' hp'' => body vs' (fun fl vs'' hp3 => match fl with
      | .next => forC i F tgt body Q n vs'' hp3
      | .cont => forC i F tgt body Q n vs'' hp3
      | .brk => Q .next vs'' hp3
      | .ret v => Q (.ret v) vs'' hp3) hp'') hp') hp
noncomputable def isC : List O → Nat → Prop := fun hp i => match hp[i]? with | some (.citer _) => True | _ => False
noncomputable def sForC (F : FT) (tgt : XT) (it : XE) (body : XS) : XS := fun vs Q => it vs fun v hp => match v with | .r i => isC hp i ∧ ∃ n, forC i F tgt body Q n vs hp | _ => False
theorem s_forC {F : FT} {fd : FuncData} {bodyF : List Stmt} (hF : SoundF K r (.ref K.readChar) [] F) (Y : FnAt K K.readChar fd bodyF) {target iter : Expr} {body : List Stmt} {pos : Pos} {tgt : XT} {it : XE} {b : XS}
    (ht : SoundT K (r + 1) env look target tgt) (hi : SoundE K (r + 1) env look iter it) (hb : SoundSs K (r + 1) env look body b)
    (hs : ∀ x, foldedSetIterable iter env x = pure x) (hlo : ∀ it v, letOwnedTupleGo target it v = pure ()) : SoundS K (r + 1) env look (.For target iter body [] pos) (sForC F tgt it b) := by
  intro A ok vs Q hp ρ s E q FR H
  refine wpAny_For (hi.then ok q FR H ?_) hs
  intro v hp₁ ρ₁ h₁ t₁ rv q₁ H₁ S₁ r₁ F₁
  split at q₁
  · rename_i i
    obtain ⟨p, ep, rfl⟩ := r₁
    obtain ⟨hc, N, q₁⟩ := q₁
    have hT : ({ s with heap := h₁, toks := t₁ } : Shared).TypeIs (.ref p.a) "callable_iterator" := by
      unfold isC at hc
      split at hc
      · rename_i c e
        obtain ⟨ea, o, vs, g1, g2, _⟩ := H₁.at e ep
        exact ⟨o, ea ▸ g1, g2⟩
      · exact hc.elim
    refine wpAny_pyIter_slot hT slot_cis (wpAny_call_entry slot_cis hT entry_cis ?_ (args_cis _))
    show wpAny _ _ (ret (.ref p.a)) _ _ _
    refine wpAny_pure ⟨_, rfl, "callable_iterator", _, hT, slot_ci.lookup, ?_⟩
    refine codeAny_forLoop_any (fun n s' => ∃ vs' hp' ρ' h' t', s' = { s with heap := h', toks := t' } ∧ forC i F tgt b Q n vs' hp' ∧ FRel K env look vs' ρ' h' ∧ HRel K ρ' hp' h' ∧ StepS K env ρ₁ h₁ ρ' h') ?_ N
      ⟨vs, hp₁, ρ₁, h₁, t₁, rfl, q₁, F₁, H₁, StepS.refl ..⟩
    rintro n s' ⟨vs', hp', ρ', h', t', rfl, q', F', H', S'⟩
    cases n with
    | zero => exact q'.elim
    | succ n =>
      have ep' := pre_get S'.pre ep
      refine wpAny_mono (next_c (s := { s with heap := h', toks := t' }) hF Y ok q' H' ep') ?_ (fun _ _ x => x)
      rintro rr s'' ⟨ov, hp₂, ρ₂, h₂, t₂, rfl, q₂, H₂, S₂, rv₂⟩
      have F₂ := F'.step H' S₂
      have S₂' := S'.trans S₂.toS
      cases ov with
      | none =>
        cases rr with
        | some _ => exact rv₂.elim
        | none => exact wpAny_execs_nil ⟨.next, vs', hp₂, ρ₂, h₂, t₂, rfl, q₂, F₂, H₂, S₁.toS.trans S₂', trivial⟩
      | some v =>
        cases rr with
        | none => exact rv₂.elim
        | some rx =>
          refine wpAny_of_eq (hlo _ _) ?_
          refine wpAny_mono (ht A ok v vs' _ hp₂ ρ₂ { s with heap := h₂, toks := t₂ } _ rx q₂ F₂ H₂ rv₂) ?_ (fun _ _ x => x)
          rintro _ s₃ ⟨vs₃, hp₃, ρ₃, h₃, t₃, rfl, q₃, F₃, H₃, S₃⟩
          refine wpAny_mono (hb A ok vs₃ _ hp₃ ρ₃ { s with heap := h₃, toks := t₃ } _ q₃ F₃ H₃) ?_ (fun _ _ x => x)
          rintro fl s₄ ⟨af, vs₄, hp₄, ρ₄, h₄, t₄, rfl, q₄, F₄, H₄, S₄, fr⟩
          have S₄' := (S₂'.trans S₃).trans S₄
          cases af <;> cases fl <;> first | exact fr.elim | skip
          · exact ⟨n, Nat.lt_succ_self n, vs₄, hp₄, ρ₄, h₄, t₄, rfl, q₄, F₄, H₄, S₄'⟩
          · exact ⟨.next, vs₄, hp₄, ρ₄, h₄, t₄, rfl, q₄, F₄, H₄, S₁.toS.trans S₄', trivial⟩
          · exact ⟨n, Nat.lt_succ_self n, vs₄, hp₄, ρ₄, h₄, t₄, rfl, q₄, F₄, H₄, S₄'⟩
          · exact ⟨.ret _, vs₄, hp₄, ρ₄, h₄, t₄, rfl, q₄, F₄, H₄, S₁.toS.trans S₄', fr⟩
  · exact q₁.elim
end
end Mine

set_option autoImplicit false
set_option linter.unusedVariables false
set_option linter.unusedSimpArgs false
namespace Mine
open PySem PySem.Spec PySem.Calls PyProof.Rows Builtin Builtin.ObjectAttr
theorem entry_iter : entryFor table "iter" = some Builtin.«iter» := entryFor_of_tree (by kernel_rfl)
theorem args_iter2 (a b : Value) : argsOk "iter" ⟨[a, b], []⟩ := by unfold argsOk; kernel_rfl
theorem kind_iter : builtinKind "iter" = none := by decide +kernel
theorem plain_iter : plainId "iter" = true := by decide +kernel
theorem meth_call : typeLookup (.type "method") "__call__" = pure (some (.builtin "method.__call__")) := by rw [typeLookup_type, builtinLookup_eq_fast]; kernel_rfl
section
variable {K : KX} {mg mb : Str → Option Value} {r : Nat} {env : Env} {look : Str → Option Nat} {ρ : Rho} {hp : List O} {Kf : W.Frag}
/-- iter(o.m, '') -/
noncomputable def xIter (C : Addr) (a : XE) : XE := fun vs Q => a vs fun v hp => atI v hp C fun i _ => Q (.r hp.length) (hp ++ [.citer (some i)])
theorem e_iter (G : KG K mg mb) (X : KF K Kf) {C : Addr} {f name : Str} {o : Expr} {ap p cp pos : Pos} {ck : Nat} {a : XE} (ho : SoundE K r env look o a)
    (hk : env.kindOf f = some .globalImplicit) (hg : mg f = none) (hm : mb f = some (.builtin "iter")) (hd : (f == ("__debug__" : Str)) = false)
    (hpg : W.plainGet Kf C name = true) (hh : W.hasDictIn Kf C = true) (ha : W.findIn Kf (.ref C) name = some (some (.ref K.readChar))) (hft : W.typeIn Kf (.ref K.readChar) = some (.type "function"))
    (hgf : W.specialIn Kf (.ref K.readChar) "__get__" = some (some (.builtin "function.__get__"))) (htk : W.takesIn Kf (.ref K.readChar) = some false) (hcn : W.copiedNames.contains name = false) (hn : name ∉ K.attrs)
    (he : eval (.Attribute o name ap) env = (do
      let o' ← eval o env
      standAt ap.atName
      let r ← holding [o'] (getAttr o' name true)
      letTemporaryGo o o' r
      pure r)) (hgo : ∀ o' r, letTemporaryGo o o' r = pure ())
    (he1 : starEach [.Attribute o name ap, .Constant (.str ⟨#[]⟩) ck cp] env = (false, eval (.Attribute o name ap) env) :: starEach [.Constant (.str ⟨#[]⟩) ck cp] env)
    (he2 : starEach [.Constant (.str ⟨#[]⟩) ck cp] env = (false, eval (.Constant (.str ⟨#[]⟩) ck cp) env) :: starEach [] env)
    (hb : (backTo pos (starEach [.Attribute o name ap, .Constant (.str ⟨#[]⟩) ck cp] env)).any (·.1) = false) :
    SoundE K r env look (.Call (.Name f p) [.Attribute o name ap, .Constant (.str ⟨#[]⟩) ck cp] [] pos) (xIter C a) := by
  intro A ok vs Q hp ρ s E q FR H
  refine wpAny_Call_Name_kw (Calls.Name_function_global FR.kd hk (Calls.loadGlobal_builtin (mg := mg) (mb := mb) ?_ hg ?_ hm ?_) hd)
  · rw [FR.gl]; exact H.nsOf G.g G.g'
  · rw [FR.bi]; exact H.nsOf G.b G.b'
  refine callWith_builtin hb (spliced_more ?_ he1)
  rw [he]
  refine wpAny_bind (ho.then ok q FR H ?_)
  intro v hp₁ ρ₁ h₁ t₁ rv q₁ H₁ S₁ r₁ F₁
  obtain ⟨i, pp, fs, ox, od, m, rfl, rfl, q₁, e, ep, I, hdd, hod, n, hfld, hout⟩ := atI_rel q₁ H₁ r₁
  have Xn := X.now H₁
  refine wpAny_bind (wpAny_standAt (wpAny_bind (wpAny_holding ?_)))
  refine W.get_bind (s := { s with heap := h₁, toks := t₁ }) Xn I (W.plainGet_of hpg).1 (W.findObj_fn hh ha hgf htk hcn (by rw [lookIn_ns n hod, hout name hn])) (W.plainGet_of hpg).2 ?_
  refine wpAny_call (W.fn_get (s := { s with heap := h₁, toks := t₁ + 1 }) Xn hft (W.handed_on rfl ?_))
  rw [hgo]
  refine wpAny_bind (wpAny_pure (wpAny_pure ?_))
  refine spliced_more (wpAny_Constant_str ?_) he2
  refine spliced_none ?_
  have n1 : h₁.get? h₁.objs.size = none := get?_beyond (Nat.le_refl _)
  have gM : (h₁.push (W.methodObj (.ref K.readChar) (.ref pp.a))).get? h₁.objs.size = some (W.methodObj (.ref K.readChar) (.ref pp.a)) := Heap.get?_push_size _ rfl
  refine call_function_entry kind_iter plain_iter entry_iter (args_iter2 _ _) ?_
  have keep : ∀ b o, h₁.get? b = some o → ((h₁.push (W.methodObj (.ref K.readChar) (.ref pp.a))).push { cls := .type "callable_iterator", data := .fields #[.ref h₁.objs.size, .str ⟨#[]⟩ (t₁ + 1), .bool false] }).get? b = some o :=
    fun b o e => Heap.get?_push_of_some _ (Heap.get?_push_of_some _ e)
  have n2 : h₁.get? (h₁.objs.size + 1) = none := get?_beyond (Nat.le_succ _)
  have gI : ((h₁.push (W.methodObj (.ref K.readChar) (.ref pp.a))).push { cls := .type "callable_iterator", data := .fields #[.ref h₁.objs.size, .str ⟨#[]⟩ (t₁ + 1), .bool false] }).get? (h₁.objs.size + 1) = some { cls := .type "callable_iterator", data := .fields #[.ref h₁.objs.size, .str ⟨#[]⟩ (t₁ + 1), .bool false] } := by
    have := Heap.get?_push_size (o := { cls := .type "callable_iterator", data := .fields #[.ref h₁.objs.size, .str ⟨#[]⟩ (t₁ + 1), .bool false] }) (h₁.push (W.methodObj (.ref K.readChar) (.ref pp.a))) rfl
    rwa [Heap.size_push] at this
  have gM' := Heap.get?_push_of_some { cls := .type "callable_iterator", data := .fields #[.ref h₁.objs.size, .str ⟨#[]⟩ (t₁ + 1), .bool false] } gM
  have hil : i < hp₁.length := (List.getElem?_eq_some_iff.mp e).1
  obtain ⟨H', S'⟩ := H₁.add keep (p := ⟨h₁.objs.size + 1, h₁.objs.size + 1, [h₁.objs.size]⟩) (o := .citer (some i)) n2 ⟨_, gI⟩ (by
      intro a ha
      simp at ha; subst ha
      exact ⟨n1, ⟨_, gM'⟩, Nat.ne_of_lt (Nat.lt_succ_self _)⟩) (by
      refine ⟨rfl, _, _, gI, rfl, rfl, hil, h₁.objs.size, t₁ + 1, pp, rfl, gM', by simp, ?_⟩
      rw [List.getElem?_append_left (by rw [H₁.len]; exact hil)]; exact ep)
  show wpAny _ _ (someArgs "iter" 1 2 _ >>= _) _ _ _
  refine wpAny_bind (wpAny_pure ?_)
  show wpAny _ _ (specialOf (.ref h₁.objs.size) "__call__" >>= _) _ _ _
  refine wpAny_bind (wpAny_specialOf (T := "method") ⟨_, gM, rfl⟩ meth_call ?_)
  rw [if_neg (by decide)]
  refine wpAny_bind (wpAny_rule (wpAny_bind (wpAny_newObj_type ?_ (by size_fits))))
  refine wpAny_pure ⟨_, rfl, ?_⟩
  rw [Heap.size_push]
  exact ⟨.r hp₁.length, _, _, _, _, rfl, q₁, H', S₁.trans S', ⟨⟨h₁.objs.size + 1, h₁.objs.size + 1, [h₁.objs.size]⟩, by rw [← H₁.len]; simp, rfl⟩⟩
end
end Mine

set_option autoImplicit false
set_option linter.unusedVariables false
set_option linter.unusedSimpArgs false
set_option maxRecDepth 100000
namespace Mine
open PySem PySem.Spec PySem.Calls PyProof.Rows Builtin Builtin.ObjectAttr
theorem fslot : Slot "function" "__getattribute__" "object.__getattribute__" :=
  .of (owner := "object") (n := "__getattribute__") (by rw [typeLookup_type, builtinLookup_eq_fast]; kernel_rfl) (by decide +kernel) (by decide +kernel) (by decide +kernel)
    (by first | exact .inl (by decide +kernel) | exact .inr (by decide +kernel)) (by rw [isSubtype_type]; kernel_rfl)
theorem flk2 : typeLookup (.type "function") "__getattr__" = pure none := by rw [typeLookup_type, builtinLookup_eq_fast]; kernel_rfl
theorem flk3 : typeLookup (.type "function") "read" = pure none := by rw [typeLookup_type, builtinLookup_eq_fast]; kernel_rfl
theorem fentry : entryFor table "object.__getattribute__" = some Builtin.«object.__getattribute__» := entryFor_of_tree (by kernel_rfl)
theorem fargs (a b : Value) : argsOk "object.__getattribute__" ⟨[a, b], []⟩ := by unfold argsOk; kernel_rfl
section
variable {prog : Program} {w : World} {A : Around} {E : Value → Shared → Prop} {h : Heap} {g : Array GenState} {d : Drawn} {t : Nat} {os : OsState} {a D : Addr} {o : Obj} {m : Str → Option Value} {v : Value} {fd : FuncData}

theorem fn_entry {tk : Tok} {Q : Fin → Shared → Prop} (hx : h.get? a = some o) (hc : o.cls = .type "function") (hdt : o.data = .func fd) (hdi : o.dict = some D) (n : h.Ns D m) (hm : m "read" = some v) (hq : Q (.done (.ret v)) ⟨h, g, d, t, os⟩) :
    wpAny (model prog w) A (Builtin.«object.__getattribute__» ⟨[.ref a, .str "read" tk], []⟩) Q E ⟨h, g, d, t, os⟩ := by
  have hT : (⟨h, g, d, t, os⟩ : Shared).TypeIs (.ref a) "function" := ⟨_, hx, hc⟩
  unfold Builtin.«object.__getattribute__»
  refine wpAny_bind (wpAny_pure (a := (Value.ref a, [Value.str "read" tk])) ?_)
  refine wpAny_bind (wpAny_pure (wpAny_bind (wpAny_typeOf hT (wpAny_bind ?_))))
  unfold find
  refine wpAny_bind (wpAny_of_eq flk3 (wpAny_bind (wpAny_pure (wpAny_bind (wpAny_pure ?_)))))
  dsimp only
  unfold ownThenClass
  refine wpAny_bind ?_
  unfold inOwnDict ownDict
  refine wpAny_bind (wpAny_bind (wpAny_loadPart hx ?_))
  rw [hdt]
  unfold instanceDict
  refine wpAny_bind (wpAny_loadPart hx ?_)
  rw [hc]
  dsimp only
  rw [hdi]
  refine wpAny_pure ?_
  refine wpAny_nsGet (s := ⟨h, g, d, t, os⟩) n ?_
  rw [hm]
  exact wpAny_bind (wpAny_rule (wpAny_pure (wpAny_pure hq)))
theorem fn_getAttr {Q : Value → Shared → Prop} {ex : Bool} (hx : h.get? a = some o) (hc : o.cls = .type "function") (hdt : o.data = .func fd) (hdi : o.dict = some D) (n : h.Ns D m) (hm : m "read" = some v) (hv : W.handedIn v = true)
    (hq : Q v ⟨h, g, d, t + 1, os⟩) : wpAny (model prog w) A (getAttr (.ref a) "read" ex) Q E ⟨h, g, d, t, os⟩ := by
  have hT1 : (⟨h, g, d, t + 1, os⟩ : Shared).TypeIs (.ref a) "function" := ⟨_, hx, hc⟩
  unfold getAttr
  refine wpAny_bind (wpAny_mkText ?_)
  unfold getAttrBy
  refine wpAny_holding (wpAny_bind (wpAny_typeOf hT1 (wpAny_bind (wpAny_of_eq fslot.lookup ?_))))
  dsimp only
  rw [if_neg (by decide)]
  unfold getAttrByItsOwn
  refine wpAny_bind (wpAny_pure (wpAny_bind (wpAny_attempt (wpAny_holding ?_))))
  unfold callGetattribute
  rw [if_neg (show ¬ (ex && onTheHeap (Value.builtin "object.__getattribute__")) = true by cases ex <;> decide)]
  unfold boundAndCalled
  rw [fslot.bind]
  refine wpAny_bind (wpAny_pure (wpAny_call ?_))
  refine codeAny_call_builtin fslot.plain fentry (fslot.check _ _ _ _ _ _ _ _ hT1 (fargs _ _) (fn_entry hx hc hdt hdi n hm ?_))
  show wpAny _ _ (handedOut v) _ _ _
  rw [W.handedOut_of hv]
  exact wpAny_pure hq
theorem fn_getMethod {Q : Value × List Value → Shared → Prop} {pl : Sem Bool} (hx : h.get? a = some o) (hc : o.cls = .type "function") (hdt : o.data = .func fd) (hdi : o.dict = some D) (n : h.Ns D m) (hm : m "read" = some v) (hv : W.handedIn v = true)
    (hq : Q (v, []) ⟨h, g, d, t + 1, os⟩) : wpAny (model prog w) A (getMethod (.ref a) "read" pl) Q E ⟨h, g, d, t, os⟩ := by
  have hT : (⟨h, g, d, t, os⟩ : Shared).TypeIs (.ref a) "function" := ⟨_, hx, hc⟩
  have hcan := PySem.F.canon_object_ga
  unfold getMethod
  refine wpAny_bind (wpAny_specialOf hT fslot.lookup ?_)
  dsimp only
  rw [hcan, if_neg (by decide)]
  refine wpAny_bind (wpAny_specialOf hT flk2 ?_)
  rw [if_neg (by decide)]
  refine wpAny_bind (wpAny_specialOf hT flk3 ?_)
  exact wpAny_bind (fn_getAttr hx hc hdt hdi n hm hv (wpAny_pure hq))
end
end Mine

set_option autoImplicit false
set_option linter.unusedVariables false
set_option linter.unusedSimpArgs false
set_option maxRecDepth 100000
namespace Mine
open PySem PySem.Spec PySem.Calls PyProof.Rows
theorem pop_type : typeOf (.builtin "list.pop") = pure (.type "method_descriptor") := by kernel_rfl
section
variable {K : KX} {mg mb : Str → Option Value} {r : Nat} {ρ : Rho} {hp : List O}
/-- the text of `read` -/
structure ReadText (K : KX) (size : Str) (body : List Stmt) : Prop where
  bd : K.readFd.body = .stmts body
  form : ∃ p1 p2 p3 k p4 p5 p6 p7 p8 p9 p10, body = [.If (.Compare (.Name "left" p1) [.Eq] [.List [] p2] p3) [.Return (some (.Constant (.str ⟨#[]⟩) k p4)) p5] [] p6,
    .Return (some (.Call (.Attribute (.Name "left" p7) "pop" p8) [] [] p9)) p10] ∧ (p8.endLine == p9.line) = true
  co : K.readFd.scope.isCoroutine = false
  gen : K.readFd.scope.isGenerator = false
  kd : K.readFd.scope.kind = .function
  nc : ∀ x ∈ K.readFd.scope.names, x.2 ≠ .cell
  lf : K.readFd.scope.names.lookup ("left" : Str) = some NameKind.free
  sz : K.readFd.scope.names.lookup size = some NameKind.local
  bind : ∀ (fd : FuncData), fd.params = K.readFd.params → fd.defaults = .none → fd.kwdefaults = .none → ∀ v, bindArgs fd ⟨[v], []⟩ = pure [(size, v)]

noncomputable def strL (l : List Nat) : PyData := .list (l.reverse.map fun c => .str ⟨#[c]⟩)
noncomputable def readS (j : Nat) (Q : V → List O → Prop) (hp : List O) : Prop := match hp[j]? with
  | some (.stream []) => Q (.d (.str ⟨#[]⟩)) hp
  | some (.stream (c :: l)) => (l.length + 1 ≤ sizeLine ∧ okD (strL (c :: l)) = true) ∧ Q (.d (.str ⟨#[c]⟩)) (hp.set j (.stream l))
  | _ => False
theorem read_call (G : KG K mg mb) {size : Str} {body : List Stmt} (X : ReadText K size body) {A : Around} (ok : OkA (r + 1) A) {j : Nat} {p : P} {l : List Nat} {s : Shared} {Q : V → List O → Prop} {E : Value → Shared → Prop} (H : HRel K ρ hp s.heap) (e : hp[j]? = some (.stream l)) (ep : ρ[j]? = some p)
    (q : readS j Q hp) {v : Value} : ∃ d : SD, SA K.readFd s.heap p d ∧ ∀ t, codeAny (model K.prog K.w) A (.call (.ref d.R) ⟨[v], []⟩) (fun r s' => match r with | .ok (.ret v) => PostE K ρ s Q v s' | .ok _ => False | .error e => E e s') { s with toks := t } := by
  obtain ⟨d, Y, f1, f4⟩ := H.at e ep
  refine ⟨d, Y, fun t => ?_⟩
  refine codeAny_call_function (fd := d.rfd) (s := { s with toks := t }) (by have := ok.dp; omega) Y.c1 Y.c4 (by rw [Y.c9]; exact X.co) (by rw [Y.c9]; exact X.gen) (Y.c8.trans X.bd) ⟨d.cc, d.oc', d.cvs, d.t, Y.d1, Y.d2, Y.d3, Y.d4⟩ ?_
  rw [X.bind d.rfd Y.c7 Y.c12 Y.c13 v]
  refine wpAny_pure ?_
  rw [Y.c9, Y.c11]
  refine wpAny_newFunctionEnv X.nc (by intro x hx; simp at hx; subst hx; exact X.sz) (fun h₁ hns hsb => ?_) X.kd
  dsimp only at hns hsb ⊢
  have keep : ∀ b o, s.heap.get? b = some o → h₁.get? b = some o := by
    intro b o eb
    have hb : b ≠ s.heap.objs.size := Nat.ne_of_lt (Heap.lt_size eb)
    exact (hsb.2 b hb).trans (Heap.get?_push_of_some _ eb)
  have H₁ : HRel K ρ hp h₁ := H.grow keep
  have S₁ : Step K ρ s.heap ρ h₁ := Step.grow keep
  refine ⟨H₁.limOf G, codeAny_func ?_⟩
  obtain ⟨p1, p2, p3, k, p4, p5, p6, p7, p8, p9, p10, rfl, hline⟩ := X.form
  generalize hE : newEnv K.readFd.scope s.heap.objs.size d.rfd.globals [(("left" : Str), d.c)] (d.rfd.qualname ++ Str.ofString ".<locals>.") (some d.R) d.rfd.code none d.rfd.builtins = env
  have hkd : env.scope.kind = .function := by rw [← hE]; exact X.kd
  have hkl : env.kindOf "left" = some .free := by rw [← hE]; exact X.lf
  have hcl : env.cells.lookup ("left" : Str) = some d.c := by rw [← hE]; rfl
  have left : ∀ {s' : Shared} {pos : Pos} {Q' : Value → Shared → Prop} {E' : Value → Shared → Prop} {A' : Around}, s'.heap.get? d.c = some d.oc → Q' (.ref p.m) s' → wpAny (model K.prog K.w) A' (eval (.Name "left" pos) env) Q' E' s' := by
    intro s' pos Q' E' A' hc' hq'
    exact wpAny_Name (wpAny_loadName_free hkd hkl hcl ⟨d.oc, hc', Y.e2⟩ hq' (by decide)) (by decide)
  refine wpAny_execs_cons (wpAny_If (wpAny_isTrue_Compare1 (left (keep _ _ Y.e1) ?_) rfl))
  have ok' : (A.deeper env).units + 60 < cLine := by have := ok.un; show A.units + 3 + 60 < _; omega
  show wpAny _ _ (do standAt p2; newList (← spliced (backTo p2 (starEach [] env)))) _ _ _
  refine wpAny_bind (wpAny_standAt (wpAny_bind (spliced_none (wpAny_newList ?_ (Nat.zero_le _)))))
  have new₂ : (h₁.push { cls := .type "list", data := .seq ([] : List Value).toArray }).get? h₁.objs.size = some { cls := .type "list", data := .seq ([] : List Value).toArray } := Heap.get?_push_size _ rfl
  have keep₂ : ∀ b o, h₁.get? b = some o → (h₁.push { cls := .type "list", data := .seq ([] : List Value).toArray }).get? b = some o := fun b o e => Heap.get?_push_of_some _ e
  have H₂ : HRel K ρ hp (h₁.push { cls := .type "list", data := .seq ([] : List Value).toArray }) := H₁.push { cls := .type "list", data := .seq ([] : List Value).toArray }
  have S₂ : Step K ρ s.heap ρ (h₁.push { cls := .type "list", data := .seq ([] : List Value).toArray }) := S₁.trans (Step.push ..)
  generalize (h₁.push { cls := .type "list", data := .seq ([] : List Value).toArray }) = h₂ at new₂ keep₂ H₂ S₂ ⊢
  have L₁ : IsL h₂ p.m d.vs d.n := keep₂ _ _ (keep _ _ f1)
  have f4' : DRs h₂ (mu ρ) d.vs.toList (l.reverse.map fun c => .str ⟨#[c]⟩) := f4.step S₂ H
  obtain ⟨as, ra⟩ := f4'.reads
  have R1 : Reads h₂ (.ref p.m) (.list (l.reverse.map fun c => .str ⟨#[c]⟩)) _ := .list L₁ rfl rfl ra
  have R2 : Reads h₂ (.ref h₁.objs.size) (.list []) _ := .list new₂ rfl rfl .nil
  have hlay : (PyData.list (l.reverse.map fun c => .str ⟨#[c]⟩)).canLay0 = true := by
    unfold readS at q
    rw [e] at q
    cases l with
    | nil => rfl
    | cons c l => exact (okD_lay q.1.2).1
  refine SeqAt.compareEq_reads R1 R2 hlay rfl ?_ ?_
  · have : (PyData.list []).depth ≤ 50 := by decide
    have := Nat.min_le_right (PyData.list (l.reverse.map fun c => .str ⟨#[c]⟩)).depth (PyData.list []).depth
    omega
  refine wpAny_truthy_bool ?_
  unfold readS at q
  rw [e] at q
  cases l with
  | nil =>
    refine wpAny_execs_cons (wpAny_Return_some (wpAny_Constant_str ?_))
    exact ⟨.d (.str ⟨#[]⟩), hp, ρ, _, _, rfl, q, H₂, S₂, .str ..⟩
  | cons x l =>
    have hne : (PyData.list ((x :: l).reverse.map fun c => .str ⟨#[c]⟩)).eqv (.list []) = false := by
      cases hh : (x :: l).reverse.map (fun c => (PyData.str ⟨#[c]⟩ : PyData)) with
      | nil => simp at hh
      | cons a b => rfl
    rw [hne]
    refine wpAny_execs_nil ?_
    refine wpAny_execs_cons (wpAny_Return_some ?_)
    refine wpAny_Call_method_lateS rfl rfl hline (left (keep₂ _ _ (keep _ _ Y.e1)) ?_)
    refine ⟨"list", "list.pop", PySem.F.plainAttrs_list, PySem.F.slot_list_pop, pop_type, ⟨_, L₁, rfl⟩, (fun a e => by cases e; exact ⟨_, L₁, rfl⟩), callWith_builtin rfl (spliced_none ?_)⟩
    have z := f4'.length
    simp only [Array.length_toList, List.length_map, List.length_reverse, List.length_cons] at z
    obtain ⟨y, ey, dy⟩ := f4'.get (k := d.vs.size - 1) (x := .str ⟨#[x]⟩) (by rw [z]; simp)
    refine call_meets PySem.F.slot_list_pop ⟨_, L₁, rfl⟩ PySem.F.entry_list_pop (PySem.F.args_list_pop_1 _) (MeetsSeq.list_pop_last p.m d.vs d.n y (by simpa using ey) (by have := q.1.1; omega)) ⟨L₁, ?_⟩
    have hs : Heap.SameBut p.m h₂ (h₂.update p.m (Obj.mapSeq fun xs => xs.eraseIdxIfInBounds (d.vs.size - 1))) := Heap.SameBut.update ..
    have hu := L₁.update (fun xs => xs.eraseIdxIfInBounds (d.vs.size - 1))
    have S₃ : Step K ρ h₂ ρ (h₂.update p.m (Obj.mapSeq fun xs => xs.eraseIdxIfInBounds (d.vs.size - 1))) := Step.own (List.mem_of_getElem? ep) hs ⟨_, hu⟩
    have H₃ : HRel K ρ (hp.set j (.stream l)) (h₂.update p.m (Obj.mapSeq fun xs => xs.eraseIdxIfInBounds (d.vs.size - 1))) := by
      refine H₂.own ep (List.getElem?_eq_some_iff.mp e).1 hs ?_ ⟨_, hu⟩
      have fx := H.fx p (List.mem_of_getElem? ep)
      have hpm : p.m ∈ mu ρ := List.mem_map.mpr ⟨p, List.mem_of_getElem? ep, rfl⟩
      have kk : ∀ b o, b ∈ p.f → s.heap.get? b = some o → (h₂.update p.m (Obj.mapSeq fun xs => xs.eraseIdxIfInBounds (d.vs.size - 1))).get? b = some o := by
        intro b o hb eb
        refine (hs.2 b ?_).trans (keep₂ _ _ (keep _ _ eb))
        rintro rfl; exact (fx _ hb).1 hpm
      exact ⟨{ d with vs := d.vs.eraseIdxIfInBounds (d.vs.size - 1), n := _ }, (Y.keeps (fun b o e m => kk b o m e)).vs _ _, hu, by
        show DRs _ _ (d.vs.eraseIdxIfInBounds (d.vs.size - 1)).toList _
        rw [erase_last]
        have := (f4'.step S₃ H₂).dropLast
        simpa using this⟩
    exact ⟨.d (.str ⟨#[x]⟩), _, ρ, _, _, rfl, q.2, H₃, S₂.trans S₃, dy.step S₃ H₂⟩
end
end Mine

set_option autoImplicit false
set_option linter.unusedVariables false
set_option linter.unusedSimpArgs false
set_option maxRecDepth 100000
namespace Mine
open PySem PySem.Spec PySem.Calls PyProof.Rows
section
variable {K : KX} {mg mb : Str → Option Value} {r : Nat} {env : Env} {look : Str → Option Nat} {ρ : Rho} {hp : List O}
/-- o.read(1) -/
noncomputable def xRead (a : XE) : XE := fun vs Q => a vs fun v hp => match v with | .r j => readS j Q hp | _ => False
theorem e_read (G : KG K mg mb) {size : Str} {body : List Stmt} (X : ReadText K size body) {o : Expr} {apos pos cp : Pos} {ck : Nat} {i : Int} {a : XE} (ho : SoundE K (r + 1) env look o a)
    (hbase : attributeBase o "read" env (eval o env) = eval o env) (hline : (apos.endLine == pos.line) = true)
    (he : backTo pos (starEach [.Constant (.int i) ck cp] env) = [(false, eval (.Constant (.int i) ck cp) env)]) :
    SoundE K (r + 1) env look (.Call (.Attribute o "read" apos) [.Constant (.int i) ck cp] [] pos) (xRead a) := by
  intro A ok vs Q hp ρ s E q FR H
  rw [arm_eval_Call, hbase]
  refine wpAny_bind (ho.then ok q FR H ?_)
  intro v hp₁ ρ₁ h₁ t₁ rv q₁ H₁ S₁ r₁ F₁
  refine wpAny_bind (wpAny_standAt ?_)
  have hpos : methodCallPos true o env apos pos = pure pos := by unfold methodCallPos; simp [hline]
  have hform : methodCallForm ([Expr.Constant (.int i) ck cp].length + ([] : List Keyword).length) (backTo pos (starEach [.Constant (.int i) ck cp] env)) (backToKw pos (keywordEach [] env)) = true := by
    rw [he]; rfl
  unfold methodCall
  rw [hform, he]
  split at q₁
  · rename_i j
    obtain ⟨p, ep, rfl⟩ := r₁
    obtain ⟨l, e⟩ : ∃ l, hp₁[j]? = some (.stream l) := by
      unfold readS at q₁
      split at q₁
      · exact ⟨_, by assumption⟩
      · exact ⟨_, by assumption⟩
      · exact q₁.elim
    obtain ⟨d, Y, hc⟩ := read_call (s := { s with heap := h₁, toks := t₁ }) (Q := Q) (E := E) (v := .int i (t₁ + 1)) G X ok H₁ e ep q₁
    refine wpAny_bind (wpAny_holding (fn_getMethod Y.a1 Y.a2 Y.a4 Y.a3 Y.b3 Y.b6 rfl ?_))
    refine wpAny_bind (wpAny_of_eq hpos ?_)
    refine callWith_function_kw (o := d.oR) (fd := d.rfd) ?_
    show wpAny _ A (evalArgs (.ref d.R) true [(false, eval (.Constant (.int i) ck cp) env)] []) _ _ _
    refine Calls.evalArgs_plain (Calls.spliced_cons (wpAny_Constant_int (Calls.spliced_nil ?_)))
    refine ⟨⟨Y.c1, Y.c4⟩, wpAny_mono (wpAny_call (hc _)) (fun _ _ z => PostE.after S₁ z) (fun _ _ z => z)⟩
  · exact q₁.elim
end
end Mine

set_option autoImplicit false
set_option linter.unusedVariables false
namespace Mine
open PySem PySem.Spec PySem.Calls PyProof.Rows
/-- what a comprehension's names must be, to be computed -/
noncomputable def compOk (scope : Scope) (env : Env) (look : Str → Option Nat) (on : List Str) : Bool :=
  decide (scope.kind = .function) && scope.names.all fun x => decide (x.2 ≠ .cell) &&
    (decide (x.2 ≠ .free) || ((decide (env.kindOf x.1 = some .cell) || decide (env.kindOf x.1 = some .free)) && (lk on x.1).isNone)) &&
    (decide (x.2 ≠ .local) || (((lk on x.1).isSome || (look x.1).isNone) && decide (scope.names.lookup x.1 = some .local)))
theorem compOk_out {scope : Scope} {env : Env} {look : Str → Option Nat} {on : List Str} (h : compOk scope env look on = true) :
    scope.kind = .function ∧ (∀ x ∈ scope.names, x.2 ≠ .cell) ∧ (∀ x ∈ scope.names, x.2 = .free → (env.kindOf x.1 = some .cell ∨ env.kindOf x.1 = some .free) ∧ lk on x.1 = none) ∧
      (∀ x ∈ scope.names, x.2 = .local → lk on x.1 = none → look x.1 = none) ∧ (∀ x ∈ scope.names, x.2 = .local → scope.names.lookup x.1 = some .local) := by
  unfold compOk at h
  simp only [Bool.and_eq_true, decide_eq_true_eq, List.all_eq_true, Bool.or_eq_true, Option.isNone_iff_eq_none] at h
  obtain ⟨h1, h2⟩ := h
  refine ⟨h1, fun x hx => (h2 x hx).1.1, fun x hx hf => ?_, fun x hx hl hn => ?_, fun x hx hl => ?_⟩
  · rcases (h2 x hx).1.2 with z | z
    · exact absurd hf z
    · exact z
  · rcases (h2 x hx).2 with z | z
    · exact absurd hl z
    · rcases z.1 with y | y
      · rw [hn] at y; cases y
      · exact y
  · rcases (h2 x hx).2 with z | z
    · exact absurd hl z
    · exact z.2
section
variable {K : KX} {r : Nat} {env : Env} {look : Str → Option Nat}
theorem e_compB {elt target iter : Expr} {ifs : List Expr} {scope : Scope} {pos : Pos} (on : List Str) {m : Bool} {tgt : XT} {it : XE} {pi : XB} {pe : XE}
    (hit : SoundE K r env look iter it)
    (ht : ∀ cl C, SoundTL K r (compEnvC scope cl C env) (lkC on look) target tgt) (hi : ∀ cl C, SoundI K r (compEnvC scope cl C env) (lkC on look) ifs pi) (he : ∀ cl C, SoundE K r (compEnvC scope cl C env) (lkC on look) elt pe)
    (hok : compOk scope env look on = true) (hs : ∀ x, foldedSetIterable iter env x = pure x) :
    SoundE K r env look (.ListComp elt [⟨target, iter, ifs, 0⟩] scope pos) (xComp m on.length tgt it pi pe) :=
  let ⟨a, b, c, d, e⟩ := compOk_out hok
  e_comp on hit ht hi he a b c d e hs
theorem s_compB {x : Str} {k : Nat} {pos' spos : Pos} {elt target iter : Expr} {ifs : List Expr} {scope : Scope} {pos : Pos} (on : List Str) {m : Bool} {tgt : XT} {it : XE} {pi : XB} {pe : XE}
    (hit : SoundE K r env look iter it)
    (ht : ∀ cl C, SoundTL K r (compEnvC scope cl C env) (lkC on look) target tgt) (hi : ∀ cl C, SoundI K r (compEnvC scope cl C env) (lkC on look) ifs pi) (he : ∀ cl C, SoundE K r (compEnvC scope cl C env) (lkC on look) elt pe)
    (hok : compOk scope env look on = true) (hs : ∀ x, foldedSetIterable iter env x = pure x)
    (hkx : env.kindOf x = some .local) (hl : look x = some k) (hsw : swapsWith (.ListComp elt [⟨target, iter, ifs, 0⟩] scope pos) (some (.Name x pos')) spos.line env = pure true) :
    SoundS K r env look (.Assign [.Name x pos'] (.ListComp elt [⟨target, iter, ifs, 0⟩] scope pos) spos) (sAssign k (xComp m on.length tgt it pi pe)) :=
  let ⟨a, b, c, d, e⟩ := compOk_out hok
  s_comp on hit ht hi he a b c d e hs hkx hl hsw
end
end Mine

set_option autoImplicit false
set_option linter.unusedVariables false
set_option linter.unusedSimpArgs false
set_option maxRecDepth 100000
namespace Mine
open PySem PySem.Spec PySem.Calls PyProof.Rows Builtin Builtin.Re
theorem re_slot : Slot "re.Pattern" "search" "re.Pattern.search" :=
  .of (owner := "re.Pattern") (n := "search") (by rw [typeLookup_type, builtinLookup_eq_fast]; kernel_rfl) (by decide +kernel) (by decide +kernel) (by decide +kernel)
    (by first | exact .inl (by decide +kernel) | exact .inr (by decide +kernel)) (by rw [isSubtype_type]; kernel_rfl)
theorem re_entry : entryFor table "re.Pattern.search" = some Builtin.«re.Pattern.search» := entryFor_of_tree (by kernel_rfl)
theorem re_args (a b : Value) : argsOk "re.Pattern.search" ⟨[a, b], []⟩ := by unfold argsOk; kernel_rfl
theorem re_type : typeOf (.builtin "re.Pattern.search") = pure (.type "method_descriptor") := by kernel_rfl
theorem re_plain : PlainAttrs "re.Pattern" := ⟨⟨"object.__getattribute__", by rw [typeLookup_type, builtinLookup_eq_fast]; kernel_rfl, by decide +kernel⟩, by rw [typeLookup_type, builtinLookup_eq_fast]; kernel_rfl⟩

noncomputable def nameCode : Array Nat := #[14, 10, 4, 1, 1, 22, 0, 31, 16, 127, 0, 13, 7, 22, 0, 31, 16, 127, 0, 1]
noncomputable def valueCode : Array Nat := #[14, 14, 4, 1, 1, 9, 4294966783, 0, 0, 2147483648, 0, 0, 0, 0, 0, 13, 11, 9, 4294966783, 0, 0, 2147483648, 0, 0, 0, 0, 0, 1]
noncomputable def okC (c : Nat) : Bool := decide (32 ≤ c) && decide (c < 127)
theorem inSet_name {c : Nat} (h : okC c = true) (seen : Sre.Seen) : ∃ seen', Sre.inSet nameCode c 20 5 true seen = .ok (false, seen') := by
  simp only [okC, Bool.and_eq_true, decide_eq_true_eq] at h
  refine ⟨((seen.add 22).add 16).add 0, ?_⟩
  unfold Sre.inSet
  have e1 : Sre.ops[nameCode.getD (5 + 0) 0]? = some .RANGE := rfl
  simp only [e1]
  rw [if_neg (by simp [nameCode]; omega)]
  unfold Sre.inSet
  have e2 : Sre.ops[nameCode.getD (5 + 3 + 0) 0]? = some .LITERAL := rfl
  simp only [e2]
  rw [if_neg (by simp [nameCode]; omega)]
  unfold Sre.inSet
  have e3 : Sre.ops[nameCode.getD (5 + 3 + 2 + 0) 0]? = some .FAILURE := rfl
  simp only [e3]
  rfl
theorem val_bits : ∀ c : Fin 127, 32 ≤ c.val → (valueCode.getD (5 + (1 + c.val / 32)) 0).testBit (c.val % 32) = false := by decide +kernel
theorem inSet_value {c : Nat} (h : okC c = true) (seen : Sre.Seen) : ∃ seen', Sre.inSet valueCode c 28 5 true seen = .ok (false, seen') := by
  simp only [okC, Bool.and_eq_true, decide_eq_true_eq] at h
  refine ⟨(seen.add 9).add 0, ?_⟩
  unfold Sre.inSet
  have e1 : Sre.ops[valueCode.getD (5 + 0) 0]? = some .CHARSET := rfl
  simp only [e1]
  have := val_bits ⟨c, h.2⟩ h.1
  simp only at this
  rw [if_neg (by rw [this]; simp)]
  unfold Sre.inSet
  have e3 : Sre.ops[valueCode.getD (5 + 9 + 0) 0]? = some .FAILURE := rfl
  simp only [e3]
  rfl
noncomputable def okCode (code : Array Nat) : Prop := code = nameCode ∨ code = valueCode
theorem inSet_ok {code : Array Nat} (hc : okCode code) {c : Nat} (h : okC c = true) (seen : Sre.Seen) : ∃ seen', Sre.inSet code c code.size 5 true seen = .ok (false, seen') := by
  rcases hc with rfl | rfl
  · exact inSet_name h seen
  · exact inSet_value h seen
theorem admitted_none {m : Sre.M} (hc : okCode m.code) (ht : ∀ k, k < m.lim → okC (m.text.getD k 0) = true) : ∀ (fuel s : Nat) (seen : Sre.Seen), ∃ seen', Sre.M.admitted m fuel s seen = .ok (none, seen')
  | 0, s, seen => ⟨_, rfl⟩
  | fuel + 1, s, seen => by
    unfold Sre.M.admitted
    by_cases hs : s ≥ m.lim
    · exact ⟨seen, by rw [if_pos hs]⟩
    · rw [if_neg hs]
      obtain ⟨seen', e⟩ := inSet_ok hc (ht s (by omega)) seen
      rw [e]
      exact admitted_none hc ht fuel (s + 1) seen'
theorem from_none {m : Sre.M} (hc : okCode m.code) (ht : ∀ k, k < m.lim → okC (m.text.getD k 0) = true) (s : Nat) (first : Bool) : ∃ seen', m.attemptFrom s first = { m with seen := seen', answer := some false } := by
  unfold Sre.M.attemptFrom
  have : m.hasFirstSet = true := by
    unfold Sre.M.hasFirstSet
    rcases hc with e | e <;> rw [e] <;> decide +kernel
  rw [this]
  obtain ⟨seen', e⟩ := admitted_none hc ht (m.lim + 1 - s) s m.seen
  rw [if_neg (by decide), e]
  exact ⟨seen', rfl⟩
theorem search_none {code text : Array Nat} (hc : okCode code) (ht : ∀ k, k < text.size → okC (text.getD k 0) = true) :
    (Sre.forSearch code text 0 0 text.size false).outcome = none ∧ (Sre.forSearch code text 0 0 text.size false).answer = some false ∧ (Sre.forSearch code text 0 0 text.size false).frames = [] := by
  unfold Sre.forSearch
  dsimp only
  split
  · exact ⟨rfl, rfl, rfl⟩
  · rename_i h
    generalize hm : ({ (_ : Sre.M) with lastStart := _ } : Sre.M) = m
    have e1 : m.code = code := by rw [← hm]; rfl
    have e2 : m.text = text := by rw [← hm]; rfl
    have e3 : m.lim = text.size := by rw [← hm]; rfl
    have e4 : m.outcome = none := by rw [← hm]; rfl
    have e5 : m.frames = [] := by rw [← hm]; rfl
    obtain ⟨seen', e⟩ := from_none (m := m) (by rw [e1]; exact hc) (by rw [e2, e3]; exact ht) 0 true
    rw [e]
    exact ⟨e4, rfl, e5⟩
theorem run_none {m : Sre.M} (h1 : m.outcome = none) (h2 : m.answer = some false) (h3 : m.frames = []) : m.runFor reTurnSteps = { m with outcome := some .failed } := by
  have s1 : m.step = { m with outcome := some .failed } := by
    unfold Sre.M.step
    rw [h1, h2, h3]
    rfl
  show Sre.M.runFor (3 + 1) m = _
  unfold Sre.M.runFor
  rw [h1, s1]
  rw [if_neg (by decide)]
  unfold Sre.M.runFor
  rfl

theorem re_named (v : Value) : reNamed "re.Pattern.search" "search" ["string", "pos", "endpos"] 1 [v] [] = pure [some v, none, none] := rfl
/-- a pattern of the fixed heap that asks for signs that stand in no clean text -/
structure ReAt (K : KX) (a : Addr) : Prop where
  ob : ∃ o fs c oc vs n, K.h0.get? a = some o ∧ o.cls = .type "re.Pattern" ∧ o.data = .fields fs ∧ fs.getD 5 .none = .ref c ∧ reRawNat (fs.getD 2 .none) = 0 ∧ reRawNat (fs.getD 6 .none) = 0 ∧
    K.h0.get? c = some oc ∧ oc.cls = .type "tuple" ∧ oc.data = .seq vs n ∧ okCode ((vs.map reRawOf).map (·.toNat)) ∧ c ≠ K.tb
  tb : a ≠ K.tb
noncomputable def cleanS (x : Str) : Bool := x.cps.toList.all okC
theorem for_rules {M : Model} {A : Around} {E : Value → Shared → Prop} {s : Shared} {m : Sre.M} {l : List Nat} {Q : PUnit → Shared → Prop} (q : Q ⟨⟩ s) :
    wpAny M A (forIn l PUnit.unit fun i _ => if m.seen.has i = true then (do rule (Sre.names.getD i ""); pure (ForInStep.yield PUnit.unit)) else (pure (ForInStep.yield PUnit.unit) : Sem (ForInStep PUnit))) Q E s := by
  induction l with
  | nil => exact wpAny_pure q
  | cons i l ih =>
    rw [List.forIn_cons]
    refine wpAny_bind ?_
    split
    · exact wpAny_bind (wpAny_rule (wpAny_pure ih))
    · exact wpAny_pure ih
section
variable {K : KX} {r : Nat} {env : Env} {look : Str → Option Nat}
theorem re_call {A : Around} {s : Shared} {ρ : Rho} {hp : List O} {a : Addr} {x : Str} {t : Tok} {E : Value → Shared → Prop} {Q : Value → Shared → Prop} (R : ReAt K a) (H : HRel K ρ hp s.heap) (hx : cleanS x = true) (hz : x.length ≤ sizeLine) (q : Q .none s) :
    wpAny (model K.prog K.w) A (call (.builtin "re.Pattern.search") [.ref a, .str x t]) Q E s := by
  obtain ⟨o, fs, c, oc, vs, n, e1, e2, e3, e4, e5, e6, e7, e8, e9, hc, hct⟩ := R.ob
  have g1 := H.keep _ _ e1 R.tb
  have g7 := H.keep _ _ e7 hct
  have hT : s.TypeIs (.ref a) "re.Pattern" := ⟨o, g1, e2⟩
  refine wpAny_call_entry re_slot hT re_entry ?_ (re_args _ _)
  show wpAny _ _ (reTarget "re.Pattern.search" "search" ⟨[.ref a, .str x t], []⟩ >>= _) _ _ s
  refine wpAny_bind ?_
  unfold reTarget
  dsimp only
  rw [re_named]
  refine wpAny_bind (wpAny_pure ?_)
  dsimp only
  refine wpAny_bind (wpAny_pure (wpAny_bind (wpAny_pure (wpAny_bind (wpAny_fieldsOf g1 e3 ?_)))))
  refine wpAny_bind (m := reTextOf _) ?_
  unfold reTextOf
  refine wpAny_bind (wpAny_pure ?_)
  refine wpAny_pure ?_
  dsimp only
  rw [e6]
  rw [if_neg (by decide)]
  refine wpAny_bind (wpAny_pure ?_)
  try rw [if_neg (by decide)]
  refine wpAny_bind ?_
  unfold reRawItems
  rw [e4]
  refine wpAny_bind (wpAny_seqItems g7 e9 (wpAny_pure (wpAny_pure ?_)))
  dsimp only
  rw [e5]
  have h63 : (2 ^ 63 - 1 : Int).toNat = 2 ^ 63 - 1 := by decide
  have h' : x.cps.size ≤ sizeLine := hz
  rw [sizeLine_eq] at h'
  have hl : Min.min (2 ^ 63 - 1 : Int).toNat x.cps.size = x.cps.size := Nat.min_eq_right (by omega)
  rw [hl]
  have ht : ∀ k, k < x.cps.size → okC (x.cps.getD k 0) = true := by
    intro k hk
    have := List.all_eq_true.mp hx (x.cps[k]) (by simp)
    simpa [Array.getD, hk] using this
  obtain ⟨m1, m2, m3⟩ := search_none hc ht
  have m4 := run_none m1 m2 m3
  rw [Option.getD_some]
  revert m4
  show (Sre.forSearch _ x.cps 0 0 x.cps.size false).runFor reTurnSteps = _ → wpAny _ _ (reAnswer _ (Sre.forSearch _ x.cps 0 0 x.cps.size false)) _ _ _
  generalize Sre.forSearch _ x.cps 0 0 x.cps.size false = m
  intro m4
  unfold reAnswer reRunToEnd
  refine wpAny_bind (wpAny_bind ?_)
  have e64 : (2 ^ 64 : Nat) = (2 ^ 64 - 1) + 1 := by decide
  rw [e64]
  generalize (2 ^ 64 - 1 : Nat) = N
  unfold reDrive
  dsimp only
  rw [m4]
  rw [if_pos (by rfl)]
  refine wpAny_pure (wpAny_bind ?_)
  refine for_rules ?_
  exact wpAny_pure (wpAny_pure ⟨.none, rfl, q⟩)
end
end Mine

set_option autoImplicit false
set_option linter.unusedVariables false
namespace Mine
open PySem PySem.Spec PySem.Calls PyProof.Rows
section
variable {K : KX} {r : Nat} {env : Env} {look : Str → Option Nat}
/-- o.search(x) of a clean text: None -/
noncomputable def xRe (ps : List Addr) (a b : XE) : XE := fun vs Q => a vs fun v hp => match v with
  | .g (.ref p) => p ∈ ps ∧ b vs (fun w hp => match w with
    | .d (.str x) => cleanS x = true ∧ x.length ≤ sizeLine ∧ Q (.d .none) hp
    | _ => False) hp
  | _ => False
theorem e_re {ps : List Addr} (X : ∀ p ∈ ps, ReAt K p ∧ ∀ o, K.h0.get? p = some o → o.dict = none) {o e : Expr} {apos pos : Pos} {a b : XE} (ho : SoundE K r env look o a) (hb : SoundE K r env look e b)
    (hbase : attributeBase o "search" env (eval o env) = eval o env)
    (hfew : ((backTo pos (starEach [e] env)).all (fun x => !x.1) && (backToKw pos (keywordEach [] env)).all (fun x => x.1.isSome)
      && decide ([e].length + ([] : List Keyword).length + (if ([] : List Keyword).isEmpty then 0 else 1) < 30)) = true)
    (he : starEach [e] env = (false, eval e env) :: starEach [] env)
    (hline : (apos.endLine == pos.line) = true) : SoundE K r env look (.Call (.Attribute o "search" apos) [e] [] pos) (xRe ps a b) := by
  intro A ok vs Q hp' ρ s E q F H
  refine wpAny_Call_method_lateS hbase hfew hline (ho.then ok q F H ?_)
  intro vo hp₁ ρ₁ h₁ t₁ ra q₁ H₁ S₁ r₁ F₁
  split at q₁
  · rename_i v p
    obtain ⟨rfl, hv⟩ := r₁
    obtain ⟨hp, q₁⟩ := q₁
    have ls : SoundL K r env look [e] (lCons b lNil) := l_cons hb l_nil he
    have base := ls A ok pos vs (fun l hp => match l with
      | [.d (.str x)] => cleanS x = true ∧ x.length ≤ sizeLine ∧ Q (.d .none) hp
      | _ => False) hp₁ ρ₁ { s with heap := h₁, toks := t₁ } E (by
        show b vs _ hp₁
        refine cast ?_ q₁
        congr 1
        funext w hp
        cases w with
        | d x => cases x <;> rfl
        | _ => rfl) F₁ H₁
    obtain ⟨o, fs, c, oc, vs', n, e1, e2, _⟩ := (X p hp).1.ob
    have ed := (X p hp).2 o e1
    have g1 := H₁.keep _ _ e1 (X p hp).1.tb
    refine ⟨"re.Pattern", "re.Pattern.search", re_plain, re_slot, re_type, ⟨o, g1, e2⟩, (fun a' e' => by cases e'; exact ⟨o, g1, ed⟩), callWith_builtin ?_ ?_⟩
    · have := hfew
      simp only [Bool.and_eq_true, List.all_eq_true, Bool.not_eq_true'] at this
      rw [List.any_eq_false]
      intro y hy; simpa using this.1.1 y hy
    · refine wpAny_mono base ?_ (fun _ _ x => x)
      rintro rvs s' ⟨l', hp₂, ρ₂, h₂, t₂, rfl, q₂, H₂, S₂, r₂⟩
      split at q₂
      · rename_i x
        cases r₂ with
        | cons ra rb =>
          cases rb
          cases ra with
          | str _ t => exact re_call (X _ hp).1 H₂ q₂.1 q₂.2.1 (PostE.after (S₁.trans S₂) (PostE.pure0 (s := { s with heap := h₂, toks := t₂ }) q₂.2.2 H₂ DR.none))
      · exact q₂.elim
  · exact q₁.elim
noncomputable def sDead : XS := fun _ _ _ => False
theorem s_dead {e : Stmt} : SoundS K r env look e sDead := fun A ok vs Q hp ρ s E q F H => q.elim
end
end Mine

set_option autoImplicit false
set_option linter.unusedVariables false
set_option linter.unusedSimpArgs false
set_option maxRecDepth 100000
namespace Mine
open PySem PySem.Spec PySem.Calls PyProof.Rows Builtin Builtin.ObjectAttr
theorem sslot : Slot "function" "__setattr__" "object.__setattr__" :=
  .of (owner := "object") (n := "__setattr__") (by rw [typeLookup_type, builtinLookup_eq_fast]; kernel_rfl) (by decide +kernel) (by decide +kernel) (by decide +kernel)
    (by first | exact .inl (by decide +kernel) | exact .inr (by decide +kernel)) (by rw [isSubtype_type]; kernel_rfl)
theorem sargs (a b c : Value) : argsOk "object.__setattr__" ⟨[a, b, c], []⟩ := by unfold argsOk; kernel_rfl
theorem fmro : ∃ l, mroOf (.type "function") = pure l ∧ ∀ self, refuseLoop self "__setattr__" l = pure () := by
  refine ⟨[.type "function", .type "object"], by kernel_rfl, fun self => ?_⟩
  kernel_rfl
section
variable {prog : Program} {w : World} {A : Around} {E : Value → Shared → Prop} {h : Heap} {g : Array GenState} {d : Drawn} {t : Nat} {os : OsState} {a : Addr} {o : Obj} {v : Value} {fd : FuncData}
theorem fn_setAttr {Q : Unit → Shared → Prop} (hx : h.get? a = some o) (hc : o.cls = .type "function") (hdt : o.data = .func fd) (hdi : o.dict = none)
    (hq : ∀ h' D m tk, h.get? D = none → h'.get? a = some { o with dict := some D } → h'.Ns D m → m "read" = some v → (∀ y, y ≠ ("read" : Str) → m y = none) →
      (∀ b ob, b ≠ a → h.get? b = some ob → h'.get? b = some ob) → Q () ⟨h', g, d, tk, os⟩) :
    wpAny (model prog w) A (setAttr (.ref a) "read" v) Q E ⟨h, g, d, t, os⟩ := by
  have hT : ∀ t, (⟨h, g, d, t, os⟩ : Shared).TypeIs (.ref a) "function" := fun t => ⟨_, hx, hc⟩
  obtain ⟨l, hl, hpass⟩ := fmro
  unfold setAttr
  refine wpAny_bind (wpAny_mkText ?_)
  refine wpAny_bind ?_
  refine wpAny_callSpecial?_slot (hT _) sslot ?_
  refine wpAny_call_entry sslot (hT _) PySem.F.entry_object_setattr ?_ (sargs _ _ _)
  rw [W.osa_eq]
  refine wpAny_bind ?_
  rw [refuse_eq]
  refine wpAny_bind (wpAny_typeOf (hT _) (wpAny_bind (wpAny_of_eq hl (wpAny_of_eq (hpass _) ?_))))
  refine wpAny_bind (wpAny_typeOf (hT _) (wpAny_bind (wpAny_of_eq flk3 (wpAny_bind (wpAny_pure ?_)))))
  dsimp only
  unfold storeInOwnDict
  refine wpAny_bind (wpAny_pure ?_)
  rw [if_neg (by decide)]
  refine wpAny_bind ?_
  unfold ownDictForStores
  dsimp only
  unfold instanceDict
  refine wpAny_bind (wpAny_loadPart hx ?_)
  rw [hc]
  dsimp only
  rw [hdi]
  dsimp only
  rw [if_neg (by decide)]
  rw [hdt]
  dsimp only
  have hxs : a ≠ h.objs.size := Nat.ne_of_lt (Heap.lt_size hx)
  have hx₁ : (h.push { cls := .type "dict", data := .dict #[] }).get? a = some o := Heap.get?_push_of_some _ hx
  refine wpAny_bind (wpAny_alloc' ?_)
  refine wpAny_bind (wpAny_update' hx₁ ?_)
  unfold dictMade
  dsimp only
  rw [if_neg (by decide)]
  refine wpAny_pure ?_
  have hgd : ((h.push { cls := .type "dict", data := .dict #[] }).update a fun o => { cls := o.cls, dict := some h.objs.size, data := o.data, slots := o.slots }).get? h.objs.size
      = some { cls := .type "dict", data := .dict #[] } :=
    (Heap.get?_update_ne _ _ _ _ hxs.symm).trans (Heap.get?_push_at rfl rfl)
  have hnd : ((h.push { cls := .type "dict", data := .dict #[] }).update a fun o => { cls := o.cls, dict := some h.objs.size, data := o.data, slots := o.slots }).Ns h.objs.size (fun _ => none) :=
    ⟨_, #[], _, hgd, rfl, fun e he => absurd he (by simp), fun _ => rfl⟩
  dsimp only
  unfold storeInDict newKeyGuard
  refine wpAny_bind (wpAny_pure (wpAny_bind (wpAny_nsSet1 (Heap.Ns1.of_empty hnd) fun h' hn' hs => ?_)))
  obtain ⟨oD, esD, epD, hoD, hdD, hcD⟩ := hn'.count (Within.cons "read" v Within.nil)
  refine wpAny_bind (wpAny_lookBehind hoD (by rw [hdD]; exact pastItsLine_dict (Nat.le_trans hcD (by rw [List.length_cons, List.length_nil, sizeLine_eq]; omega))) ?_)
  refine wpAny_pure ⟨_, rfl, wpAny_pure ?_⟩
  have hx' : h'.get? a = some { cls := o.cls, dict := some h.objs.size, data := o.data, slots := o.slots } := by
    refine (hs.2 a hxs).trans (Heap.get?_update_self _ hx₁ ?_)
    have hfr := (Heap.get?_some_iff.mp hx).2
    obtain ⟨oc, od, odt, osl⟩ := o
    cases odt <;> first | rfl | exact hfr
  refine hq h' h.objs.size _ _ (get?_beyond (Nat.le_refl _)) hx' hn'.ns (if_pos rfl) (fun y hy => if_neg hy) (fun b ob hb e => ?_)
  exact (hs.2 b (Nat.ne_of_lt (Heap.lt_size e))).trans ((Heap.get?_update_ne _ _ _ _ hb).trans (Heap.get?_push_of_some _ e))
end
end Mine

set_option autoImplicit false
set_option linter.unusedVariables false
namespace Mine
open PySem PySem.Builtin PySem.Builtin.Str PySem.StrLaws
noncomputable def scan (p : List Nat) : Nat → List Nat → Nat → List Nat
  | _, [], _ => []
  | k + 1, _ :: l, i => scan p k l (i + 1)
  | 0, c :: l, i => if p.isPrefixOf (c :: l) then i :: scan p (p.length - 1) l (i + 1) else scan p 0 l (i + 1)
/-- each p of the text, from left to right, gives way to q -/
noncomputable def repL (p q : List Nat) : Nat → List Nat → List Nat
  | _, [] => []
  | k + 1, _ :: l => repL p q k l
  | 0, c :: l => if p.isPrefixOf (c :: l) then q ++ repL p q (p.length - 1) l else c :: repL p q 0 l
theorem sub_pre {x p : List Nat} {i : Nat} (h : (x.drop i) ≠ []) : (i + p.length ≤ x.length ∧ subAt ⟨x.toArray⟩ ⟨p.toArray⟩ i = true) ↔ p.isPrefixOf (x.drop i) = true := by
  rw [subAt_eq]
  rw [List.isPrefixOf_iff_prefix, List.prefix_iff_eq_take]
  simp only [Str.length, List.size_toArray, beq_iff_eq]
  constructor
  · rintro ⟨h1, h2⟩; exact h2.symm
  · intro e
    refine ⟨?_, e.symm⟩
    have := congrArg List.length e
    rw [List.length_take, List.length_drop] at this
    have : i < x.length := by
      rcases Nat.lt_or_ge i x.length with q | q
      · exact q
      · exact absurd (List.drop_eq_nil_of_le q) h
    omega
theorem occ_scan (x p : List Nat) (hp : p ≠ []) : ∀ (l : List Nat) (i k : Nat) (st : Array Nat × Nat), x.drop i = l → i ≤ x.length → (st.2 ≤ i ∧ k = 0 ∨ st.2 = i + k) → st.1.size ≤ i →
    (forIn (List.range' i (l.length + 1)) st (occBody ⟨x.toArray⟩ ⟨p.toArray⟩ x.length (x.length + 1))).run.fst.toList = st.1.toList ++ scan p k l i := by
  have hpl : 0 < p.length := List.length_pos_iff.mpr hp
  intro l
  induction l with
  | nil =>
    intro i k st e hi hf hs
    have hil : x.length ≤ i := by have := congrArg List.length e; simp at this; omega
    rw [List.length_nil, Nat.zero_add, show List.range' i 1 = [i] from rfl, List.forIn_cons]
    unfold occBody
    rw [if_neg (by
      rintro ⟨⟨_, h⟩, _⟩
      have : i + p.length ≤ x.length := by simpa [Str.length] using h
      omega)]
    simp [scan]
  | cons c l ih =>
    intro i k st e hi hf hs
    have hlt : i < x.length := by
      rcases Nat.lt_or_ge i x.length with q | q
      · exact q
      · rw [List.drop_eq_nil_of_le q] at e; cases e
    have e' : x.drop (i + 1) = l := by rw [← List.drop_drop, e]; rfl
    have hne : x.drop i ≠ [] := by rw [e]; simp
    rw [List.length_cons, List.range'_succ, List.forIn_cons]
    cases k with
    | succ k =>
      have h2 : st.2 = i + (k + 1) := by rcases hf with h | h; · cases h.2
                                         · exact h
      unfold occBody
      rw [if_neg (by rintro ⟨⟨⟨_, h⟩, _⟩, _⟩; omega)]
      exact ih (i + 1) k (st.1, st.2) e' hlt (.inr (by show st.2 = _; omega)) (by show st.1.size ≤ _; omega)
    | zero =>
      have h2 : st.2 ≤ i := by rcases hf with h | h <;> omega
      by_cases hm : p.isPrefixOf (c :: l) = true
      · have := (sub_pre (p := p) hne).mpr (by rw [e]; exact hm)
        unfold occBody
        rw [if_pos ⟨⟨⟨by omega, h2⟩, by simpa [Str.length] using this.1⟩, this.2⟩]
        refine (ih (i + 1) (p.length - 1) (st.1.push i, i + (⟨p.toArray⟩ : Str).length) e' hlt (.inr (by simp [Str.length]; omega)) (by simp; omega)).trans ?_
        simp [scan, hm]
      · have hno : ¬ (i + p.length ≤ x.length ∧ subAt ⟨x.toArray⟩ ⟨p.toArray⟩ i = true) := fun h => hm (by rw [← e]; exact (sub_pre hne).mp h)
        unfold occBody
        rw [if_neg (by rintro ⟨⟨_, h⟩, h'⟩; exact hno ⟨by simpa [Str.length] using h, h'⟩)]
        refine (ih (i + 1) 0 (st.1, st.2) e' hlt (.inl ⟨by show st.2 ≤ _; omega, rfl⟩) (by show st.1.size ≤ _; omega)).trans ?_
        simp [scan, hm]
theorem occ_all (x p : List Nat) (hp : p ≠ []) : occurrences ⟨x.toArray⟩ ⟨p.toArray⟩ 0 x.length (x.length + 1) = scan p 0 x 0 := by
  rw [occ_eq]
  have := occ_scan x p hp x 0 0 (#[], 0) rfl (Nat.zero_le _) (.inl ⟨Nat.le_refl _, rfl⟩) (Nat.zero_le _)
  simpa using this
theorem join_cons {q s : Str} {l : List Str} (h : l ≠ []) : Str.join q (s :: l) = s ++ q ++ Str.join q l := by
  cases l with
  | nil => exact absurd rfl h
  | cons x l => rfl
theorem parts_scan (x p q : List Nat) (hp : p ≠ []) : ∀ (l : List Nat) (i a : Nat) (k : Nat), x.drop i = l → (k = 0 ∧ a ≤ i ∨ a = i + k) → i ≤ x.length → a ≤ x.length →
    (Str.join ⟨q.toArray⟩ (partsFrom ⟨x.toArray⟩ p.length a (scan p k l i))).cps.toList = ((x.drop a).take (i - a)) ++ repL p q k l := by
  have hpl : 0 < p.length := List.length_pos_iff.mpr hp
  have hx : (⟨x.toArray⟩ : Str).length = x.length := by simp [Str.length]
  intro l
  induction l with
  | nil =>
    intro i a k e h hi ha
    have hil : x.length ≤ i := by have := congrArg List.length e; simp at this; omega
    have : scan p k [] i = [] := by cases k <;> rfl
    rw [this]
    show (strSub ⟨x.toArray⟩ a (⟨x.toArray⟩ : Str).length).cps.toList = _
    rw [strSub_toList, hx]
    have : repL p q k [] = [] := by cases k <;> rfl
    rw [this, List.append_nil]
    have : i = x.length := Nat.le_antisymm hi hil
    rw [this]
  | cons c l ih =>
    intro i a k e h hi ha
    have hlt : i < x.length := by
      rcases Nat.lt_or_ge i x.length with q | q
      · exact q
      · rw [List.drop_eq_nil_of_le q] at e; cases e
    have e' : x.drop (i + 1) = l := by rw [← List.drop_drop, e]; rfl
    have hne : x.drop i ≠ [] := by rw [e]; simp
    have hxi : x[i]? = some c := by
      have := congrArg (fun m => m[0]?) e
      simpa [List.getElem?_drop] using this
    cases k with
    | succ k =>
      have h2 : a = i + (k + 1) := by rcases h with h | h; · cases h.1
                                      · exact h
      show (Str.join ⟨q.toArray⟩ (partsFrom ⟨x.toArray⟩ p.length a (scan p k l (i + 1)))).cps.toList = _
      rw [ih (i + 1) a k e' (.inr (by omega)) hlt ha]
      show _ = _ ++ repL p q k l
      rw [show i + 1 - a = 0 from by omega, show i - a = 0 from by omega]
    | zero =>
      have h2 : a ≤ i := by rcases h with h | h <;> omega
      by_cases hm : p.isPrefixOf (c :: l) = true
      · have hpx := ((sub_pre (p := p) hne).mpr (by rw [e]; exact hm)).1
        have es : scan p 0 (c :: l) i = i :: scan p (p.length - 1) l (i + 1) := by simp [scan, hm]
        rw [es]
        show (Str.join ⟨q.toArray⟩ (strSub ⟨x.toArray⟩ a i :: partsFrom ⟨x.toArray⟩ p.length (i + p.length) (scan p (p.length - 1) l (i + 1)))).cps.toList = _
        obtain ⟨r, rs, er⟩ := partsFrom_ne ⟨x.toArray⟩ p.length (i + p.length) (scan p (p.length - 1) l (i + 1))
        rw [join_cons (by rw [er]; simp)]
        simp only [Str.cps_append, Array.toList_append]
        rw [strSub_toList, ih (i + 1) (i + p.length) (p.length - 1) e' (.inr (by omega)) hlt hpx]
        rw [show i + 1 - (i + p.length) = 0 from by omega]
        simp [repL, hm]
      · have es : scan p 0 (c :: l) i = scan p 0 l (i + 1) := by simp [scan, hm]
        rw [es, ih (i + 1) a 0 e' (.inl ⟨rfl, by omega⟩) hlt ha]
        have : repL p q 0 (c :: l) = c :: repL p q 0 l := by simp [repL, hm]
        rw [this]
        have t : (x.drop a).take (i + 1 - a) = (x.drop a).take (i - a) ++ [c] := by
          rw [show i + 1 - a = (i - a) + 1 from by omega, List.take_add_one]
          rw [List.getElem?_drop, show a + (i - a) = i from by omega, hxi]
          rfl
        rw [t, List.append_assoc]
        rfl
theorem repl_eq {x p q : List Nat} (hp : p ≠ []) (hx : ∀ c ∈ x, c < 128) (hpa : ∀ c ∈ p, c < 128) : Txt.join ⟨q.toArray⟩ (Txt.split ⟨x.toArray⟩ ⟨p.toArray⟩) = ⟨(repL p q 0 x).toArray⟩ := by
  have k1 : ∀ l : List Nat, (∀ c ∈ l, c < 128) → Builtin.Str.strKind ⟨l.toArray⟩ = 1 := by
    intro l h
    unfold Builtin.Str.strKind
    rw [if_pos]
    simp
    intro c hc
    have := h c hc
    omega
  have main : Txt.join ⟨q.toArray⟩ (partsBetween ⟨x.toArray⟩ (occurrences ⟨x.toArray⟩ ⟨p.toArray⟩ 0 (⟨x.toArray⟩ : Str).length ((⟨x.toArray⟩ : Str).length + 1)) (⟨p.toArray⟩ : Str).length) = ⟨(repL p q 0 x).toArray⟩ := by
    have e1 : (⟨x.toArray⟩ : Str).length = x.length := by simp [Str.length]
    have e2 : (⟨p.toArray⟩ : Str).length = p.length := by simp [Str.length]
    rw [e1, e2, occ_all x p hp]
    unfold Txt.join
    rw [glued_eq_join, partsBetween_eq]
    apply Str.ext'
    apply Array.toList_inj.mp
    rw [parts_scan x p q hp x 0 0 0 rfl (.inl ⟨rfl, Nat.le_refl _⟩) (Nat.zero_le _) (Nat.zero_le _)]
    simp
  have same : (occurrences ⟨x.toArray⟩ ⟨p.toArray⟩ 0 (⟨x.toArray⟩ : Str).length ((⟨x.toArray⟩ : Str).length + 1)).isEmpty = true →
      Txt.join ⟨q.toArray⟩ [⟨x.toArray⟩] = ⟨(repL p q 0 x).toArray⟩ := by
    intro h
    have h' := List.isEmpty_iff.mp h
    rw [h'] at main
    rw [← main]
    rw [partsBetween_eq]
    show Txt.join _ _ = Txt.join _ [strSub ⟨x.toArray⟩ 0 (⟨x.toArray⟩ : Str).length]
    rw [sub_whole]
  unfold Txt.split
  split
  · rename_i h
    rw [k1 x hx, k1 p hpa] at h
    have hlt : x.length < p.length := by simpa [Str.length] using h
    refine same ?_
    have e1 : (⟨x.toArray⟩ : Str).length = x.length := by simp [Str.length]
    rw [e1, occ_all x p hp]
    have : ∀ (l : List Nat) (i k : Nat), l.length < p.length → scan p k l i = [] := by
      intro l
      induction l with
      | nil => intro i k _; cases k <;> rfl
      | cons c l ih =>
        intro i k h
        have h' : l.length < p.length := by simp at h; omega
        cases k with
        | succ k => exact ih _ _ h'
        | zero =>
          have : p.isPrefixOf (c :: l) = false := by
            cases hh : p.isPrefixOf (c :: l) with
            | false => rfl
            | true => have := (List.isPrefixOf_iff_prefix.mp hh).length_le; omega
          simp [scan, this, ih _ _ h']
    rw [this x 0 0 hlt]; rfl
  · split
    · rename_i h; exact same h
    · exact main
end Mine

set_option autoImplicit false
set_option linter.unusedVariables false
namespace Mine
open PySem
noncomputable def Wt : List Nat → Nat
  | [] => 0
  | c :: l => (l.length + 1) * c + Wt l
noncomputable def Mt (l : List Nat) : Nat := 10 * l.sum + Wt l
theorem Wt_app : ∀ u v : List Nat, Wt (u ++ v) = Wt u + v.length * u.sum + Wt v
  | [], v => by simp [Wt]
  | c :: u, v => by
    simp only [List.cons_append, Wt, Wt_app u v, List.length_append, List.sum_cons]
    have e1 : (u.length + v.length + 1) * c = (u.length + 1) * c + v.length * c := by rw [← Nat.add_mul]; congr 1; omega
    have e2 : v.length * (c + u.sum) = v.length * c + v.length * u.sum := Nat.mul_add ..
    omega
theorem Mt_app (u v : List Nat) : Mt (u ++ v) = Mt u + v.length * u.sum + Mt v := by
  unfold Mt
  rw [Wt_app, List.sum_append]
  omega
theorem repL_skip (p q : List Nat) : ∀ (k : Nat) (l : List Nat), repL p q k l = repL p q 0 (l.drop k)
  | 0, l => by simp
  | k + 1, [] => by simp [repL]
  | k + 1, _ :: l => by
    show repL p q k l = _
    rw [repL_skip p q k l]; rfl
theorem repL_hit {p q : List Nat} {c : Nat} {l : List Nat} (h : p.isPrefixOf (c :: l) = true) : repL p q 0 (c :: l) = q ++ repL p q (p.length - 1) l := by
  simp [repL, h]
theorem repL_match {p q l : List Nat} (hp : p ≠ []) (h : p.isPrefixOf l = true) : ∃ v, l = p ++ v ∧ repL p q 0 l = q ++ repL p q 0 v := by
  obtain ⟨v, rfl⟩ := List.isPrefixOf_iff_prefix.mp h
  refine ⟨v, rfl, ?_⟩
  cases p with
  | nil => exact absurd rfl hp
  | cons c p =>
    have e := repL_hit (q := q) (l := p ++ v) h
    rw [repL_skip (c :: p) q ((c :: p).length - 1) (p ++ v)] at e
    simpa using e
theorem repL_miss {p q : List Nat} {c : Nat} {l : List Nat} (h : p.isPrefixOf (c :: l) = false) : repL p q 0 (c :: l) = c :: repL p q 0 l := by
  simp [repL, h]
/-- p stands in the text -/
noncomputable def has (p : List Nat) : List Nat → Bool
  | [] => false
  | c :: l => p.isPrefixOf (c :: l) || has p l
structure Rule (p q : List Nat) : Prop where
  ne : p ≠ []
  len : q.length ≤ p.length
  sum : q.sum ≤ p.sum
  less : Mt q < Mt p
theorem rep_less {p q : List Nat} (R : Rule p q) : ∀ (n : Nat) (l : List Nat), l.length ≤ n → (repL p q 0 l).length ≤ l.length ∧ (repL p q 0 l).sum ≤ l.sum ∧ ((has p l = false ∧ repL p q 0 l = l) ∨ Mt (repL p q 0 l) < Mt l)
  | 0, l, h => by
    have : l = [] := List.length_eq_zero_iff.mp (Nat.le_zero.mp h)
    subst this
    exact ⟨Nat.le_refl _, Nat.le_refl _, .inl ⟨rfl, rfl⟩⟩
  | n + 1, [], h => ⟨Nat.le_refl _, Nat.le_refl _, .inl ⟨rfl, rfl⟩⟩
  | n + 1, c :: l, h => by
    cases hm : p.isPrefixOf (c :: l) with
    | true =>
      obtain ⟨v, e, e'⟩ := repL_match (q := q) R.ne hm
      have hpl : 0 < p.length := List.length_pos_iff.mpr R.ne
      have hv : v.length ≤ n := by have := congrArg List.length e; simp at this h; omega
      obtain ⟨a, b, d⟩ := rep_less R n v hv
      rw [e', e]
      simp only [List.length_append, List.sum_append, Mt_app]
      have := R.len; have := R.sum; have := R.less
      refine ⟨by omega, by omega, .inr ?_⟩
      have m1 : (repL p q 0 v).length * q.sum ≤ v.length * p.sum := Nat.mul_le_mul a R.sum
      have m2 : Mt (repL p q 0 v) ≤ Mt v := by rcases d with d | d; · rw [d.2]; exact Nat.le_refl _
                                               · exact Nat.le_of_lt d
      omega
    | false =>
      rw [repL_miss hm]
      obtain ⟨a, b, d⟩ := rep_less R n l (by simp at h; omega)
      refine ⟨by simp; omega, by simp; omega, ?_⟩
      rcases d with d | d
      · exact .inl ⟨by simp [has, hm, d.1], by rw [d.2]⟩
      · refine .inr ?_
        have e1 : Mt (c :: repL p q 0 l) = Mt [c] + (repL p q 0 l).length * [c].sum + Mt (repL p q 0 l) := Mt_app [c] _
        have e2 : Mt (c :: l) = Mt [c] + l.length * [c].sum + Mt l := Mt_app [c] l
        have := Nat.mul_le_mul_right [c].sum a
        omega
noncomputable def stepR (rs : List (List Nat × List Nat)) (x : List Nat) : List Nat := rs.foldl (fun x pq => repL pq.1 pq.2 0 x) x
theorem step_less : ∀ (rs : List (List Nat × List Nat)) (x : List Nat), (∀ r ∈ rs, Rule r.1 r.2) → (stepR rs x).length ≤ x.length ∧ ((stepR rs x = x ∧ ∀ r ∈ rs, has r.1 x = false) ∨ Mt (stepR rs x) < Mt x)
  | [], x, _ => ⟨Nat.le_refl _, .inl ⟨rfl, fun _ h => absurd h (by simp)⟩⟩
  | r :: rs, x, h => by
    obtain ⟨a, _, d⟩ := rep_less (h r List.mem_cons_self) x.length x (Nat.le_refl _)
    obtain ⟨a', d'⟩ := step_less rs (repL r.1 r.2 0 x) (fun s hs => h s (List.mem_cons_of_mem _ hs))
    show (stepR rs (repL r.1 r.2 0 x)).length ≤ _ ∧ ((stepR rs (repL r.1 r.2 0 x) = x ∧ _) ∨ Mt (stepR rs (repL r.1 r.2 0 x)) < Mt x)
    refine ⟨Nat.le_trans a' a, ?_⟩
    rcases d with ⟨d1, d2⟩ | d
    · rw [d2] at d' ⊢
      rcases d' with ⟨d3, d4⟩ | d'
      · refine .inl ⟨d3, fun s hs => ?_⟩
        rcases List.mem_cons.mp hs with rfl | hs
        · exact d1
        · exact d4 s hs
      · exact .inr d'
    · refine .inr ?_
      rcases d' with ⟨d3, _⟩ | d'
      · rw [d3]; exact d
      · exact Nat.lt_trans d' d
theorem rep_mem {p q : List Nat} {P : Nat → Prop} (hq : ∀ c ∈ q, P c) : ∀ (l : List Nat) (k : Nat), (∀ c ∈ l, P c) → ∀ c ∈ repL p q k l, P c
  | [], k, h, c, hc => by cases k <;> cases hc
  | a :: l, k + 1, h, c, hc => rep_mem hq l k (fun x hx => h x (List.mem_cons_of_mem _ hx)) c hc
  | a :: l, 0, h, c, hc => by
    have hl := fun x hx => h x (List.mem_cons_of_mem a hx)
    unfold repL at hc
    split at hc
    · rcases List.mem_append.mp hc with hc | hc
      · exact hq c hc
      · exact rep_mem hq l _ hl c hc
    · rcases List.mem_cons.mp hc with rfl | hc
      · exact h c List.mem_cons_self
      · exact rep_mem hq l _ hl c hc
theorem step_mem {P : Nat → Prop} : ∀ (rs : List (List Nat × List Nat)) (x : List Nat), (∀ r ∈ rs, ∀ c ∈ r.2, P c) → (∀ c ∈ x, P c) → ∀ c ∈ stepR rs x, P c
  | [], x, _, h => h
  | r :: rs, x, hr, h => step_mem rs _ (fun s hs => hr s (List.mem_cons_of_mem _ hs)) (rep_mem (hr r List.mem_cons_self) x 0 h)
/-- what is kept by every rule -/
theorem rep_keep {α : Type} {p q : List Nat} {f : List Nat → α → α} (hf : ∀ u v a, f (u ++ v) a = f v (f u a)) (hp : p ≠ []) (hpq : ∀ a, f q a = f p a) :
    ∀ (n : Nat) (l : List Nat) (a : α), l.length ≤ n → f (repL p q 0 l) a = f l a
  | 0, l, a, h => by
    have : l = [] := List.length_eq_zero_iff.mp (Nat.le_zero.mp h)
    subst this; rfl
  | n + 1, [], a, h => rfl
  | n + 1, c :: l, a, h => by
    cases hm : p.isPrefixOf (c :: l) with
    | true =>
      obtain ⟨v, e, e'⟩ := repL_match (q := q) hp hm
      have hpl : 0 < p.length := List.length_pos_iff.mpr hp
      have hv : v.length ≤ n := by have := congrArg List.length e; simp at this h; omega
      rw [e', e, hf, hf, hpq, rep_keep hf hp hpq n v _ hv]
    | false =>
      rw [repL_miss hm]
      have e1 : f (c :: repL p q 0 l) a = f (repL p q 0 l) (f [c] a) := hf [c] _ a
      have e2 : f (c :: l) a = f l (f [c] a) := hf [c] l a
      rw [e1, e2, rep_keep hf hp hpq n l _ (by simp at h; omega)]
theorem step_keep {α : Type} {f : List Nat → α → α} (hf : ∀ u v a, f (u ++ v) a = f v (f u a)) : ∀ (rs : List (List Nat × List Nat)) (x : List Nat) (a : α), (∀ r ∈ rs, r.1 ≠ [] ∧ ∀ a, f r.2 a = f r.1 a) → f (stepR rs x) a = f x a
  | [], x, a, _ => rfl
  | r :: rs, x, a, h => by
    show f (stepR rs (repL r.1 r.2 0 x)) a = _
    rw [step_keep hf rs _ a (fun s hs => h s (List.mem_cons_of_mem _ hs)), rep_keep hf (h r List.mem_cons_self).1 (h r List.mem_cons_self).2 x.length x a (Nat.le_refl _)]
theorem has_app {p : List Nat} : ∀ (l m : List Nat), has p l = true → has p (l ++ m) = true
  | [], m, h => by cases h
  | c :: l, m, h => by
    simp only [has, Bool.or_eq_true, List.cons_append] at h ⊢
    rcases h with h | h
    · left
      rw [List.isPrefixOf_iff_prefix] at h ⊢
      obtain ⟨t, e⟩ := h
      exact ⟨t ++ m, by rw [← List.append_assoc, e]; rfl⟩
    · exact .inr (has_app l m h)
end Mine

set_option autoImplicit false
set_option linter.unusedVariables false
set_option maxRecDepth 100000
namespace Mine
open PySem
noncomputable def L (s : String) : List Nat := s.toList.map Char.toNat
noncomputable def rules3 : List (List Nat × List Nat) := [(L "aa", []), (L "bb", []), (L "cc", []), (L "dd", []), (L "ca", L "ac"), (L "da", L "ad"), (L "db", L "bd"), (L "bab", L "aba"), (L "cbc", L "bcb"), (L "dcd", L "cdc"), (L "cbac", L "bcba"), (L "dcbd", L "cdcb"), (L "dcbad", L "cdcba")]
theorem rules_ok : ∀ r ∈ rules3, Rule r.1 r.2 := by
  have h : ∀ r ∈ rules3, r.1 ≠ [] ∧ r.2.length ≤ r.1.length ∧ r.2.sum ≤ r.1.sum ∧ Mt r.2 < Mt r.1 := by decide +kernel
  exact fun r hr => ⟨(h r hr).1, (h r hr).2.1, (h r hr).2.2.1, (h r hr).2.2.2⟩
/-- a letter turns two neighbours round -/
noncomputable def swp {α : Type} : Nat → List α → List α
  | 0, x :: y :: l => y :: x :: l
  | k + 1, x :: l => x :: swp k l
  | _, l => l
noncomputable def act {α : Type} (w : List Nat) (o : List α) : List α := w.foldl (fun o c => swp (c - 97) o) o
theorem act_app {α : Type} (u v : List Nat) (o : List α) : act (u ++ v) o = act v (act u o) := by unfold act; rw [List.foldl_append]
theorem swp_len {α : Type} : ∀ (k : Nat) (l : List α), (swp k l).length = l.length
  | 0, [] => rfl
  | 0, [_] => rfl
  | 0, _ :: _ :: _ => rfl
  | k + 1, [] => rfl
  | k + 1, x :: l => by simp [swp, swp_len k l]
theorem act_len {α : Type} : ∀ (w : List Nat) (o : List α), (act w o).length = o.length
  | [], o => rfl
  | c :: w, o => by show (act w (swp (c - 97) o)).length = _; rw [act_len w, swp_len]
/-- five things -/
noncomputable def act5 {α : Type} (w : List Nat) (o : { l : List α // l.length = 5 }) : { l : List α // l.length = 5 } := ⟨act w o.1, by rw [act_len, o.2]⟩
theorem five {α : Type} {l : List α} (h : l.length = 5) : ∃ a b c d e, l = [a, b, c, d, e] := by
  match l, h with
  | [a, b, c, d, e], _ => exact ⟨a, b, c, d, e, rfl⟩
theorem rules_act {α : Type} : ∀ r ∈ rules3, r.1 ≠ [] ∧ ∀ o : { l : List α // l.length = 5 }, act5 r.2 o = act5 r.1 o := by
  intro r hr
  refine ⟨(rules_ok r hr).ne, fun o => ?_⟩
  obtain ⟨l, hl⟩ := o
  obtain ⟨a, b, c, d, e, rfl⟩ := five hl
  apply Subtype.ext
  simp only [rules3, List.mem_cons, List.not_mem_nil, or_false] at hr
  rcases hr with rfl | rfl | rfl | rfl | rfl | rfl | rfl | rfl | rfl | rfl | rfl | rfl | rfl <;> rfl
theorem step_act {α : Type} {o : List α} (h : o.length = 5) (w : List Nat) : act (stepR rules3 w) o = act w o := by
  have := step_keep (f := act5 (α := α)) (fun u v a => Subtype.ext (act_app u v a.1)) rules3 w ⟨o, h⟩ rules_act
  exact congrArg Subtype.val this
/-- for the second to the fifth name as many letters as earlier names stand behind it -/
noncomputable def runOf (i : Nat) : List Nat := (L "dcba").drop (4 - i)
noncomputable def due (order : List Nat) : List Nat := ([1, 2, 3, 4] : List Nat).flatMap fun i => (runOf i).take ((order.drop (order.findIdx (· == i))).filter (· < i)).length
noncomputable def irr (w : List Nat) : Bool := rules3.all fun r => !has r.1 w
noncomputable def grow (l : List (List Nat)) : List (List Nat) := l.flatMap fun w => (L "abcd").filterMap fun x => if irr (w ++ [x]) then some (w ++ [x]) else none
noncomputable def lvl : Nat → List (List Nat)
  | 0 => [[]]
  | n + 1 => grow (lvl n)
noncomputable def nfs : List (List Nat) := (List.range 11).flatMap lvl
theorem lvl_end : lvl 11 = [] := by decide +kernel
theorem nfs_due : ∀ w ∈ nfs, due (act w [0, 1, 2, 3, 4]) = w := by decide +kernel
theorem irr_lvl : ∀ (n : Nat) (w : List Nat), w.length = n → irr w = true → (∀ c ∈ w, c ∈ L "abcd") → w ∈ lvl n
  | 0, w, h, _, _ => by rw [List.length_eq_zero_iff.mp h]; exact List.mem_singleton.mpr rfl
  | n + 1, w, h, hi, hc => by
    have hne : w ≠ [] := by intro e; rw [e] at h; cases h
    have e := List.dropLast_concat_getLast hne
    have hi' : irr w.dropLast = true := by
      unfold irr at hi ⊢
      rw [List.all_eq_true] at hi ⊢
      intro r hr
      have := hi r hr
      cases hh : has r.1 w.dropLast with
      | false => rfl
      | true =>
        have q := has_app w.dropLast [w.getLast hne] hh
        rw [e] at q; rw [q] at this; exact this
    have ih := irr_lvl n w.dropLast (by simp [h]) hi' (fun c hx => hc c ((List.dropLast_subset _ hx)))
    refine List.mem_flatMap.mpr ⟨w.dropLast, ih, List.mem_filterMap.mpr ⟨w.getLast hne, hc _ (List.getLast_mem hne), ?_⟩⟩
    rw [e, if_pos hi]
theorem lvl_big : ∀ n, lvl (11 + n) = []
  | 0 => lvl_end
  | n + 1 => by show grow (lvl (11 + n)) = []; rw [lvl_big n]; rfl
theorem irr_nf {w : List Nat} (h : irr w = true) (hc : ∀ c ∈ w, c ∈ L "abcd") : w ∈ nfs := by
  have m := irr_lvl w.length w rfl h hc
  rcases Nat.lt_or_ge w.length 11 with q | q
  · exact List.mem_flatMap.mpr ⟨w.length, List.mem_range.mpr q, m⟩
  · obtain ⟨k, e⟩ : ∃ k, w.length = 11 + k := ⟨w.length - 11, by omega⟩
    rw [e, lvl_big] at m; cases m
/-- what is at rest is what is due -/
theorem rest_due {r w : List Nat} (hr : stepR rules3 r = r) (hc : ∀ c ∈ r, c ∈ L "abcd") (ha : act r [0, 1, 2, 3, 4] = act w [0, 1, 2, 3, 4]) : r = due (act w [0, 1, 2, 3, 4]) := by
  have hi : irr r = true := by
    rcases (step_less rules3 r rules_ok).2 with ⟨_, h⟩ | h
    · unfold irr; rw [List.all_eq_true]; intro s hs; rw [h s hs]; rfl
    · rw [hr] at h; exact absurd h (Nat.lt_irrefl _)
  rw [← ha, nfs_due r (irr_nf hi hc)]
/-- a name stored anew goes to the end -/
theorem act_tail {α : Type} (a b c d e : α) : ∀ k, k < 5 → act ((L "abcd").drop k) [a, b, c, d, e] = [a, b, c, d, e].eraseIdx k ++ ([a, b, c, d, e][k]?).toList
  | 0, _ => rfl
  | 1, _ => rfl
  | 2, _ => rfl
  | 3, _ => rfl
  | 4, _ => rfl
end Mine

set_option autoImplicit false
set_option linter.unusedVariables false
set_option maxRecDepth 100000
namespace Mine
open PySem
noncomputable def last0 : List Int := [-5, -4, -3, -2, -1]
noncomputable def lastP (ts : List Nat) : List Int := (List.range ts.length).foldl (fun (l : List Int) (k : Nat) => l.set (ts.getD k 0) (k : Int)) last0
noncomputable def orderF (l : List Int) (n : Nat) : List Nat := ((List.range (n + 5)).map fun k : Nat => (k : Int) - 5).flatMap fun k => (List.range 5).filter fun i => l.getD i (-9) == k
noncomputable def orderP (ts : List Nat) : List Nat := orderF (lastP ts) ts.length
noncomputable def mv (o : List Nat) (t : Nat) : List Nat := o.filter (· != t) ++ [t]
noncomputable def ordM (ts : List Nat) : List Nat := ts.foldl mv [0, 1, 2, 3, 4]
theorem lastP_snoc (ts : List Nat) (t : Nat) : lastP (ts ++ [t]) = (lastP ts).set t ts.length := by
  unfold lastP
  rw [List.length_append, List.length_singleton, List.range_succ, List.foldl_append]
  have e : ∀ (m : Nat) (l : List Int), m ≤ ts.length → (List.range m).foldl (fun (l : List Int) (k : Nat) => l.set ((ts ++ [t]).getD k 0) (k : Int)) l = (List.range m).foldl (fun (l : List Int) (k : Nat) => l.set (ts.getD k 0) (k : Int)) l := by
    intro m
    induction m with
    | zero => intro l _; rfl
    | succ m ih =>
      intro l h
      rw [List.range_succ, List.foldl_append, List.foldl_append, ih l (by omega)]
      simp only [List.foldl_cons, List.foldl_nil]
      congr 1
      simp only [List.getD_eq_getElem?_getD]
      rw [List.getElem?_append_left (by omega)]
  rw [e ts.length _ (Nat.le_refl _)]
  simp only [List.foldl_cons, List.foldl_nil]
  congr 1
  simp [List.getD_eq_getElem?_getD]
theorem lastP_len (ts : List Nat) : (lastP ts).length = 5 := by
  unfold lastP
  have : ∀ (r : List Nat) (l : List Int), (r.foldl (fun (l : List Int) (k : Nat) => l.set (ts.getD k 0) (k : Int)) l).length = l.length := by
    intro r
    induction r with
    | nil => intro l; rfl
    | cons a r ih => intro l; rw [List.foldl_cons, ih]; simp
  rw [this]; rfl
theorem order_snoc (ts : List Nat) (t : Nat) (ht : t < 5) (hb : ∀ i, i < 5 → (lastP ts).getD i (-9) < ts.length) : orderP (ts ++ [t]) = mv (orderP ts) t := by
  have g : ∀ i, i < 5 → ((lastP ts).set t (ts.length : Int)).getD i (-9) = if i = t then (ts.length : Int) else (lastP ts).getD i (-9) := by
    intro i hi
    simp only [List.getD_eq_getElem?_getD, List.getElem?_set]
    by_cases h : t = i
    · subst h; simp [lastP_len, ht]
    · rw [if_neg h, if_neg (fun e => h e.symm)]
  unfold orderP orderF mv
  rw [lastP_snoc, List.length_append, List.length_singleton, show ts.length + 1 + 5 = (ts.length + 5) + 1 from by omega, List.range_succ (n := ts.length + 5), List.map_append, List.flatMap_append]
  congr 1
  · rw [List.filter_flatMap]
    have fc : ∀ (l : List Int) (f g : Int → List Nat), (∀ k ∈ l, f k = g k) → l.flatMap f = l.flatMap g := by
      intro l f g h
      induction l with
      | nil => rfl
      | cons a l ih => rw [List.flatMap_cons, List.flatMap_cons, h a List.mem_cons_self, ih (fun k hk => h k (List.mem_cons_of_mem _ hk))]
    apply fc
    intro k hk
    obtain ⟨j, hj, rfl⟩ := List.mem_map.mp hk
    have hjl := List.mem_range.mp hj
    rw [List.filter_filter]
    apply List.filter_congr
    intro i hi
    rw [g i (List.mem_range.mp hi)]
    by_cases h : i = t
    · subst h
      have : ((ts.length : Int) == (j : Int) - 5) = false := by rw [beq_eq_false_iff_ne]; omega
      simp [this]
    · rw [if_neg h]; simp [h]
  · simp only [List.map_cons, List.map_nil, List.flatMap_cons, List.flatMap_nil, List.append_nil]
    have e : (List.range 5).filter (fun i => ((lastP ts).set t (ts.length : Int)).getD i (-9) == ((ts.length + 5 : Nat) : Int) - 5) = (List.range 5).filter (fun i => i == t) := by
      apply List.filter_congr
      intro i hi
      rw [g i (List.mem_range.mp hi)]
      by_cases h : i = t
      · subst h; simp
      · rw [if_neg h]
        have := hb i (List.mem_range.mp hi)
        have e1 : ((lastP ts).getD i (-9) == ((ts.length + 5 : Nat) : Int) - 5) = false := by rw [beq_eq_false_iff_ne]; omega
        rw [e1]
        simpa using h
    rw [e]
    have : ∀ t, t < 5 → (List.range 5).filter (fun i => i == t) = [t] := by decide
    exact this t ht
theorem order_both : ∀ (n : Nat) (ts : List Nat), ts.length = n → (∀ t ∈ ts, t < 5) → orderP ts = ordM ts ∧ ∀ i, i < 5 → (lastP ts).getD i (-9) < ts.length := by
  intro n
  induction n with
  | zero =>
    intro ts h _
    rw [List.length_eq_zero_iff.mp h]
    exact ⟨by decide, by decide⟩
  | succ n ih =>
    intro ts h h5
    have hne : ts ≠ [] := by intro e; rw [e] at h; cases h
    have e := List.dropLast_concat_getLast hne
    obtain ⟨a, b⟩ := ih ts.dropLast (by simp [h]) (fun t ht => h5 t (List.dropLast_subset _ ht))
    have ht := h5 _ (List.getLast_mem hne)
    rw [← e]
    refine ⟨?_, ?_⟩
    · rw [order_snoc _ _ ht b, a]
      unfold ordM; rw [List.foldl_append]; rfl
    · intro i hi
      rw [lastP_snoc]
      simp only [List.getD_eq_getElem?_getD, List.getElem?_set, List.length_append, List.length_singleton]
      by_cases hh : ts.getLast hne = i
      · rw [if_pos hh]; simp [lastP_len]; split <;> simp <;> omega
      · rw [if_neg hh]
        have := b i hi
        rw [List.getD_eq_getElem?_getD] at this
        push_cast
        omega
theorem order_eq {ts : List Nat} (h : ∀ t ∈ ts, t < 5) : orderP ts = ordM ts := (order_both _ ts rfl h).1
/-- the orders of five names -/
structure Five (o : List Nat) : Prop where
  len : o.length = 5
  nd : o.Nodup
  all : ∀ t, t < 5 → t ∈ o
theorem Five.start : Five [0, 1, 2, 3, 4] := ⟨rfl, by decide, by decide⟩
theorem mv_act {o : List Nat} (F : Five o) {t : Nat} (ht : t < 5) : mv o t = act ((L "abcd").drop (o.findIdx (· == t))) o := by
  obtain ⟨a, b, c, d, e, rfl⟩ := five F.len
  have nd := F.nd
  simp only [List.nodup_cons, List.mem_cons, List.not_mem_nil, or_false, not_or, List.nodup_nil, and_true, not_false_eq_true] at nd
  obtain ⟨⟨ab, ac, ad, ae⟩, ⟨bc, bd, be⟩, ⟨cd, ce⟩, de⟩ := nd
  have ba := Ne.symm ab; have ca := Ne.symm ac; have da := Ne.symm ad; have ea := Ne.symm ae; have cb := Ne.symm bc; have db := Ne.symm bd; have eb := Ne.symm be; have dc := Ne.symm cd; have ec := Ne.symm ce; have ed := Ne.symm de
  have m := F.all t ht
  have g := act_tail a b c d e
  simp only [List.mem_cons, List.not_mem_nil, or_false] at m
  rcases m with rfl | rfl | rfl | rfl | rfl
  · have : ([t, b, c, d, e] : List Nat).findIdx (· == t) = 0 := by simp [List.findIdx_cons]
    rw [this, g 0 (by decide)]
    simp [mv, *]
  · have : ([a, t, c, d, e] : List Nat).findIdx (· == t) = 1 := by simp [List.findIdx_cons, beq_eq_false_iff_ne.mpr ab]
    rw [this, g 1 (by decide)]
    simp [mv, *]
  · have : ([a, b, t, d, e] : List Nat).findIdx (· == t) = 2 := by simp [List.findIdx_cons, beq_eq_false_iff_ne.mpr ac, beq_eq_false_iff_ne.mpr bc]
    rw [this, g 2 (by decide)]
    simp [mv, *]
  · have : ([a, b, c, t, e] : List Nat).findIdx (· == t) = 3 := by simp [List.findIdx_cons, beq_eq_false_iff_ne.mpr ad, beq_eq_false_iff_ne.mpr bd, beq_eq_false_iff_ne.mpr cd]
    rw [this, g 3 (by decide)]
    simp [mv, *]
  · have : ([a, b, c, d, t] : List Nat).findIdx (· == t) = 4 := by simp [List.findIdx_cons, beq_eq_false_iff_ne.mpr ae, beq_eq_false_iff_ne.mpr be, beq_eq_false_iff_ne.mpr ce, beq_eq_false_iff_ne.mpr de]
    rw [this, g 4 (by decide)]
    simp [mv, *]
theorem Five.mv {o : List Nat} (F : Five o) {t : Nat} (ht : t < 5) : Five (mv o t) := by
  have hn : ∀ x ∈ o.filter (· != t), x ≠ t := fun x hx => by simpa using (List.mem_filter.mp hx).2
  refine ⟨?_, ?_, ?_⟩
  · rw [mv_act F ht, act_len, F.len]
  · unfold Mine.mv
    rw [List.nodup_append]
    refine ⟨F.nd.filter _, by simp, fun a ha b hb => ?_⟩
    rw [List.mem_singleton.mp hb]; exact hn a ha
  · intro u hu
    unfold Mine.mv
    by_cases h : u = t
    · subst h; simp
    · exact List.mem_append.mpr (.inl (List.mem_filter.mpr ⟨F.all u hu, by simpa using h⟩))
theorem Five.ord : ∀ (ts : List Nat), (∀ t ∈ ts, t < 5) → ∀ o, Five o → Five (ts.foldl Mine.mv o)
  | [], _, o, F => F
  | t :: ts, h, o, F => Five.ord ts (fun u hu => h u (List.mem_cons_of_mem _ hu)) _ (F.mv (h t List.mem_cons_self))
end Mine

set_option autoImplicit false
set_option maxRecDepth 10000
set_option linter.unusedVariables false
namespace Mine
open PySem PySem.Spec PySem.Calls PyProof.Rows
theorem SoundF.le {K : KX} {r r' : Nat} {f : Value} {kn : List Str} {F : FT} (h : SoundF K r f kn F) (hr : r ≤ r') : SoundF K r' f kn F := fun A ok => h A (ok.le hr)
noncomputable def stAt (i : Nat) : Stmt := (Challenge.pw_pu0047_03.main.body[i]?).getD (.Pass default)
noncomputable def clAt (i k : Nat) : Stmt := match stAt i with | .ClassDef _ _ _ b _ _ _ _ _ _ _ => (b[k]?).getD (.Pass default) | _ => .Pass default
noncomputable def fBody : Stmt → List Stmt | .FunctionDef _ _ b _ _ _ _ _ _ _ => b | _ => []
noncomputable def fScope : Stmt → Scope | .FunctionDef _ _ _ _ _ _ s _ _ _ => s | _ => default
noncomputable def fArgs : Stmt → Arguments | .FunctionDef _ a _ _ _ _ _ _ _ _ => a | _ => default
noncomputable def fdOf (st : Stmt) (fd : FuncData) : FuncData := { fd with params := fArgs st, body := .stmts (fBody st), scope := fScope st, globals := 3, closure := [], builtins := 0 }
noncomputable def cI (i : Int) : XE := fun _ Q => Q (.d (.int i))
noncomputable def cS (x : Str) : XE := fun _ Q => Q (.d (.str x))
noncomputable def cB (x : Bool) : XE := fun _ Q => Q (.d (.bool x))
noncomputable def cNone : XE := fun _ Q => Q (.d .none)
theorem fd_eta {fd : FuncData} {d k : Value} (hd : fd.defaults = d) (hk : fd.kwdefaults = k) : fd = { fd with defaults := d, kwdefaults := k } := by cases hd; cases hk; rfl
theorem len0 {α : Type} {l : List α} (h : l.length = 0) : l = [] := List.eq_nil_of_length_eq_zero h
theorem len1 {α : Type} : ∀ {l : List α}, l.length = 1 → ∃ a, l = [a] | [a], _ => ⟨a, rfl⟩
theorem len2 {α : Type} : ∀ {l : List α}, l.length = 2 → ∃ a b, l = [a, b] | [a, b], _ => ⟨a, b, rfl⟩
theorem len3 {α : Type} : ∀ {l : List α}, l.length = 3 → ∃ a b c, l = [a, b, c] | [a, b, c], _ => ⟨a, b, c, rfl⟩
theorem len4 {α : Type} : ∀ {l : List α}, l.length = 4 → ∃ a b c d, l = [a, b, c, d] | [a, b, c, d], _ => ⟨a, b, c, d, rfl⟩
/-- the function at an address -/
noncomputable def FnOk (K : KX) (a : Addr) (st : Stmt) : Prop := ∃ fd, FnAt K a (fdOf st fd) (fBody st) ∧ fd.defaults = .none ∧ fd.kwdefaults = .none
noncomputable def FnOkD (K : KX) (a : Addr) (st : Stmt) (d : Value) : Prop := ∃ fd, FnAt K a (fdOf st fd) (fBody st) ∧ fd.defaults = d ∧ fd.kwdefaults = .none
noncomputable def fldOk (Kf : W.Frag) (C : Addr) (x : Str) : Bool := W.plainGet Kf C x && (match W.findIn Kf (.ref C) x with | some (some _) => false | some none => true | none => false) && (match W.takerIn Kf C x with | some none => true | _ => false)
noncomputable def clsOk (Kf : W.Frag) (C : Addr) : Bool := W.hasDictIn Kf C && W.plainOver Kf C && W.makesIn Kf C && W.keepIn Kf (.ref C) && W.noSeq Kf C && (W.findIn Kf (.ref C) "__setattr__" == some (some (.builtin "object.__setattr__")))
noncomputable def metOk (Kf : W.Frag) (C : Addr) (x : Str) (f : Addr) : Bool := W.plainGet Kf C x && (W.findIn Kf (.ref C) x == some (some (.ref f))) && (W.typeIn Kf (.ref f) == some (.type "function"))
theorem noFree {names : List (Str × NameKind)} (h : names.all (fun y => y.2 != .free) = true) : ∀ x, names.lookup x ≠ some .free := by
  intro x e
  have := List.all_eq_true.mp h _ (mem_of_lookup e)
  simp at this
theorem kindsOk {names : List (Str × NameKind)} {ps : List Str} (h : ps.all (fun x => names.lookup x == some .local || names.lookup x == some .cell) = true) : ∀ x ∈ ps, names.lookup x = some .local ∨ names.lookup x = some .cell := by
  intro x hx
  have := List.all_eq_true.mp h x hx
  simp only [Bool.or_eq_true, beq_iff_eq] at this
  exact this
theorem fnAt_of {K : KX} {a : Addr} {st : Stmt} (h : FnOk K a st) : ∃ fd body, FnAt K a fd body := let ⟨fd, X, _⟩ := h; ⟨_, _, X⟩
theorem backFalse {l : List (Bool × Sem Value)} (h : l.any (·.1) = false) : ∀ t : List (Bool × Sem Value), l = t → ∀ x ∈ t, x.1 = false := by
  rintro t rfl x hx
  rw [List.any_eq_false] at h
  simpa using h x hx
noncomputable def isStar : Expr → Bool | .Starred .. => true | _ => false
theorem se_cons {e : Expr} {es : List Expr} {env : Env} (h : isStar e = false) : starEach (e :: es) env = (false, eval e env) :: starEach es env := by
  cases e <;> first | rfl | cases h
theorem se_any {args : List Expr} {env : Env} {pos : Pos} (h : args.all (fun e => !isStar e) = true) : (backTo pos (starEach args env)).any (·.1) = false := by
  induction args with
  | nil => rfl
  | cons e es ih =>
    simp only [List.all_cons, Bool.and_eq_true, Bool.not_eq_true'] at h
    rw [se_cons h.1]
    have := ih h.2
    unfold backTo at this ⊢
    simpa using this
theorem l_c {K : KX} {r : Nat} {env : Env} {look : Str → Option Nat} {e : Expr} {es : List Expr} {a : XE} {p : XL} (ha : SoundE K r env look e a) (hp : SoundL K r env look es p) (h : isStar e = false) : SoundL K r env look (e :: es) (lCons a p) :=
  l_cons ha hp (se_cons h)
noncomputable def strsE : List Expr → Option (List Str)
  | [] => some []
  | .Constant (.str x) _ _ :: es => (strsE es).map (x :: ·)
  | _ :: _ => none
noncomputable def lStrs (xs : List Str) : XL := fun _ Q => Q (xs.map fun x => .d (.str x))
theorem l_strs {K : KX} {r : Nat} {env : Env} {look : Str → Option Nat} {es : List Expr} {xs : List Str} (h : strsE es = some xs) : SoundL K r env look es (lStrs xs) := by
  induction es generalizing xs with
  | nil => cases h; exact l_nil
  | cons e es ih =>
    unfold strsE at h
    split at h
    · rename_i heq; cases heq
    · rename_i x _ _ es' heq
      cases heq
      cases hs : strsE es with
      | none => rw [hs] at h; cases h
      | some ys =>
        rw [hs] at h
        cases h
        exact l_c e_str (ih hs) rfl
    · cases h
noncomputable def readBody : List Stmt := fBody (((fBody (stAt 11))[2]?).getD (.Pass default))
section
variable {K : KX} {Kf : W.Frag} {mg mb : Str → Option Value} {r : Nat} {env : Env} {look : Str → Option Nat}
theorem met_g {C f : Addr} {x : Str} (h : metOk Kf C x f = true) : W.plainGet Kf C x = true := by unfold metOk at h; simp only [Bool.and_eq_true] at h; exact h.1.1
theorem met_f {C f : Addr} {x : Str} (h : metOk Kf C x f = true) : W.findIn Kf (.ref C) x = some (some (.ref f)) := by unfold metOk at h; simp only [Bool.and_eq_true, beq_iff_eq] at h; exact h.1.2
theorem met_t {C f : Addr} {x : Str} (h : metOk Kf C x f = true) : W.typeIn Kf (.ref f) = some (.type "function") := by unfold metOk at h; simp only [Bool.and_eq_true, beq_iff_eq] at h; exact h.2
theorem cls_d {C : Addr} (h : clsOk Kf C = true) : W.hasDictIn Kf C = true := by unfold clsOk at h; simp only [Bool.and_eq_true] at h; exact h.1.1.1.1.1
theorem cls_o {C : Addr} (h : clsOk Kf C = true) : W.plainOver Kf C = true := by unfold clsOk at h; simp only [Bool.and_eq_true] at h; exact h.1.1.1.1.2
theorem cls_m {C : Addr} (h : clsOk Kf C = true) : W.makesIn Kf C = true := by unfold clsOk at h; simp only [Bool.and_eq_true] at h; exact h.1.1.1.2
theorem cls_k {C : Addr} (h : clsOk Kf C = true) : W.keepIn Kf (.ref C) = true := by unfold clsOk at h; simp only [Bool.and_eq_true] at h; exact h.1.1.2
theorem cls_q {C : Addr} (h : clsOk Kf C = true) : W.noSeq Kf C = true := by unfold clsOk at h; simp only [Bool.and_eq_true] at h; exact h.1.2
theorem cls_s {C : Addr} (h : clsOk Kf C = true) : W.findIn Kf (.ref C) "__setattr__" = some (some (.builtin "object.__setattr__")) := by unfold clsOk at h; simp only [Bool.and_eq_true, beq_iff_eq] at h; exact h.2
theorem fld_get (X : KF K Kf) {C : Addr} {k : Nat} {x : Str} (hc : clsOk Kf C = true) (hf : fldOk Kf C x = true) (hx : K.attrs[k]? = some x) {expr : Bool} : Sound1 K r (fun v => getAttr v x expr) (getF C k) := by
  unfold fldOk at hf
  simp only [Bool.and_eq_true] at hf
  obtain ⟨⟨h1, h2⟩, h3⟩ := hf
  have e : W.findIn Kf (.ref C) x = some none := by
    revert h2
    cases W.findIn Kf (.ref C) x with
    | none => simp
    | some v => cases v <;> simp
  exact get_field X hx h1 (cls_d hc) e rfl
theorem fld_set (X : KF K Kf) {al : List Str} (ha : K.attrs = al) {C : Addr} {k : Nat} {x : Str} (hc : clsOk Kf C = true) (hf : fldOk Kf C x = true) (hx : K.attrs[k]? = some x) (nd : decide (al.Nodup ∧ al.length ≤ 1000) = true) : SoundSet K x (setF C k) := by
  unfold fldOk at hf
  simp only [Bool.and_eq_true] at hf
  obtain ⟨⟨h1, h2⟩, h3⟩ := hf
  have e : W.takerIn Kf C x = some none := by
    revert h3
    cases W.takerIn Kf C x with
    | none => simp
    | some v => cases v <;> simp
  have nd' := of_decide_eq_true nd
  rw [ha] at hx
  refine set_fieldS X (by rw [ha]; exact hx) ?_ (by rw [ha]; exact nd'.2) (cls_s hc) (cls_o hc) e (cls_d hc)
  intro j hj
  rw [ha] at hj
  exact (List.getElem?_inj (List.getElem?_eq_some_iff.mp hj).1 nd'.1).mp (hj.trans hx.symm)
theorem e_call_fn (G : KG K mg mb) {f : Str} {a : Addr} {args : List Expr} {p pos : Pos} {F : FT} {l : XL} (X : ∃ fd body, FnAt K a fd body) (hF : SoundF K r (.ref a) [] F) (hl : SoundL K r env look args l)
    (hk : env.kindOf f = some .globalImplicit) (hg : mg f = some (.ref a)) (hd : (f == ("__debug__" : Str)) = false) (hb : (backTo pos (starEach args env)).any (·.1) = false) :
    SoundE K r env look (.Call (.Name f p) args [] pos) (xCall F l) := by
  obtain ⟨fd, body, X⟩ := X
  exact e_call G X hF hl hk hg hd (backFalse hb)
theorem e_meth_fn (X : KF K Kf) {C f : Addr} {st : Stmt} {o : Expr} {name : Str} {args : List Expr} {kws : List Keyword} {apos pos : Pos} {F : FT} {a : XE} {l k : XL}
    (Y : FnOk K f st) (hm : metOk Kf C name f = true) (hF : SoundF K r (.ref f) (knOf kws) F) (ho : SoundE K r env look o a) (hl : SoundL K r env look args l) (hk : SoundK K r env look kws k) (hn : name ∉ K.attrs)
    (hbase : attributeBase o name env (eval o env) = eval o env) (hb : (backTo pos (starEach args env)).any (·.1) = false) (hkn : (backToKw pos (keywordEach kws env)).all (·.1.isSome) = true)
    (hform : methodCallForm (args.length + kws.length) (backTo pos (starEach args env)) (backToKw pos (keywordEach kws env)) = true) (hline : (apos.endLine == pos.line) = true) :
    SoundE K r env look (.Call (.Attribute o name apos) args kws pos) (xMeth C F a l k) := by
  obtain ⟨fd, Y, _⟩ := Y
  exact e_meth X hF Y ho hl hk (met_g hm) (met_f hm) (met_t hm) hn hbase hb hkn hform hline
theorem s_forC_fn {F : FT} {st : Stmt} {a : Addr} (Y : FnOk K a st) (hrc : K.readChar = a) (hF : SoundF K r (.ref a) [] F) {target iter : Expr} {body : List Stmt} {pos : Pos} {tgt : XT} {it : XE} {b : XS}
    (ht : SoundT K (r + 1) env look target tgt) (hi : SoundE K (r + 1) env look iter it) (hb : SoundSs K (r + 1) env look body b)
    (hs : ∀ x, foldedSetIterable iter env x = pure x) (hlo : ∀ it v, letOwnedTupleGo target it v = pure ()) : SoundS K (r + 1) env look (.For target iter body [] pos) (sForC F tgt it b) := by
  obtain ⟨fd, Y, _⟩ := Y
  subst hrc
  exact s_forC hF Y ht hi hb hs hlo
theorem b_peek (X : KF K Kf) {fd : FuncData} {ps : List Str} (h : ∀ ras : List Value, ras.length = ps.length → ∀ S, W.peek Kf S (bindArgs fd ⟨ras, []⟩) = some (ps.zip ras)) : SoundBind K fd [] ps (bPlain ps.length) := by
  intro A hh ρ hp s vas ras ks Q E hk q H R
  cases ks with
  | cons _ _ => simp at hk
  | nil =>
    rw [List.append_nil] at R
    have hl := R.length
    have e : ras.length = ps.length := by rw [← hl]; exact q.1
    rw [show ([] : List Str).zip ([] : List Value) = [] from rfl]
    exact W.kp_binds (X.now H) (h ras e) _ _ _ _ ⟨vas, ras, hp, ρ, s.heap, s.toks, rfl, rfl, e, q.2, H, Step.refl .., R⟩
end
end Mine

set_option autoImplicit false
set_option maxRecDepth 10000
set_option linter.unusedVariables false
namespace Mine
open PySem PySem.Spec PySem.Calls PyProof.Rows

structure S3 (K : KX) (Kf : W.Frag) (mg mb : Str → Option Value) : Prop where
  G : KG K mg mb
  X : KF K Kf
  attrs : K.attrs = (["_headers", "lineno", "instream", "whitespace", "pushback"] : List Str)
  x__law_small : FnOk K 236 (stAt 12)
  g__law_small : mg "_law_small" = some (.ref 236)
  x__law_told : FnOk K 243 (stAt 13)
  g__law_told : mg "_law_told" = some (.ref 243)
  x__law_written : FnOk K 248 (stAt 14)
  g__law_written : mg "_law_written" = some (.ref 248)
  x__netrclex___init__ : FnOk K 189 (clAt 7 0)
  m__netrclex___init__ : metOk Kf 213 "__init__" 189 = true
  x_Headers__convert_string_type : FnOk K 70 (clAt 5 1)
  m_Headers__convert_string_type : metOk Kf 171 "_convert_string_type" 70 = true
  x_Headers___init__ : FnOkD K 63 (clAt 5 0) (.ref 56)
  bd_Headers___init__ : ∀ (fd : FuncData) S a0 a1, fd.defaults = .ref 56 → fd.kwdefaults = .none → W.peek Kf S (bindArgs (fdOf (clAt 5 0) fd) ⟨[a0, a1], []⟩) = some [(("self" : Str), a0), (("headers" : Str), a1)]
  m_Headers___init__ : metOk Kf 171 "__init__" 63 = true
  x_Headers_keys : FnOk K 123 (clAt 5 9)
  m_Headers_keys : metOk Kf 171 "keys" 123 = true
  x__law_due : FnOk K 272 (stAt 18)
  g__law_due : mg "_law_due" = some (.ref 272)
  x__law_order : FnOk K 267 (stAt 17)
  g__law_order : mg "_law_order" = some (.ref 267)
  x_replace : FnOk K 224 (stAt 9)
  g_replace : mg "replace" = some (.ref 224)
  x__law_rest : FnOk K 262 (stAt 16)
  g__law_rest : mg "_law_rest" = some (.ref 262)
  x_Headers___delitem__ : FnOk K 89 (clAt 5 4)
  m_Headers___delitem__ : metOk Kf 171 "__delitem__" 89 = true
  x_Headers___setitem__ : FnOk K 84 (clAt 5 3)
  m_Headers___setitem__ : metOk Kf 171 "__setitem__" 84 = true
  x__law_store : FnOk K 255 (stAt 15)
  g__law_store : mg "_law_store" = some (.ref 255)
  x__netrclex__read_char : FnOk K 196 (clAt 7 1)
  m__netrclex__read_char : metOk Kf 213 "_read_char" 196 = true
  x__netrclex_get_token : FnOk K 203 (clAt 7 2)
  m__netrclex_get_token : metOk Kf 213 "get_token" 203 = true
  x_Headers_items : FnOk K 135 (clAt 5 11)
  m_Headers_items : metOk Kf 171 "items" 135 = true
  x__law_items : FnOk K 277 (stAt 19)
  g__law_items : mg "_law_items" = some (.ref 277)
  g_Headers : mg "Headers" = some (.ref 171)
  c_Headers : clsOk Kf 171 = true
  f_Headers__headers : fldOk Kf 171 "_headers" = true
  g__netrclex : mg "_netrclex" = some (.ref 213)
  c__netrclex : clsOk Kf 213 = true
  f__netrclex_lineno : fldOk Kf 213 "lineno" = true
  f__netrclex_instream : fldOk Kf 213 "instream" = true
  f__netrclex_whitespace : fldOk Kf 213 "whitespace" = true
  f__netrclex_pushback : fldOk Kf 213 "pushback" = true
  g__name_disallowed_re : mg "_name_disallowed_re" = some (.ref 43)
  g__value_disallowed_re : mg "_value_disallowed_re" = some (.ref 48)
  iter0 : mg "iter" = none
  iter1 : mb "iter" = some (.builtin "iter")
  len0 : mg "len" = none
  len1 : mb "len" = some (.builtin "len")
  list0 : mg "list" = none
  list1 : mb "list" = some (.type "list")
  range0 : mg "range" = none
  range1 : mb "range" = some (.type "range")
  str0 : mg "str" = none
  str1 : mb "str" = some (.type "str")
  type0 : mg "type" = none
  type1 : mb "type" = some (.type "type")
  rc : K.readChar = 196
  rcm : metOk Kf 213 "_read_char" K.readChar = true
  rc1 : W.specialIn Kf (.ref K.readChar) "__get__" = some (some (.builtin "function.__get__"))
  rc2 : W.takesIn Kf (.ref K.readChar) = some false
  rt : ReadText K "size" readBody
  re : ∀ p ∈ ([43, 48] : List Addr), ReAt K p ∧ ∀ o, K.h0.get? p = some o → o.dict = none
variable {K : KX} {Kf : W.Frag} {mg mb : Str → Option Value}
noncomputable def p__law_small : XS := (sCons (sRet (xList false (lStrs ["k", "q x", "z\"", "b\\", "#y"])))
 sNil)
set_option maxHeartbeats 4000000 in
theorem w__law_small (N : S3 K Kf mg mb) (fd : FuncData) {a L : Addr} : SoundSs K 0 (callEnvC (fdOf (stAt 12) fd) L a) (lk (([] : List Str) ++ ([] : List Str))) (fBody (stAt 12)) p__law_small := by
 conv => arg 5; whnf
 (refine ss_cons ?_ ?_; (focus ((refine s_ret ?_; (focus ((refine e_list ?_; (focus ((refine l_strs ?_; (focus (exact rfl))))))))))); (focus (exact ss_nil)))

noncomputable def F__law_small : FT := runFn false (bPlain 0) 0 p__law_small
theorem S__law_small (N : S3 K Kf mg mb) : SoundF K 1 (.ref 236) ([] : List Str) F__law_small := by
  obtain ⟨fd, X, hd, hk⟩ := N.x__law_small
  exact f_run (rest := ([] : List Str)) (kn := ([] : List Str)) N.G X (b_plain (ps := ([] : List Str)) (fun ras h => by rw [fd_eta hd hk]; obtain rfl := len0 h; rfl)) (by decide) (kindsOk rfl) (noFree rfl) (fun L => w__law_small N fd)

noncomputable def p__law_told : XS := (sCons (sIf (bCmp opEq (xBin opMod (xBin opDiv (xVar 0) (cI 5)) (cI 2)) (cI 0)) (sCons (sRet (xBin opItem (xCall F__law_small lNil) (xBin opMod (xVar 0) (cI 5))))
 sNil) sNil)
 (sCons (sRet (xBin opItem (xList false (lStrs ["K", "Q X", "Z\"", "B\\", "#Y"])) (xBin opMod (xVar 0) (cI 5))))
 sNil))
set_option maxHeartbeats 4000000 in
theorem w__law_told (N : S3 K Kf mg mb) (fd : FuncData) {a L : Addr} : SoundSs K 1 (callEnvC (fdOf (stAt 13) fd) L a) (lk ((["x"] : List Str) ++ ([] : List Str))) (fBody (stAt 13)) p__law_told := by
 conv => arg 5; whnf
 (refine ss_cons ?_ ?_; (focus ((refine s_if ?_ ?_ ?_; (focus ((refine b_cmp ?_ ?_ ?_ ?_; (focus (exact s_eq)); (focus ((refine e_bin ?_ ?_ ?_; (focus (exact s_mod)); (focus ((refine e_bin ?_ ?_ ?_; (focus (exact s_div)); (focus ((refine e_var ?_ ?_ ?_ ?_; (focus (exact .inl rfl)); (focus (exact rfl)); (focus (exact rfl)); (focus (exact rfl))))); (focus (exact e_int))))); (focus (exact e_int))))); (focus (exact e_int)); (focus (exact rfl))))); (focus ((refine ss_cons ?_ ?_; (focus ((refine s_ret ?_; (focus ((refine e_sub ?_ ?_ ?_; (focus ((refine e_call_fn N.G (fnAt_of N.x__law_small) ?_ ?_ ?_ N.g__law_small ?_ ?_; (focus (exact SoundF.le (S__law_small N) (by omega))); (focus (exact l_nil)); (focus (exact rfl)); (focus (exact rfl)); (focus ((refine se_any ?_; (focus (exact rfl)))))))); (focus ((refine e_bin ?_ ?_ ?_; (focus (exact s_mod)); (focus ((refine e_var ?_ ?_ ?_ ?_; (focus (exact .inl rfl)); (focus (exact rfl)); (focus (exact rfl)); (focus (exact rfl))))); (focus (exact e_int))))); (focus (exact fun _ _ => rfl)))))))); (focus (exact ss_nil))))); (focus (exact ss_nil))))); (focus ((refine ss_cons ?_ ?_; (focus ((refine s_ret ?_; (focus ((refine e_sub ?_ ?_ ?_; (focus ((refine e_list ?_; (focus ((refine l_strs ?_; (focus (exact rfl)))))))); (focus ((refine e_bin ?_ ?_ ?_; (focus (exact s_mod)); (focus ((refine e_var ?_ ?_ ?_ ?_; (focus (exact .inl rfl)); (focus (exact rfl)); (focus (exact rfl)); (focus (exact rfl))))); (focus (exact e_int))))); (focus (exact fun _ _ => rfl)))))))); (focus (exact ss_nil))))))

noncomputable def F__law_told : FT := runFn false (bPlain 1) 0 p__law_told
theorem S__law_told (N : S3 K Kf mg mb) : SoundF K 2 (.ref 243) ([] : List Str) F__law_told := by
  obtain ⟨fd, X, hd, hk⟩ := N.x__law_told
  exact f_run (rest := ([] : List Str)) (kn := ([] : List Str)) N.G X (b_plain (ps := (["x"] : List Str)) (fun ras h => by rw [fd_eta hd hk]; obtain ⟨a0, rfl⟩ := len1 h; rfl)) (by decide) (kindsOk rfl) (noFree rfl) (fun L => w__law_told N fd)

noncomputable def p__law_written : XS := (sCons (sIf (bCmp opEq (xBin opMod (xBin opDiv (xVar 1) (cI 10)) (cI 2)) (cI 0)) (sCons (sAssign 2 (xBin opAdd (xBin opAdd (cS "\"") (xMethS mJoin (cS "") (lCons (xComp false 1 (tName 0) (xVar 0) iNil (xIte (bCmp opIn (xVar 0) (cS "\"\\")) (xBin opAdd (cS "\\") (xVar 0)) (xVar 0))) lNil))) (cS "\"")))
 sNil) (sCons (sAssign 2 (xMethS mJoin (cS "") (lCons (xComp false 1 (tName 0) (xVar 0) iNil (xBin opAdd (cS "\\") (xVar 0))) lNil)))
 sNil))
 (sCons (sRet (xBin opAdd (xVar 2) (xBin opItem (xList false (lStrs [" ", "\n", "\r\n"])) (xBin opMod (xBin opDiv (xVar 1) (cI 20)) (cI 3)))))
 sNil))
set_option maxHeartbeats 4000000 in
theorem w__law_written (N : S3 K Kf mg mb) (fd : FuncData) {a L : Addr} : SoundSs K 0 (callEnvC (fdOf (stAt 14) fd) L a) (lk ((["name", "x"] : List Str) ++ (["word"] : List Str))) (fBody (stAt 14)) p__law_written := by
 conv => arg 5; whnf
 (refine ss_cons ?_ ?_; (focus ((refine s_if ?_ ?_ ?_; (focus ((refine b_cmp ?_ ?_ ?_ ?_; (focus (exact s_eq)); (focus ((refine e_bin ?_ ?_ ?_; (focus (exact s_mod)); (focus ((refine e_bin ?_ ?_ ?_; (focus (exact s_div)); (focus ((refine e_var ?_ ?_ ?_ ?_; (focus (exact .inl rfl)); (focus (exact rfl)); (focus (exact rfl)); (focus (exact rfl))))); (focus (exact e_int))))); (focus (exact e_int))))); (focus (exact e_int)); (focus (exact rfl))))); (focus ((refine ss_cons ?_ ?_; (focus ((refine s_assign ?_ ?_ ?_ ?_; (focus ((refine e_bin ?_ ?_ ?_; (focus (exact s_add)); (focus ((refine e_bin ?_ ?_ ?_; (focus (exact s_add)); (focus (exact e_str)); (focus ((refine e_methS (id := "str.join") ?_ ?_ ?_ ?_ ?_ ?_ ?_ ?_; (focus (exact m_join)); (focus (exact e_str)); (focus ((refine l_c ?_ ?_ ?_; (focus ((refine e_compB ["sign"] (m := false) ?_ ?_ ?_ ?_ ?_ ?_; (focus ((refine e_var ?_ ?_ ?_ ?_; (focus (exact .inl rfl)); (focus (exact rfl)); (focus (exact rfl)); (focus (exact rfl))))); (focus (intro _ _; (refine tl_name ?_ ?_; (focus (exact rfl)); (focus (exact rfl))))); (focus (intro _ _; exact i_nil)); (focus (intro _ _; (refine e_ite ?_ ?_ ?_; (focus ((refine b_cmp ?_ ?_ ?_ ?_; (focus (exact s_in)); (focus ((refine e_var ?_ ?_ ?_ ?_; (focus (exact .inl rfl)); (focus (exact rfl)); (focus (exact rfl)); (focus (exact rfl))))); (focus (exact e_str)); (focus (exact rfl))))); (focus ((refine e_bin ?_ ?_ ?_; (focus (exact s_add)); (focus (exact e_str)); (focus ((refine e_var ?_ ?_ ?_ ?_; (focus (exact .inl rfl)); (focus (exact rfl)); (focus (exact rfl)); (focus (exact rfl)))))))); (focus ((refine e_var ?_ ?_ ?_ ?_; (focus (exact .inl rfl)); (focus (exact rfl)); (focus (exact rfl)); (focus (exact rfl)))))))); (focus (exact rfl)); (focus (exact fun _ => rfl))))); (focus (exact l_nil)); (focus (exact rfl))))); (focus (exact PySem.F.slot_str_join)); (focus (exact PySem.F.type_str_join)); (focus (exact rfl)); (focus (exact rfl)); (focus (exact rfl)))))))); (focus (exact e_str))))); (focus (exact .inl rfl)); (focus (exact rfl)); (focus (exact rfl))))); (focus (exact ss_nil))))); (focus ((refine ss_cons ?_ ?_; (focus ((refine s_assign ?_ ?_ ?_ ?_; (focus ((refine e_methS (id := "str.join") ?_ ?_ ?_ ?_ ?_ ?_ ?_ ?_; (focus (exact m_join)); (focus (exact e_str)); (focus ((refine l_c ?_ ?_ ?_; (focus ((refine e_compB ["sign"] (m := false) ?_ ?_ ?_ ?_ ?_ ?_; (focus ((refine e_var ?_ ?_ ?_ ?_; (focus (exact .inl rfl)); (focus (exact rfl)); (focus (exact rfl)); (focus (exact rfl))))); (focus (intro _ _; (refine tl_name ?_ ?_; (focus (exact rfl)); (focus (exact rfl))))); (focus (intro _ _; exact i_nil)); (focus (intro _ _; (refine e_bin ?_ ?_ ?_; (focus (exact s_add)); (focus (exact e_str)); (focus ((refine e_var ?_ ?_ ?_ ?_; (focus (exact .inl rfl)); (focus (exact rfl)); (focus (exact rfl)); (focus (exact rfl)))))))); (focus (exact rfl)); (focus (exact fun _ => rfl))))); (focus (exact l_nil)); (focus (exact rfl))))); (focus (exact PySem.F.slot_str_join)); (focus (exact PySem.F.type_str_join)); (focus (exact rfl)); (focus (exact rfl)); (focus (exact rfl))))); (focus (exact .inl rfl)); (focus (exact rfl)); (focus (exact rfl))))); (focus (exact ss_nil)))))))); (focus ((refine ss_cons ?_ ?_; (focus ((refine s_ret ?_; (focus ((refine e_bin ?_ ?_ ?_; (focus (exact s_add)); (focus ((refine e_var ?_ ?_ ?_ ?_; (focus (exact .inl rfl)); (focus (exact rfl)); (focus (exact rfl)); (focus (exact rfl))))); (focus ((refine e_sub ?_ ?_ ?_; (focus ((refine e_list ?_; (focus ((refine l_strs ?_; (focus (exact rfl)))))))); (focus ((refine e_bin ?_ ?_ ?_; (focus (exact s_mod)); (focus ((refine e_bin ?_ ?_ ?_; (focus (exact s_div)); (focus ((refine e_var ?_ ?_ ?_ ?_; (focus (exact .inl rfl)); (focus (exact rfl)); (focus (exact rfl)); (focus (exact rfl))))); (focus (exact e_int))))); (focus (exact e_int))))); (focus (exact fun _ _ => rfl))))))))))); (focus (exact ss_nil))))))

noncomputable def F__law_written : FT := runFn false (bPlain 2) 1 p__law_written
theorem S__law_written (N : S3 K Kf mg mb) : SoundF K 1 (.ref 248) ([] : List Str) F__law_written := by
  obtain ⟨fd, X, hd, hk⟩ := N.x__law_written
  exact f_run (rest := (["word"] : List Str)) (kn := ([] : List Str)) N.G X (b_plain (ps := (["name", "x"] : List Str)) (fun ras h => by rw [fd_eta hd hk]; obtain ⟨a0, a1, rfl⟩ := len2 h; rfl)) (by decide) (kindsOk rfl) (noFree rfl) (fun L => w__law_written N fd)

noncomputable def p__netrclex___init__ : XS := (sCons (sSetF (setF 213 1) (xVar 0) (cI 1))
 (sCons (sSetF (setF 213 2) (xVar 0) (xVar 1))
 (sCons (sSetF (setF 213 3) (xVar 0) (cS "\n\t\r "))
 (sCons (sSetF (setF 213 4) (xVar 0) (xList false lNil))
 sNil))))
set_option maxHeartbeats 4000000 in
theorem w__netrclex___init__ (N : S3 K Kf mg mb) (fd : FuncData) {a L : Addr} : SoundSs K 0 (callEnvC (fdOf (clAt 7 0) fd) L a) (lk ((["self", "fp"] : List Str) ++ ([] : List Str))) (fBody (clAt 7 0)) p__netrclex___init__ := by
 conv => arg 5; whnf
 (refine ss_cons ?_ ?_; (focus ((refine s_setf (fld_set N.X N.attrs N.c__netrclex N.f__netrclex_lineno (by rw [N.attrs] ; rfl) rfl) ?_ ?_ ?_; (focus ((refine e_var ?_ ?_ ?_ ?_; (focus (exact .inl rfl)); (focus (exact rfl)); (focus (exact rfl)); (focus (exact rfl))))); (focus (exact e_int)); (focus (exact rfl))))); (focus ((refine ss_cons ?_ ?_; (focus ((refine s_setf (fld_set N.X N.attrs N.c__netrclex N.f__netrclex_instream (by rw [N.attrs] ; rfl) rfl) ?_ ?_ ?_; (focus ((refine e_var ?_ ?_ ?_ ?_; (focus (exact .inl rfl)); (focus (exact rfl)); (focus (exact rfl)); (focus (exact rfl))))); (focus ((refine e_var ?_ ?_ ?_ ?_; (focus (exact .inl rfl)); (focus (exact rfl)); (focus (exact rfl)); (focus (exact rfl))))); (focus (exact rfl))))); (focus ((refine ss_cons ?_ ?_; (focus ((refine s_setf (fld_set N.X N.attrs N.c__netrclex N.f__netrclex_whitespace (by rw [N.attrs] ; rfl) rfl) ?_ ?_ ?_; (focus ((refine e_var ?_ ?_ ?_ ?_; (focus (exact .inl rfl)); (focus (exact rfl)); (focus (exact rfl)); (focus (exact rfl))))); (focus (exact e_str)); (focus (exact rfl))))); (focus ((refine ss_cons ?_ ?_; (focus ((refine s_setf (fld_set N.X N.attrs N.c__netrclex N.f__netrclex_pushback (by rw [N.attrs] ; rfl) rfl) ?_ ?_ ?_; (focus ((refine e_var ?_ ?_ ?_ ?_; (focus (exact .inl rfl)); (focus (exact rfl)); (focus (exact rfl)); (focus (exact rfl))))); (focus ((refine e_list ?_; (focus (exact l_nil))))); (focus (exact rfl))))); (focus (exact ss_nil))))))))))))

noncomputable def F__netrclex___init__ : FT := runFn false (bPlain 2) 0 p__netrclex___init__
theorem S__netrclex___init__ (N : S3 K Kf mg mb) : SoundF K 1 (.ref 189) ([] : List Str) F__netrclex___init__ := by
  obtain ⟨fd, X, hd, hk⟩ := N.x__netrclex___init__
  exact f_run (rest := ([] : List Str)) (kn := ([] : List Str)) N.G X (b_plain (ps := (["self", "fp"] : List Str)) (fun ras h => by rw [fd_eta hd hk]; obtain ⟨a0, a1, rfl⟩ := len2 h; rfl)) (by decide) (kindsOk rfl) (noFree rfl) (fun L => w__netrclex___init__ N fd)

noncomputable def F__netrclex : FT := mkInst 213 F__netrclex___init__
theorem S__netrclex (N : S3 K Kf mg mb) : SoundF K 2 (.ref 213) [] F__netrclex := f_make N.X (S__netrclex___init__ N) (cls_m N.c__netrclex) (met_f N.m__netrclex___init__) (met_t N.m__netrclex___init__)

noncomputable def p_Headers__convert_string_type : XS := (sCons (sIf (bCmp (opIsT false) (xCall fType (lCons (xVar 1) lNil)) (xG (.type "str"))) (sCons (sAssign 3 (xIte (bVal (xVar 2)) (xG (.ref 43)) (xG (.ref 48))))
 (sCons (sIf (bVal (xRe [43, 48] (xVar 3) (xVar 1))) (sCons sDead
 sNil) sNil)
 (sCons (sRet (xVar 1))
 sNil))) sNil)
 (sCons sDead
 sNil))
set_option maxHeartbeats 4000000 in
theorem w_Headers__convert_string_type (N : S3 K Kf mg mb) (fd : FuncData) {a L : Addr} : SoundSs K 0 (callEnvC (fdOf (clAt 5 1) fd) L a) (lk ((["self", "value", "name"] : List Str) ++ (["regex"] : List Str))) (fBody (clAt 5 1)) p_Headers__convert_string_type := by
 conv => arg 5; whnf
 (refine ss_cons ?_ ?_; (focus ((refine s_if ?_ ?_ ?_; (focus ((refine b_cmp ?_ ?_ ?_ ?_; (focus (exact s_isT)); (focus ((refine e_tcall N.G ?_ ?_ ?_ N.type0 N.type1 ?_ ?_; (focus (exact f_type)); (focus ((refine l_c ?_ ?_ ?_; (focus ((refine e_var ?_ ?_ ?_ ?_; (focus (exact .inl rfl)); (focus (exact rfl)); (focus (exact rfl)); (focus (exact rfl))))); (focus (exact l_nil)); (focus (exact rfl))))); (focus (exact rfl)); (focus (exact rfl)); (focus (exact rfl))))); (focus ((refine e_tname N.G ?_ N.str0 N.str1 ?_; (focus (exact rfl)); (focus (exact rfl))))); (focus (exact rfl))))); (focus ((refine ss_cons ?_ ?_; (focus ((refine s_assign ?_ ?_ ?_ ?_; (focus ((refine e_ite ?_ ?_ ?_; (focus ((refine b_val ?_ ?_; (focus ((refine e_var ?_ ?_ ?_ ?_; (focus (exact .inl rfl)); (focus (exact rfl)); (focus (exact rfl)); (focus (exact rfl))))); (focus (exact fun _ => rfl))))); (focus ((refine e_glob N.G ?_ N.g__name_disallowed_re ?_; (focus (exact rfl)); (focus (exact rfl))))); (focus ((refine e_glob N.G ?_ N.g__value_disallowed_re ?_; (focus (exact rfl)); (focus (exact rfl)))))))); (focus (exact .inl rfl)); (focus (exact rfl)); (focus (exact rfl))))); (focus ((refine ss_cons ?_ ?_; (focus ((refine s_if ?_ ?_ ?_; (focus ((refine b_val ?_ ?_; (focus ((refine e_re N.re ?_ ?_ ?_ ?_ ?_ ?_; (focus ((refine e_var ?_ ?_ ?_ ?_; (focus (exact .inl rfl)); (focus (exact rfl)); (focus (exact rfl)); (focus (exact rfl))))); (focus ((refine e_var ?_ ?_ ?_ ?_; (focus (exact .inl rfl)); (focus (exact rfl)); (focus (exact rfl)); (focus (exact rfl))))); (focus (exact rfl)); (focus (exact rfl)); (focus (exact rfl)); (focus (exact rfl))))); (focus (exact fun _ => rfl))))); (focus ((refine ss_cons ?_ ?_; (focus (exact s_dead)); (focus (exact ss_nil))))); (focus (exact ss_nil))))); (focus ((refine ss_cons ?_ ?_; (focus ((refine s_ret ?_; (focus ((refine e_var ?_ ?_ ?_ ?_; (focus (exact .inl rfl)); (focus (exact rfl)); (focus (exact rfl)); (focus (exact rfl)))))))); (focus (exact ss_nil))))))))))); (focus (exact ss_nil))))); (focus ((refine ss_cons ?_ ?_; (focus (exact s_dead)); (focus (exact ss_nil))))))

noncomputable def F_Headers__convert_string_type : FT := runFn false (bPlain 3) 1 p_Headers__convert_string_type
theorem S_Headers__convert_string_type (N : S3 K Kf mg mb) : SoundF K 1 (.ref 70) (["name"] : List Str) F_Headers__convert_string_type := by
  obtain ⟨fd, X, hd, hk⟩ := N.x_Headers__convert_string_type
  exact f_run (rest := (["regex"] : List Str)) (kn := (["name"] : List Str)) N.G X (b_plainK (kn := (["name"] : List Str)) (ps := (["self", "value", "name"] : List Str)) (fun ras ks h1 h2 => by rw [fd_eta hd hk]; obtain ⟨k0, rfl⟩ := len1 h1; obtain ⟨a0, a1, rfl⟩ := len2 (show ras.length = 2 from by simpa using h2); rfl)) (by decide) (kindsOk rfl) (noFree rfl) (fun L => w_Headers__convert_string_type N fd)

noncomputable def p_Headers___init__ : XS := (sCons (sAssign 1 (xIte (bCmp opIsNot (xVar 1) cNone) (xVar 1) (xList false lNil)))
 (sCons (sIf (bCmp (opIsT true) (xCall fType (lCons (xVar 1) lNil)) (xG (.type "list"))) (sCons sDead
 sNil) sNil)
 (sCons (sSetF (setF 171 0) (xVar 0) (xVar 1))
 (sCons (sIf (bVal (cB true)) (sCons (sFor (tTuple 2 (tsCons (tName 2) (tsCons (tName 3) tsNil))) (xVar 1) (sCons (sExpr (xMeth 171 F_Headers__convert_string_type (xVar 0) (lCons (xVar 2) lNil) (lCons (cB true) lNil)))
 (sCons (sExpr (xMeth 171 F_Headers__convert_string_type (xVar 0) (lCons (xVar 3) lNil) (lCons (cB false) lNil)))
 sNil)))
 sNil) sNil)
 sNil))))
set_option maxHeartbeats 4000000 in
theorem w_Headers___init__ (N : S3 K Kf mg mb) (fd : FuncData) {a L : Addr} : SoundSs K 1 (callEnvC (fdOf (clAt 5 0) fd) L a) (lk ((["self", "headers"] : List Str) ++ (["k", "v"] : List Str))) (fBody (clAt 5 0)) p_Headers___init__ := by
 conv => arg 5; whnf
 (refine ss_cons ?_ ?_; (focus ((refine s_assign ?_ ?_ ?_ ?_; (focus ((refine e_ite ?_ ?_ ?_; (focus ((refine b_cmp ?_ ?_ ?_ ?_; (focus (exact s_isNot)); (focus ((refine e_var ?_ ?_ ?_ ?_; (focus (exact .inl rfl)); (focus (exact rfl)); (focus (exact rfl)); (focus (exact rfl))))); (focus (exact e_none)); (focus (exact rfl))))); (focus ((refine e_var ?_ ?_ ?_ ?_; (focus (exact .inl rfl)); (focus (exact rfl)); (focus (exact rfl)); (focus (exact rfl))))); (focus ((refine e_list ?_; (focus (exact l_nil)))))))); (focus (exact .inl rfl)); (focus (exact rfl)); (focus (exact rfl))))); (focus ((refine ss_cons ?_ ?_; (focus ((refine s_if ?_ ?_ ?_; (focus ((refine b_cmp ?_ ?_ ?_ ?_; (focus (exact s_isNotT)); (focus ((refine e_tcall N.G ?_ ?_ ?_ N.type0 N.type1 ?_ ?_; (focus (exact f_type)); (focus ((refine l_c ?_ ?_ ?_; (focus ((refine e_var ?_ ?_ ?_ ?_; (focus (exact .inl rfl)); (focus (exact rfl)); (focus (exact rfl)); (focus (exact rfl))))); (focus (exact l_nil)); (focus (exact rfl))))); (focus (exact rfl)); (focus (exact rfl)); (focus (exact rfl))))); (focus ((refine e_tname N.G ?_ N.list0 N.list1 ?_; (focus (exact rfl)); (focus (exact rfl))))); (focus (exact rfl))))); (focus ((refine ss_cons ?_ ?_; (focus (exact s_dead)); (focus (exact ss_nil))))); (focus (exact ss_nil))))); (focus ((refine ss_cons ?_ ?_; (focus ((refine s_setf (fld_set N.X N.attrs N.c_Headers N.f_Headers__headers (by rw [N.attrs] ; rfl) rfl) ?_ ?_ ?_; (focus ((refine e_var ?_ ?_ ?_ ?_; (focus (exact .inl rfl)); (focus (exact rfl)); (focus (exact rfl)); (focus (exact rfl))))); (focus ((refine e_var ?_ ?_ ?_ ?_; (focus (exact .inl rfl)); (focus (exact rfl)); (focus (exact rfl)); (focus (exact rfl))))); (focus (exact rfl))))); (focus ((refine ss_cons ?_ ?_; (focus ((refine s_if ?_ ?_ ?_; (focus ((refine b_val ?_ ?_; (focus (exact e_bool)); (focus (exact fun _ => rfl))))); (focus ((refine ss_cons ?_ ?_; (focus ((refine s_for ?_ ?_ ?_ ?_; (focus ((refine t_tuple ?_; (focus ((refine ts_cons ?_ ?_ ?_; (focus ((refine t_name ?_ ?_; (focus (exact .inl rfl)); (focus (exact rfl))))); (focus ((refine ts_cons ?_ ?_ ?_; (focus ((refine t_name ?_ ?_; (focus (exact .inl rfl)); (focus (exact rfl))))); (focus (exact ts_nil)); (focus (exact rfl))))); (focus (exact rfl)))))))); (focus ((refine e_var ?_ ?_ ?_ ?_; (focus (exact .inl rfl)); (focus (exact rfl)); (focus (exact rfl)); (focus (exact rfl))))); (focus ((refine ss_cons ?_ ?_; (focus ((refine s_expr ?_ ?_ ?_; (focus ((refine e_meth_fn N.X N.x_Headers__convert_string_type N.m_Headers__convert_string_type ?_ ?_ ?_ ?_ ?_ ?_ ?_ ?_ ?_ ?_; (focus (exact SoundF.le (S_Headers__convert_string_type N) (by omega))); (focus ((refine e_var ?_ ?_ ?_ ?_; (focus (exact .inl rfl)); (focus (exact rfl)); (focus (exact rfl)); (focus (exact rfl))))); (focus ((refine l_c ?_ ?_ ?_; (focus ((refine e_var ?_ ?_ ?_ ?_; (focus (exact .inl rfl)); (focus (exact rfl)); (focus (exact rfl)); (focus (exact rfl))))); (focus (exact l_nil)); (focus (exact rfl))))); (focus ((refine k_cons ?_ ?_; (focus (exact e_bool)); (focus (exact k_nil))))); (focus (rw [N.attrs] ; decide)); (focus (exact rfl)); (focus (exact rfl)); (focus (exact rfl)); (focus (exact rfl)); (focus (exact rfl))))); (focus (exact rfl)); (focus (exact rfl))))); (focus ((refine ss_cons ?_ ?_; (focus ((refine s_expr ?_ ?_ ?_; (focus ((refine e_meth_fn N.X N.x_Headers__convert_string_type N.m_Headers__convert_string_type ?_ ?_ ?_ ?_ ?_ ?_ ?_ ?_ ?_ ?_; (focus (exact SoundF.le (S_Headers__convert_string_type N) (by omega))); (focus ((refine e_var ?_ ?_ ?_ ?_; (focus (exact .inl rfl)); (focus (exact rfl)); (focus (exact rfl)); (focus (exact rfl))))); (focus ((refine l_c ?_ ?_ ?_; (focus ((refine e_var ?_ ?_ ?_ ?_; (focus (exact .inl rfl)); (focus (exact rfl)); (focus (exact rfl)); (focus (exact rfl))))); (focus (exact l_nil)); (focus (exact rfl))))); (focus ((refine k_cons ?_ ?_; (focus (exact e_bool)); (focus (exact k_nil))))); (focus (rw [N.attrs] ; decide)); (focus (exact rfl)); (focus (exact rfl)); (focus (exact rfl)); (focus (exact rfl)); (focus (exact rfl))))); (focus (exact rfl)); (focus (exact rfl))))); (focus (exact ss_nil)))))))); (focus (exact fun _ => rfl))))); (focus (exact ss_nil))))); (focus (exact ss_nil))))); (focus (exact ss_nil))))))))))))

noncomputable def F_Headers___init__ : FT := runFn false (bPlain 2) 2 p_Headers___init__
theorem S_Headers___init__ (N : S3 K Kf mg mb) : SoundF K 2 (.ref 63) ([] : List Str) F_Headers___init__ := by
  obtain ⟨fd, X, hd, hk⟩ := N.x_Headers___init__
  exact f_run (rest := (["k", "v"] : List Str)) (kn := ([] : List Str)) N.G X (b_peek N.X (ps := (["self", "headers"] : List Str)) (fun ras h S => by obtain ⟨a0, a1, rfl⟩ := len2 h; exact N.bd_Headers___init__ _ S _ _ hd hk)) (by decide) (kindsOk rfl) (noFree rfl) (fun L => w_Headers___init__ N fd)

noncomputable def F_Headers : FT := mkInst 171 F_Headers___init__
theorem S_Headers (N : S3 K Kf mg mb) : SoundF K 3 (.ref 171) [] F_Headers := f_make N.X (S_Headers___init__ N) (cls_m N.c_Headers) (met_f N.m_Headers___init__) (met_t N.m_Headers___init__)

noncomputable def p_Headers_keys : XS := (sCons (sRet (xComp false 2 (tTuple 2 (tsCons (tName 0) (tsCons (tName 1) tsNil))) (xUn (getF 171 0) (xVar 0)) iNil (xVar 0)))
 sNil)
set_option maxHeartbeats 4000000 in
theorem w_Headers_keys (N : S3 K Kf mg mb) (fd : FuncData) {a L : Addr} : SoundSs K 0 (callEnvC (fdOf (clAt 5 9) fd) L a) (lk ((["self"] : List Str) ++ ([] : List Str))) (fBody (clAt 5 9)) p_Headers_keys := by
 conv => arg 5; whnf
 (refine ss_cons ?_ ?_; (focus ((refine s_ret ?_; (focus ((refine e_compB ["k", "v"] (m := false) ?_ ?_ ?_ ?_ ?_ ?_; (focus ((refine e_attr (fld_get N.X N.c_Headers N.f_Headers__headers (by rw [N.attrs] ; rfl)) ?_ ?_ ?_; (focus ((refine e_var ?_ ?_ ?_ ?_; (focus (exact .inl rfl)); (focus (exact rfl)); (focus (exact rfl)); (focus (exact rfl))))); (focus (exact rfl)); (focus (exact fun _ _ => rfl))))); (focus (intro _ _; (refine tl_tuple ?_; (focus ((refine tls_cons ?_ ?_ ?_; (focus ((refine tl_name ?_ ?_; (focus (exact rfl)); (focus (exact rfl))))); (focus ((refine tls_cons ?_ ?_ ?_; (focus ((refine tl_name ?_ ?_; (focus (exact rfl)); (focus (exact rfl))))); (focus (exact tls_nil)); (focus (exact rfl))))); (focus (exact rfl)))))))); (focus (intro _ _; exact i_nil)); (focus (intro _ _; (refine e_var ?_ ?_ ?_ ?_; (focus (exact .inl rfl)); (focus (exact rfl)); (focus (exact rfl)); (focus (exact rfl))))); (focus (exact rfl)); (focus (exact fun _ => rfl)))))))); (focus (exact ss_nil)))

noncomputable def F_Headers_keys : FT := runFn false (bPlain 1) 0 p_Headers_keys
theorem S_Headers_keys (N : S3 K Kf mg mb) : SoundF K 1 (.ref 123) ([] : List Str) F_Headers_keys := by
  obtain ⟨fd, X, hd, hk⟩ := N.x_Headers_keys
  exact f_run (rest := ([] : List Str)) (kn := ([] : List Str)) N.G X (b_plain (ps := (["self"] : List Str)) (fun ras h => by rw [fd_eta hd hk]; obtain ⟨a0, rfl⟩ := len1 h; rfl)) (by decide) (kindsOk rfl) (noFree rfl) (fun L => w_Headers_keys N fd)

noncomputable def p__law_due : XS := (sCons (sAssign 1 (cS ""))
 (sCons (sFor (tName 2) (xCall fRange (lCons (cI 1) (lCons (cI 5) lNil))) (sCons (sAssign 3 (xBin opItem (xList false (lStrs ["a", "ba", "cba", "dcba"])) (xBin opSub (xVar 2) (cI 1))))
 (sCons (sAssign 4 (xComp false 1 (tName 0) (xSlice (xVar 0) (pSome (xMethL mIndex (xVar 0) (lCons (xVar 2) lNil))) pNone) (bCmp opLt (xVar 0) (xVar 3)) (xVar 0)))
 (sCons (sAug opIAdd 1 (xSlice (xVar 3) pNone (pSome (xCall fLen (lCons (xVar 4) lNil)))))
 sNil))))
 (sCons (sRet (xVar 1))
 sNil)))
set_option maxHeartbeats 4000000 in
theorem w__law_due (N : S3 K Kf mg mb) (fd : FuncData) {a L : Addr} : SoundSs K 0 (callEnvC (fdOf (stAt 18) fd) L a) (lk ((["order"] : List Str) ++ (["due", "i", "run", "behind"] : List Str))) (fBody (stAt 18)) p__law_due := by
 conv => arg 5; whnf
 (refine ss_cons ?_ ?_; (focus ((refine s_assign ?_ ?_ ?_ ?_; (focus (exact e_str)); (focus (exact .inl rfl)); (focus (exact rfl)); (focus (exact rfl))))); (focus ((refine ss_cons ?_ ?_; (focus ((refine s_for ?_ ?_ ?_ ?_; (focus ((refine t_name ?_ ?_; (focus (exact .inr rfl)); (focus (exact rfl))))); (focus ((refine e_tcall N.G ?_ ?_ ?_ N.range0 N.range1 ?_ ?_; (focus (exact f_range)); (focus ((refine l_c ?_ ?_ ?_; (focus (exact e_int)); (focus ((refine l_c ?_ ?_ ?_; (focus (exact e_int)); (focus (exact l_nil)); (focus (exact rfl))))); (focus (exact rfl))))); (focus (exact rfl)); (focus (exact rfl)); (focus (exact rfl))))); (focus ((refine ss_cons ?_ ?_; (focus ((refine s_assign ?_ ?_ ?_ ?_; (focus ((refine e_sub ?_ ?_ ?_; (focus ((refine e_list ?_; (focus ((refine l_strs ?_; (focus (exact rfl)))))))); (focus ((refine e_bin ?_ ?_ ?_; (focus (exact s_sub)); (focus ((refine e_var ?_ ?_ ?_ ?_; (focus (exact .inr (.inl rfl))); (focus (exact rfl)); (focus (exact rfl)); (focus (exact rfl))))); (focus (exact e_int))))); (focus (exact fun _ _ => rfl))))); (focus (exact .inl rfl)); (focus (exact rfl)); (focus (exact rfl))))); (focus ((refine ss_cons ?_ ?_; (focus ((refine s_compB ["j"] (m := false) ?_ ?_ ?_ ?_ ?_ ?_ ?_ ?_ ?_; (focus ((refine e_slice ?_ ?_ ?_; (focus ((refine e_var ?_ ?_ ?_ ?_; (focus (exact .inl rfl)); (focus (exact rfl)); (focus (exact rfl)); (focus (exact rfl))))); (focus ((refine p_some ?_; (focus ((refine e_methL (id := "list.index") ?_ ?_ ?_ ?_ ?_ ?_ ?_ ?_; (focus (exact m_index)); (focus ((refine e_var ?_ ?_ ?_ ?_; (focus (exact .inl rfl)); (focus (exact rfl)); (focus (exact rfl)); (focus (exact rfl))))); (focus ((refine l_c ?_ ?_ ?_; (focus ((refine e_var ?_ ?_ ?_ ?_; (focus (exact .inr (.inl rfl))); (focus (exact rfl)); (focus (exact rfl)); (focus (exact rfl))))); (focus (exact l_nil)); (focus (exact rfl))))); (focus (exact PySem.F.slot_list_index)); (focus (exact PySem.F.type_list_index)); (focus (exact rfl)); (focus (exact rfl)); (focus (exact rfl)))))))); (focus (exact p_none))))); (focus (intro _ _; (refine tl_name ?_ ?_; (focus (exact rfl)); (focus (exact rfl))))); (focus (intro _ _; (refine i_one ?_; (focus ((refine b_cmp ?_ ?_ ?_ ?_; (focus (exact s_lt)); (focus ((refine e_var ?_ ?_ ?_ ?_; (focus (exact .inl rfl)); (focus (exact rfl)); (focus (exact rfl)); (focus (exact rfl))))); (focus ((refine e_var ?_ ?_ ?_ ?_; (focus (exact .inr (.inl rfl))); (focus (exact rfl)); (focus (exact rfl)); (focus (exact rfl))))); (focus (exact rfl)))))))); (focus (intro _ _; (refine e_var ?_ ?_ ?_ ?_; (focus (exact .inl rfl)); (focus (exact rfl)); (focus (exact rfl)); (focus (exact rfl))))); (focus (exact rfl)); (focus (exact fun _ => rfl)); (focus (exact rfl)); (focus (exact rfl)); (focus (exact rfl))))); (focus ((refine ss_cons ?_ ?_; (focus ((refine s_aug ?_ ?_ ?_ ?_; (focus (exact s_iadd)); (focus ((refine e_slice ?_ ?_ ?_; (focus ((refine e_var ?_ ?_ ?_ ?_; (focus (exact .inl rfl)); (focus (exact rfl)); (focus (exact rfl)); (focus (exact rfl))))); (focus (exact p_none)); (focus ((refine p_some ?_; (focus ((refine e_bcall N.G ?_ ?_ ?_ N.len0 N.len1 ?_ ?_; (focus (exact f_len)); (focus ((refine l_c ?_ ?_ ?_; (focus ((refine e_var ?_ ?_ ?_ ?_; (focus (exact .inl rfl)); (focus (exact rfl)); (focus (exact rfl)); (focus (exact rfl))))); (focus (exact l_nil)); (focus (exact rfl))))); (focus (exact rfl)); (focus (exact rfl)); (focus (exact rfl))))))))))); (focus (exact .inl rfl)); (focus (exact rfl))))); (focus (exact ss_nil))))))))))); (focus (exact fun _ => rfl))))); (focus ((refine ss_cons ?_ ?_; (focus ((refine s_ret ?_; (focus ((refine e_var ?_ ?_ ?_ ?_; (focus (exact .inl rfl)); (focus (exact rfl)); (focus (exact rfl)); (focus (exact rfl)))))))); (focus (exact ss_nil)))))))))

noncomputable def F__law_due : FT := runFn false (bPlain 1) 4 p__law_due
theorem S__law_due (N : S3 K Kf mg mb) : SoundF K 1 (.ref 272) ([] : List Str) F__law_due := by
  obtain ⟨fd, X, hd, hk⟩ := N.x__law_due
  exact f_run (rest := (["due", "i", "run", "behind"] : List Str)) (kn := ([] : List Str)) N.G X (b_plain (ps := (["order"] : List Str)) (fun ras h => by rw [fd_eta hd hk]; obtain ⟨a0, rfl⟩ := len1 h; rfl)) (by decide) (kindsOk rfl) (noFree rfl) (fun L => w__law_due N fd)

noncomputable def p__law_order : XS := (sCons (sAssign 1 (xComp true 1 (tName 0) (xCall fRange (lCons (cI 5) lNil)) iNil (xBin opSub (xVar 0) (cI 5))))
 (sCons (sFor (tName 2) (xCall fRange (lCons (xCall fLen (lCons (xVar 0) lNil)) lNil)) (sCons (sPut (xVar 1) (xBin opItem (xVar 0) (xVar 2)) (xVar 2))
 sNil))
 (sCons (sAssign 3 (xList true lNil))
 (sCons (sFor (tName 2) (xCall fRange (lCons (xNeg (cI 5)) (lCons (xCall fLen (lCons (xVar 0) lNil)) lNil))) (sCons (sAug opIAdd 3 (xComp false 1 (tName 0) (xCall fRange (lCons (cI 5) lNil)) (bCmp opEq (xBin opItem (xVar 2) (xVar 0)) (xVar 3)) (xVar 0)))
 sNil))
 (sCons (sRet (xVar 3))
 sNil)))))
set_option maxHeartbeats 4000000 in
theorem w__law_order (N : S3 K Kf mg mb) (fd : FuncData) {a L : Addr} : SoundSs K 0 (callEnvC (fdOf (stAt 17) fd) L a) (lk ((["things"] : List Str) ++ (["last", "k", "order"] : List Str))) (fBody (stAt 17)) p__law_order := by
 conv => arg 5; whnf
 (refine ss_cons ?_ ?_; (focus ((refine s_assign ?_ ?_ ?_ ?_; (focus ((refine e_compB ["i"] (m := true) ?_ ?_ ?_ ?_ ?_ ?_; (focus ((refine e_tcall N.G ?_ ?_ ?_ N.range0 N.range1 ?_ ?_; (focus (exact f_range)); (focus ((refine l_c ?_ ?_ ?_; (focus (exact e_int)); (focus (exact l_nil)); (focus (exact rfl))))); (focus (exact rfl)); (focus (exact rfl)); (focus (exact rfl))))); (focus (intro _ _; (refine tl_name ?_ ?_; (focus (exact rfl)); (focus (exact rfl))))); (focus (intro _ _; exact i_nil)); (focus (intro _ _; (refine e_bin ?_ ?_ ?_; (focus (exact s_sub)); (focus ((refine e_var ?_ ?_ ?_ ?_; (focus (exact .inl rfl)); (focus (exact rfl)); (focus (exact rfl)); (focus (exact rfl))))); (focus (exact e_int))))); (focus (exact rfl)); (focus (exact fun _ => rfl))))); (focus (exact .inr rfl)); (focus (exact rfl)); (focus (exact rfl))))); (focus ((refine ss_cons ?_ ?_; (focus ((refine s_for ?_ ?_ ?_ ?_; (focus ((refine t_name ?_ ?_; (focus (exact .inr rfl)); (focus (exact rfl))))); (focus ((refine e_tcall N.G ?_ ?_ ?_ N.range0 N.range1 ?_ ?_; (focus (exact f_range)); (focus ((refine l_c ?_ ?_ ?_; (focus ((refine e_bcall N.G ?_ ?_ ?_ N.len0 N.len1 ?_ ?_; (focus (exact f_len)); (focus ((refine l_c ?_ ?_ ?_; (focus ((refine e_var ?_ ?_ ?_ ?_; (focus (exact .inl rfl)); (focus (exact rfl)); (focus (exact rfl)); (focus (exact rfl))))); (focus (exact l_nil)); (focus (exact rfl))))); (focus (exact rfl)); (focus (exact rfl)); (focus (exact rfl))))); (focus (exact l_nil)); (focus (exact rfl))))); (focus (exact rfl)); (focus (exact rfl)); (focus (exact rfl))))); (focus ((refine ss_cons ?_ ?_; (focus ((refine s_put ?_ ?_ ?_ ?_; (focus ((refine e_var ?_ ?_ ?_ ?_; (focus (exact .inr (.inl rfl))); (focus (exact rfl)); (focus (exact rfl)); (focus (exact rfl))))); (focus ((refine e_var ?_ ?_ ?_ ?_; (focus (exact .inr (.inl rfl))); (focus (exact rfl)); (focus (exact rfl)); (focus (exact rfl))))); (focus ((refine e_sub ?_ ?_ ?_; (focus ((refine e_var ?_ ?_ ?_ ?_; (focus (exact .inl rfl)); (focus (exact rfl)); (focus (exact rfl)); (focus (exact rfl))))); (focus ((refine e_var ?_ ?_ ?_ ?_; (focus (exact .inr (.inl rfl))); (focus (exact rfl)); (focus (exact rfl)); (focus (exact rfl))))); (focus (exact fun _ _ => rfl))))); (focus (exact rfl))))); (focus (exact ss_nil))))); (focus (exact fun _ => rfl))))); (focus ((refine ss_cons ?_ ?_; (focus ((refine s_assign ?_ ?_ ?_ ?_; (focus ((refine e_list (m := true) ?_; (focus (exact l_nil))))); (focus (exact .inl rfl)); (focus (exact rfl)); (focus (exact rfl))))); (focus ((refine ss_cons ?_ ?_; (focus ((refine s_for ?_ ?_ ?_ ?_; (focus ((refine t_name ?_ ?_; (focus (exact .inr rfl)); (focus (exact rfl))))); (focus ((refine e_tcall N.G ?_ ?_ ?_ N.range0 N.range1 ?_ ?_; (focus (exact f_range)); (focus ((refine l_c ?_ ?_ ?_; (focus ((refine e_neg ?_; (focus (exact e_int))))); (focus ((refine l_c ?_ ?_ ?_; (focus ((refine e_bcall N.G ?_ ?_ ?_ N.len0 N.len1 ?_ ?_; (focus (exact f_len)); (focus ((refine l_c ?_ ?_ ?_; (focus ((refine e_var ?_ ?_ ?_ ?_; (focus (exact .inl rfl)); (focus (exact rfl)); (focus (exact rfl)); (focus (exact rfl))))); (focus (exact l_nil)); (focus (exact rfl))))); (focus (exact rfl)); (focus (exact rfl)); (focus (exact rfl))))); (focus (exact l_nil)); (focus (exact rfl))))); (focus (exact rfl))))); (focus (exact rfl)); (focus (exact rfl)); (focus (exact rfl))))); (focus ((refine ss_cons ?_ ?_; (focus ((refine s_aug ?_ ?_ ?_ ?_; (focus (exact s_iadd)); (focus ((refine e_compB ["i"] (m := false) ?_ ?_ ?_ ?_ ?_ ?_; (focus ((refine e_tcall N.G ?_ ?_ ?_ N.range0 N.range1 ?_ ?_; (focus (exact f_range)); (focus ((refine l_c ?_ ?_ ?_; (focus (exact e_int)); (focus (exact l_nil)); (focus (exact rfl))))); (focus (exact rfl)); (focus (exact rfl)); (focus (exact rfl))))); (focus (intro _ _; (refine tl_name ?_ ?_; (focus (exact rfl)); (focus (exact rfl))))); (focus (intro _ _; (refine i_one ?_; (focus ((refine b_cmp ?_ ?_ ?_ ?_; (focus (exact s_eq)); (focus ((refine e_sub ?_ ?_ ?_; (focus ((refine e_var ?_ ?_ ?_ ?_; (focus (exact .inr (.inl rfl))); (focus (exact rfl)); (focus (exact rfl)); (focus (exact rfl))))); (focus ((refine e_var ?_ ?_ ?_ ?_; (focus (exact .inl rfl)); (focus (exact rfl)); (focus (exact rfl)); (focus (exact rfl))))); (focus (exact fun _ _ => rfl))))); (focus ((refine e_var ?_ ?_ ?_ ?_; (focus (exact .inr (.inl rfl))); (focus (exact rfl)); (focus (exact rfl)); (focus (exact rfl))))); (focus (exact rfl)))))))); (focus (intro _ _; (refine e_var ?_ ?_ ?_ ?_; (focus (exact .inl rfl)); (focus (exact rfl)); (focus (exact rfl)); (focus (exact rfl))))); (focus (exact rfl)); (focus (exact fun _ => rfl))))); (focus (exact .inl rfl)); (focus (exact rfl))))); (focus (exact ss_nil))))); (focus (exact fun _ => rfl))))); (focus ((refine ss_cons ?_ ?_; (focus ((refine s_ret ?_; (focus ((refine e_var ?_ ?_ ?_ ?_; (focus (exact .inl rfl)); (focus (exact rfl)); (focus (exact rfl)); (focus (exact rfl)))))))); (focus (exact ss_nil)))))))))))))))

noncomputable def F__law_order : FT := runFn false (bPlain 1) 3 p__law_order
theorem S__law_order (N : S3 K Kf mg mb) : SoundF K 1 (.ref 267) ([] : List Str) F__law_order := by
  obtain ⟨fd, X, hd, hk⟩ := N.x__law_order
  exact f_run (rest := (["last", "k", "order"] : List Str)) (kn := ([] : List Str)) N.G X (b_plain (ps := (["things"] : List Str)) (fun ras h => by rw [fd_eta hd hk]; obtain ⟨a0, rfl⟩ := len1 h; rfl)) (by decide) (kindsOk rfl) (noFree rfl) (fun L => w__law_order N fd)

noncomputable def p_replace : XS := (sCons (sWhile (bVal (xVar 1)) (sCons (sAssign 0 (xMethS mJoin (xBin opItem (xVar 1) (cI 1)) (lCons (xMethS mSplit (xVar 0) (lCons (xBin opItem (xVar 1) (cI 0)) lNil)) lNil)))
 (sCons (sAssign 1 (xSlice (xVar 1) (pSome (cI 2)) pNone))
 sNil)))
 (sCons (sRet (xVar 0))
 sNil))
set_option maxHeartbeats 4000000 in
theorem w_replace (N : S3 K Kf mg mb) (fd : FuncData) {a L : Addr} : SoundSs K 0 (callEnvC (fdOf (stAt 9) fd) L a) (lk ((["text", "pairs"] : List Str) ++ ([] : List Str))) (fBody (stAt 9)) p_replace := by
 conv => arg 5; whnf
 (refine ss_cons ?_ ?_; (focus ((refine s_while ?_ ?_; (focus ((refine b_val ?_ ?_; (focus ((refine e_var ?_ ?_ ?_ ?_; (focus (exact .inl rfl)); (focus (exact rfl)); (focus (exact rfl)); (focus (exact rfl))))); (focus (exact fun _ => rfl))))); (focus ((refine ss_cons ?_ ?_; (focus ((refine s_assign ?_ ?_ ?_ ?_; (focus ((refine e_methS (id := "str.join") ?_ ?_ ?_ ?_ ?_ ?_ ?_ ?_; (focus (exact m_join)); (focus ((refine e_sub ?_ ?_ ?_; (focus ((refine e_var ?_ ?_ ?_ ?_; (focus (exact .inl rfl)); (focus (exact rfl)); (focus (exact rfl)); (focus (exact rfl))))); (focus (exact e_int)); (focus (exact fun _ _ => rfl))))); (focus ((refine l_c ?_ ?_ ?_; (focus ((refine e_methS (id := "str.split") ?_ ?_ ?_ ?_ ?_ ?_ ?_ ?_; (focus (exact m_split)); (focus ((refine e_var ?_ ?_ ?_ ?_; (focus (exact .inl rfl)); (focus (exact rfl)); (focus (exact rfl)); (focus (exact rfl))))); (focus ((refine l_c ?_ ?_ ?_; (focus ((refine e_sub ?_ ?_ ?_; (focus ((refine e_var ?_ ?_ ?_ ?_; (focus (exact .inl rfl)); (focus (exact rfl)); (focus (exact rfl)); (focus (exact rfl))))); (focus (exact e_int)); (focus (exact fun _ _ => rfl))))); (focus (exact l_nil)); (focus (exact rfl))))); (focus (exact PySem.F.slot_str_split)); (focus (exact PySem.F.type_str_split)); (focus (exact rfl)); (focus (exact rfl)); (focus (exact rfl))))); (focus (exact l_nil)); (focus (exact rfl))))); (focus (exact PySem.F.slot_str_join)); (focus (exact PySem.F.type_str_join)); (focus (exact rfl)); (focus (exact rfl)); (focus (exact rfl))))); (focus (exact .inl rfl)); (focus (exact rfl)); (focus (exact rfl))))); (focus ((refine ss_cons ?_ ?_; (focus ((refine s_assign ?_ ?_ ?_ ?_; (focus ((refine e_slice ?_ ?_ ?_; (focus ((refine e_var ?_ ?_ ?_ ?_; (focus (exact .inl rfl)); (focus (exact rfl)); (focus (exact rfl)); (focus (exact rfl))))); (focus ((refine p_some ?_; (focus (exact e_int))))); (focus (exact p_none))))); (focus (exact .inl rfl)); (focus (exact rfl)); (focus (exact rfl))))); (focus (exact ss_nil))))))))))); (focus ((refine ss_cons ?_ ?_; (focus ((refine s_ret ?_; (focus ((refine e_var ?_ ?_ ?_ ?_; (focus (exact .inl rfl)); (focus (exact rfl)); (focus (exact rfl)); (focus (exact rfl)))))))); (focus (exact ss_nil))))))

noncomputable def F_replace : FT := runFn false bStar 0 p_replace
theorem S_replace (N : S3 K Kf mg mb) : SoundF K 1 (.ref 224) ([] : List Str) F_replace := by
  obtain ⟨fd, X, hd, hk⟩ := N.x_replace
  exact f_run (rest := ([] : List Str)) (kn := ([] : List Str)) N.G X (b_star (fun a rest => by rw [fd_eta hd hk]; cases rest <;> rfl)) (by decide) (kindsOk rfl) (noFree rfl) (fun L => w_replace N fd)

noncomputable def p__law_rest : XS := (sCons (sWhile (bVal (cB true)) (sCons (sAssign 1 (xCall F_replace (lCons (xVar 0) (lStrs ["aa", "", "bb", "", "cc", "", "dd", "", "ca", "ac", "da", "ad", "db", "bd", "bab", "aba", "cbc", "bcb", "dcd", "cdc", "cbac", "bcba", "dcbd", "cdcb", "dcbad", "cdcba"]))))
 (sCons (sIf (bCmp opEq (xVar 1) (xVar 0)) (sCons (sRet (xVar 0))
 sNil) sNil)
 (sCons (sAssign 0 (xVar 1))
 sNil))))
 sNil)
set_option maxHeartbeats 4000000 in
theorem w__law_rest (N : S3 K Kf mg mb) (fd : FuncData) {a L : Addr} : SoundSs K 1 (callEnvC (fdOf (stAt 16) fd) L a) (lk ((["word"] : List Str) ++ (["less"] : List Str))) (fBody (stAt 16)) p__law_rest := by
 conv => arg 5; whnf
 (refine ss_cons ?_ ?_; (focus ((refine s_while ?_ ?_; (focus ((refine b_val ?_ ?_; (focus (exact e_bool)); (focus (exact fun _ => rfl))))); (focus ((refine ss_cons ?_ ?_; (focus ((refine s_assign ?_ ?_ ?_ ?_; (focus ((refine e_call_fn N.G (fnAt_of N.x_replace) ?_ ?_ ?_ N.g_replace ?_ ?_; (focus (exact SoundF.le (S_replace N) (by omega))); (focus ((refine l_c ?_ ?_ ?_; (focus ((refine e_var ?_ ?_ ?_ ?_; (focus (exact .inl rfl)); (focus (exact rfl)); (focus (exact rfl)); (focus (exact rfl))))); (focus ((refine l_strs ?_; (focus (exact rfl))))); (focus (exact rfl))))); (focus (exact rfl)); (focus (exact rfl)); (focus ((refine se_any ?_; (focus (exact rfl)))))))); (focus (exact .inl rfl)); (focus (exact rfl)); (focus (exact rfl))))); (focus ((refine ss_cons ?_ ?_; (focus ((refine s_if ?_ ?_ ?_; (focus ((refine b_cmp ?_ ?_ ?_ ?_; (focus (exact s_eq)); (focus ((refine e_var ?_ ?_ ?_ ?_; (focus (exact .inl rfl)); (focus (exact rfl)); (focus (exact rfl)); (focus (exact rfl))))); (focus ((refine e_var ?_ ?_ ?_ ?_; (focus (exact .inl rfl)); (focus (exact rfl)); (focus (exact rfl)); (focus (exact rfl))))); (focus (exact rfl))))); (focus ((refine ss_cons ?_ ?_; (focus ((refine s_ret ?_; (focus ((refine e_var ?_ ?_ ?_ ?_; (focus (exact .inl rfl)); (focus (exact rfl)); (focus (exact rfl)); (focus (exact rfl)))))))); (focus (exact ss_nil))))); (focus (exact ss_nil))))); (focus ((refine ss_cons ?_ ?_; (focus ((refine s_assign ?_ ?_ ?_ ?_; (focus ((refine e_var ?_ ?_ ?_ ?_; (focus (exact .inl rfl)); (focus (exact rfl)); (focus (exact rfl)); (focus (exact rfl))))); (focus (exact .inl rfl)); (focus (exact rfl)); (focus (exact rfl))))); (focus (exact ss_nil)))))))))))))); (focus (exact ss_nil)))

noncomputable def F__law_rest : FT := runFn false (bPlain 1) 1 p__law_rest
theorem S__law_rest (N : S3 K Kf mg mb) : SoundF K 2 (.ref 262) ([] : List Str) F__law_rest := by
  obtain ⟨fd, X, hd, hk⟩ := N.x__law_rest
  exact f_run (rest := (["less"] : List Str)) (kn := ([] : List Str)) N.G X (b_plain (ps := (["word"] : List Str)) (fun ras h => by rw [fd_eta hd hk]; obtain ⟨a0, rfl⟩ := len1 h; rfl)) (by decide) (kindsOk rfl) (noFree rfl) (fun L => w__law_rest N fd)

noncomputable def p_Headers___delitem__ : XS := (sCons (sAssign 1 (xMeth 171 F_Headers__convert_string_type (xVar 0) (lCons (xMethS mLower (xVar 1) lNil) lNil) (lCons (cB true) lNil)))
 (sCons (sPutAll (xUn (getF 171 0) (xVar 0)) (xComp false 1 (tName 0) (xUn (getF 171 0) (xVar 0)) (bCmp opNe (xMethS mLower (xBin opItem (xVar 0) (cI 0)) lNil) (xVar 2)) (xVar 0)))
 sNil))
set_option maxHeartbeats 4000000 in
theorem w_Headers___delitem__ (N : S3 K Kf mg mb) (fd : FuncData) {a L : Addr} : SoundSs K 1 (callEnvC (fdOf (clAt 5 4) fd) L a) (lk ((["self", "name"] : List Str) ++ ([] : List Str))) (fBody (clAt 5 4)) p_Headers___delitem__ := by
 conv => arg 5; whnf
 (refine ss_cons ?_ ?_; (focus ((refine s_assign ?_ ?_ ?_ ?_; (focus ((refine e_meth_fn N.X N.x_Headers__convert_string_type N.m_Headers__convert_string_type ?_ ?_ ?_ ?_ ?_ ?_ ?_ ?_ ?_ ?_; (focus (exact SoundF.le (S_Headers__convert_string_type N) (by omega))); (focus ((refine e_var ?_ ?_ ?_ ?_; (focus (exact .inl rfl)); (focus (exact rfl)); (focus (exact rfl)); (focus (exact rfl))))); (focus ((refine l_c ?_ ?_ ?_; (focus ((refine e_methS (id := "str.lower") ?_ ?_ ?_ ?_ ?_ ?_ ?_ ?_; (focus (exact m_lower)); (focus ((refine e_var ?_ ?_ ?_ ?_; (focus (exact .inr (.inl rfl))); (focus (exact rfl)); (focus (exact rfl)); (focus (exact rfl))))); (focus (exact l_nil)); (focus (exact PySem.F.slot_str_lower)); (focus (exact PySem.F.type_str_lower)); (focus (exact rfl)); (focus (exact rfl)); (focus (exact rfl))))); (focus (exact l_nil)); (focus (exact rfl))))); (focus ((refine k_cons ?_ ?_; (focus (exact e_bool)); (focus (exact k_nil))))); (focus (rw [N.attrs] ; decide)); (focus (exact rfl)); (focus (exact rfl)); (focus (exact rfl)); (focus (exact rfl)); (focus (exact rfl))))); (focus (exact .inr rfl)); (focus (exact rfl)); (focus (exact rfl))))); (focus ((refine ss_cons ?_ ?_; (focus ((refine s_putAll ?_ ?_ ?_; (focus ((refine e_compB ["kv"] (m := false) ?_ ?_ ?_ ?_ ?_ ?_; (focus ((refine e_attr (fld_get N.X N.c_Headers N.f_Headers__headers (by rw [N.attrs] ; rfl)) ?_ ?_ ?_; (focus ((refine e_var ?_ ?_ ?_ ?_; (focus (exact .inl rfl)); (focus (exact rfl)); (focus (exact rfl)); (focus (exact rfl))))); (focus (exact rfl)); (focus (exact fun _ _ => rfl))))); (focus (intro _ _; (refine tl_name ?_ ?_; (focus (exact rfl)); (focus (exact rfl))))); (focus (intro _ _; (refine i_one ?_; (focus ((refine b_cmp ?_ ?_ ?_ ?_; (focus (exact s_ne)); (focus ((refine e_methS (id := "str.lower") ?_ ?_ ?_ ?_ ?_ ?_ ?_ ?_; (focus (exact m_lower)); (focus ((refine e_sub ?_ ?_ ?_; (focus ((refine e_var ?_ ?_ ?_ ?_; (focus (exact .inl rfl)); (focus (exact rfl)); (focus (exact rfl)); (focus (exact rfl))))); (focus (exact e_int)); (focus (exact fun _ _ => rfl))))); (focus (exact l_nil)); (focus (exact PySem.F.slot_str_lower)); (focus (exact PySem.F.type_str_lower)); (focus (exact rfl)); (focus (exact rfl)); (focus (exact rfl))))); (focus ((refine e_var ?_ ?_ ?_ ?_; (focus (exact .inr (.inl rfl))); (focus (exact rfl)); (focus (exact rfl)); (focus (exact rfl))))); (focus (exact rfl)))))))); (focus (intro _ _; (refine e_var ?_ ?_ ?_ ?_; (focus (exact .inl rfl)); (focus (exact rfl)); (focus (exact rfl)); (focus (exact rfl))))); (focus (exact rfl)); (focus (exact fun _ => rfl))))); (focus ((refine e_attr (fld_get N.X N.c_Headers N.f_Headers__headers (by rw [N.attrs] ; rfl)) ?_ ?_ ?_; (focus ((refine e_var ?_ ?_ ?_ ?_; (focus (exact .inl rfl)); (focus (exact rfl)); (focus (exact rfl)); (focus (exact rfl))))); (focus (exact rfl)); (focus (exact fun _ _ => rfl))))); (focus (exact rfl))))); (focus (exact ss_nil))))))

noncomputable def F_Headers___delitem__ : FT := runFn false (bPlain 2) 0 p_Headers___delitem__
theorem S_Headers___delitem__ (N : S3 K Kf mg mb) : SoundF K 2 (.ref 89) ([] : List Str) F_Headers___delitem__ := by
  obtain ⟨fd, X, hd, hk⟩ := N.x_Headers___delitem__
  exact f_run (rest := ([] : List Str)) (kn := ([] : List Str)) N.G X (b_plain (ps := (["self", "name"] : List Str)) (fun ras h => by rw [fd_eta hd hk]; obtain ⟨a0, a1, rfl⟩ := len2 h; rfl)) (by decide) (kindsOk rfl) (noFree rfl) (fun L => w_Headers___delitem__ N fd)

noncomputable def p_Headers___setitem__ : XS := (sCons (sDelOwn 171 F_Headers___delitem__ (xVar 0) (xVar 1))
 (sCons (sExpr (xMethL mAppend (xUn (getF 171 0) (xVar 0)) (lCons (xTuple (lCons (xMeth 171 F_Headers__convert_string_type (xVar 0) (lCons (xVar 1) lNil) (lCons (cB true) lNil)) (lCons (xMeth 171 F_Headers__convert_string_type (xVar 0) (lCons (xVar 2) lNil) (lCons (cB false) lNil)) lNil))) lNil)))
 sNil))
set_option maxHeartbeats 4000000 in
theorem w_Headers___setitem__ (N : S3 K Kf mg mb) (fd : FuncData) {a L : Addr} : SoundSs K 2 (callEnvC (fdOf (clAt 5 3) fd) L a) (lk ((["self", "name", "val"] : List Str) ++ ([] : List Str))) (fBody (clAt 5 3)) p_Headers___setitem__ := by
 conv => arg 5; whnf
 (refine ss_cons ?_ ?_; (focus ((refine s_delOwn N.X ?_ ?_ ?_ (cls_q N.c_Headers) (met_f N.m_Headers___delitem__) (met_t N.m_Headers___delitem__); (focus (exact SoundF.le (S_Headers___delitem__ N) (by omega))); (focus ((refine e_var ?_ ?_ ?_ ?_; (focus (exact .inl rfl)); (focus (exact rfl)); (focus (exact rfl)); (focus (exact rfl))))); (focus ((refine e_var ?_ ?_ ?_ ?_; (focus (exact .inl rfl)); (focus (exact rfl)); (focus (exact rfl)); (focus (exact rfl)))))))); (focus ((refine ss_cons ?_ ?_; (focus ((refine s_expr ?_ ?_ ?_; (focus ((refine e_methL (id := "list.append") ?_ ?_ ?_ ?_ ?_ ?_ ?_ ?_; (focus (exact m_append)); (focus ((refine e_attr (fld_get N.X N.c_Headers N.f_Headers__headers (by rw [N.attrs] ; rfl)) ?_ ?_ ?_; (focus ((refine e_var ?_ ?_ ?_ ?_; (focus (exact .inl rfl)); (focus (exact rfl)); (focus (exact rfl)); (focus (exact rfl))))); (focus (exact rfl)); (focus (exact fun _ _ => rfl))))); (focus ((refine l_c ?_ ?_ ?_; (focus ((refine e_tuple ?_; (focus ((refine l_c ?_ ?_ ?_; (focus ((refine e_meth_fn N.X N.x_Headers__convert_string_type N.m_Headers__convert_string_type ?_ ?_ ?_ ?_ ?_ ?_ ?_ ?_ ?_ ?_; (focus (exact SoundF.le (S_Headers__convert_string_type N) (by omega))); (focus ((refine e_var ?_ ?_ ?_ ?_; (focus (exact .inl rfl)); (focus (exact rfl)); (focus (exact rfl)); (focus (exact rfl))))); (focus ((refine l_c ?_ ?_ ?_; (focus ((refine e_var ?_ ?_ ?_ ?_; (focus (exact .inl rfl)); (focus (exact rfl)); (focus (exact rfl)); (focus (exact rfl))))); (focus (exact l_nil)); (focus (exact rfl))))); (focus ((refine k_cons ?_ ?_; (focus (exact e_bool)); (focus (exact k_nil))))); (focus (rw [N.attrs] ; decide)); (focus (exact rfl)); (focus (exact rfl)); (focus (exact rfl)); (focus (exact rfl)); (focus (exact rfl))))); (focus ((refine l_c ?_ ?_ ?_; (focus ((refine e_meth_fn N.X N.x_Headers__convert_string_type N.m_Headers__convert_string_type ?_ ?_ ?_ ?_ ?_ ?_ ?_ ?_ ?_ ?_; (focus (exact SoundF.le (S_Headers__convert_string_type N) (by omega))); (focus ((refine e_var ?_ ?_ ?_ ?_; (focus (exact .inl rfl)); (focus (exact rfl)); (focus (exact rfl)); (focus (exact rfl))))); (focus ((refine l_c ?_ ?_ ?_; (focus ((refine e_var ?_ ?_ ?_ ?_; (focus (exact .inl rfl)); (focus (exact rfl)); (focus (exact rfl)); (focus (exact rfl))))); (focus (exact l_nil)); (focus (exact rfl))))); (focus ((refine k_cons ?_ ?_; (focus (exact e_bool)); (focus (exact k_nil))))); (focus (rw [N.attrs] ; decide)); (focus (exact rfl)); (focus (exact rfl)); (focus (exact rfl)); (focus (exact rfl)); (focus (exact rfl))))); (focus (exact l_nil)); (focus (exact rfl))))); (focus (exact rfl)))))))); (focus (exact l_nil)); (focus (exact rfl))))); (focus (exact PySem.F.slot_list_append)); (focus (exact PySem.F.type_list_append)); (focus (exact rfl)); (focus (exact rfl)); (focus (exact rfl))))); (focus (exact rfl)); (focus (exact rfl))))); (focus (exact ss_nil))))))

noncomputable def F_Headers___setitem__ : FT := runFn false (bPlain 3) 0 p_Headers___setitem__
theorem S_Headers___setitem__ (N : S3 K Kf mg mb) : SoundF K 3 (.ref 84) ([] : List Str) F_Headers___setitem__ := by
  obtain ⟨fd, X, hd, hk⟩ := N.x_Headers___setitem__
  exact f_run (rest := ([] : List Str)) (kn := ([] : List Str)) N.G X (b_plain (ps := (["self", "name", "val"] : List Str)) (fun ras h => by rw [fd_eta hd hk]; obtain ⟨a0, a1, a2, rfl⟩ := len3 h; rfl)) (by decide) (kindsOk rfl) (noFree rfl) (fun L => w_Headers___setitem__ N fd)

noncomputable def p__law_store : XS := (sCons (sPutOwn 171 F_Headers___setitem__ (xVar 0) (xVar 1) (xVar 2))
 sNil)
set_option maxHeartbeats 4000000 in
theorem w__law_store (N : S3 K Kf mg mb) (fd : FuncData) {a L : Addr} : SoundSs K 3 (callEnvC (fdOf (stAt 15) fd) L a) (lk ((["table", "name", "value"] : List Str) ++ ([] : List Str))) (fBody (stAt 15)) p__law_store := by
 conv => arg 5; whnf
 (refine ss_cons ?_ ?_; (focus ((refine s_putOwn N.X ?_ ?_ ?_ ?_ (cls_q N.c_Headers) (met_f N.m_Headers___setitem__) (met_t N.m_Headers___setitem__) ?_; (focus (exact SoundF.le (S_Headers___setitem__ N) (by omega))); (focus ((refine e_var ?_ ?_ ?_ ?_; (focus (exact .inl rfl)); (focus (exact rfl)); (focus (exact rfl)); (focus (exact rfl))))); (focus ((refine e_var ?_ ?_ ?_ ?_; (focus (exact .inl rfl)); (focus (exact rfl)); (focus (exact rfl)); (focus (exact rfl))))); (focus ((refine e_var ?_ ?_ ?_ ?_; (focus (exact .inl rfl)); (focus (exact rfl)); (focus (exact rfl)); (focus (exact rfl))))); (focus (exact rfl))))); (focus (exact ss_nil)))

noncomputable def F__law_store : FT := runFn false (bPlain 3) 0 p__law_store
theorem S__law_store (N : S3 K Kf mg mb) : SoundF K 4 (.ref 255) ([] : List Str) F__law_store := by
  obtain ⟨fd, X, hd, hk⟩ := N.x__law_store
  exact f_run (rest := ([] : List Str)) (kn := ([] : List Str)) N.G X (b_plain (ps := (["table", "name", "value"] : List Str)) (fun ras h => by rw [fd_eta hd hk]; obtain ⟨a0, a1, a2, rfl⟩ := len3 h; rfl)) (by decide) (kindsOk rfl) (noFree rfl) (fun L => w__law_store N fd)

noncomputable def p__netrclex__read_char : XS := (sCons (sAssign 1 (xRead (xUn (getF 213 2) (xVar 0))))
 (sCons (sIf (bCmp opEq (xVar 1) (cS "\n")) (sCons (sAugF (getF 213 1) opIAdd (setF 213 1) (xVar 0) (cI 1))
 sNil) sNil)
 (sCons (sRet (xVar 1))
 sNil)))
set_option maxHeartbeats 4000000 in
theorem w__netrclex__read_char (N : S3 K Kf mg mb) (fd : FuncData) {a L : Addr} : SoundSs K 1 (callEnvC (fdOf (clAt 7 1) fd) L a) (lk ((["self"] : List Str) ++ (["ch"] : List Str))) (fBody (clAt 7 1)) p__netrclex__read_char := by
 conv => arg 5; whnf
 (refine ss_cons ?_ ?_; (focus ((refine s_assign ?_ ?_ ?_ ?_; (focus ((refine e_read N.G N.rt ?_ ?_ ?_ ?_; (focus ((refine e_attr (fld_get N.X N.c__netrclex N.f__netrclex_instream (by rw [N.attrs] ; rfl)) ?_ ?_ ?_; (focus ((refine e_var ?_ ?_ ?_ ?_; (focus (exact .inl rfl)); (focus (exact rfl)); (focus (exact rfl)); (focus (exact rfl))))); (focus (exact rfl)); (focus (exact fun _ _ => rfl))))); (focus (exact rfl)); (focus (exact rfl)); (focus (exact rfl))))); (focus (exact .inl rfl)); (focus (exact rfl)); (focus (exact rfl))))); (focus ((refine ss_cons ?_ ?_; (focus ((refine s_if ?_ ?_ ?_; (focus ((refine b_cmp ?_ ?_ ?_ ?_; (focus (exact s_eq)); (focus ((refine e_var ?_ ?_ ?_ ?_; (focus (exact .inl rfl)); (focus (exact rfl)); (focus (exact rfl)); (focus (exact rfl))))); (focus (exact e_str)); (focus (exact rfl))))); (focus ((refine ss_cons ?_ ?_; (focus ((refine s_augf (fld_get N.X N.c__netrclex N.f__netrclex_lineno (by rw [N.attrs] ; rfl)) ?_ (fld_set N.X N.attrs N.c__netrclex N.f__netrclex_lineno (by rw [N.attrs] ; rfl) rfl) ?_ ?_; (focus (exact s_iadd)); (focus ((refine e_var ?_ ?_ ?_ ?_; (focus (exact .inl rfl)); (focus (exact rfl)); (focus (exact rfl)); (focus (exact rfl))))); (focus (exact e_int))))); (focus (exact ss_nil))))); (focus (exact ss_nil))))); (focus ((refine ss_cons ?_ ?_; (focus ((refine s_ret ?_; (focus ((refine e_var ?_ ?_ ?_ ?_; (focus (exact .inl rfl)); (focus (exact rfl)); (focus (exact rfl)); (focus (exact rfl)))))))); (focus (exact ss_nil)))))))))

noncomputable def F__netrclex__read_char : FT := runFn false (bPlain 1) 1 p__netrclex__read_char
theorem S__netrclex__read_char (N : S3 K Kf mg mb) : SoundF K 2 (.ref 196) ([] : List Str) F__netrclex__read_char := by
  obtain ⟨fd, X, hd, hk⟩ := N.x__netrclex__read_char
  exact f_run (rest := (["ch"] : List Str)) (kn := ([] : List Str)) N.G X (b_plain (ps := (["self"] : List Str)) (fun ras h => by rw [fd_eta hd hk]; obtain ⟨a0, rfl⟩ := len1 h; rfl)) (by decide) (kindsOk rfl) (noFree rfl) (fun L => w__netrclex__read_char N fd)

noncomputable def p__netrclex_get_token : XS := (sCons (sIf (bVal (xUn (getF 213 4) (xVar 0))) (sCons (sRet (xMethL mPop (xUn (getF 213 4) (xVar 0)) (lCons (cI 0) lNil)))
 sNil) sNil)
 (sCons (sAssign 1 (cS ""))
 (sCons (sAssign 2 (xIter 213 (xVar 0)))
 (sCons (sForC F__netrclex__read_char (tName 3) (xVar 2) (sCons (sIf (bCmp opIn (xVar 3) (xUn (getF 213 3) (xVar 0))) (sCons sCont
 sNil) sNil)
 (sCons (sIf (bCmp opEq (xVar 3) (cS "\"")) (sCons (sForC F__netrclex__read_char (tName 3) (xVar 2) (sCons (sIf (bCmp opEq (xVar 3) (cS "\"")) (sCons (sRet (xVar 1))
 sNil) (sCons (sIf (bCmp opEq (xVar 3) (cS "\\")) (sCons (sAssign 3 (xMeth 213 F__netrclex__read_char (xVar 0) lNil lNil))
 sNil) sNil)
 sNil))
 (sCons (sAug opIAdd 1 (xVar 3))
 sNil)))
 sNil) (sCons (sIf (bCmp opEq (xVar 3) (cS "\\")) (sCons (sAssign 3 (xMeth 213 F__netrclex__read_char (xVar 0) lNil lNil))
 sNil) sNil)
 (sCons (sAug opIAdd 1 (xVar 3))
 (sCons (sForC F__netrclex__read_char (tName 3) (xVar 2) (sCons (sIf (bCmp opIn (xVar 3) (xUn (getF 213 3) (xVar 0))) (sCons (sRet (xVar 1))
 sNil) (sCons (sIf (bCmp opEq (xVar 3) (cS "\\")) (sCons (sAssign 3 (xMeth 213 F__netrclex__read_char (xVar 0) lNil lNil))
 sNil) sNil)
 sNil))
 (sCons (sAug opIAdd 1 (xVar 3))
 sNil)))
 sNil))))
 sNil)))
 (sCons (sRet (xVar 1))
 sNil)))))
set_option maxHeartbeats 4000000 in
theorem w__netrclex_get_token (N : S3 K Kf mg mb) (fd : FuncData) {a L : Addr} : SoundSs K 3 (callEnvC (fdOf (clAt 7 2) fd) L a) (lk ((["self"] : List Str) ++ (["token", "fiter", "ch"] : List Str))) (fBody (clAt 7 2)) p__netrclex_get_token := by
 conv => arg 5; whnf
 (refine ss_cons ?_ ?_; (focus ((refine s_if ?_ ?_ ?_; (focus ((refine b_val ?_ ?_; (focus ((refine e_attr (fld_get N.X N.c__netrclex N.f__netrclex_pushback (by rw [N.attrs] ; rfl)) ?_ ?_ ?_; (focus ((refine e_var ?_ ?_ ?_ ?_; (focus (exact .inl rfl)); (focus (exact rfl)); (focus (exact rfl)); (focus (exact rfl))))); (focus (exact rfl)); (focus (exact fun _ _ => rfl))))); (focus (exact fun _ => rfl))))); (focus ((refine ss_cons ?_ ?_; (focus ((refine s_ret ?_; (focus ((refine e_methL (id := "list.pop") ?_ ?_ ?_ ?_ ?_ ?_ ?_ ?_; (focus (exact m_pop)); (focus ((refine e_attr (fld_get N.X N.c__netrclex N.f__netrclex_pushback (by rw [N.attrs] ; rfl)) ?_ ?_ ?_; (focus ((refine e_var ?_ ?_ ?_ ?_; (focus (exact .inl rfl)); (focus (exact rfl)); (focus (exact rfl)); (focus (exact rfl))))); (focus (exact rfl)); (focus (exact fun _ _ => rfl))))); (focus ((refine l_c ?_ ?_ ?_; (focus (exact e_int)); (focus (exact l_nil)); (focus (exact rfl))))); (focus (exact PySem.F.slot_list_pop)); (focus (exact PySem.F.type_list_pop)); (focus (exact rfl)); (focus (exact rfl)); (focus (exact rfl)))))))); (focus (exact ss_nil))))); (focus (exact ss_nil))))); (focus ((refine ss_cons ?_ ?_; (focus ((refine s_assign ?_ ?_ ?_ ?_; (focus (exact e_str)); (focus (exact .inl rfl)); (focus (exact rfl)); (focus (exact rfl))))); (focus ((refine ss_cons ?_ ?_; (focus ((refine s_assign ?_ ?_ ?_ ?_; (focus ((refine e_iter N.G N.X ?_ ?_ N.iter0 N.iter1 ?_ (met_g N.rcm) (cls_d N.c__netrclex) (met_f N.rcm) (met_t N.rcm) N.rc1 N.rc2 ?_ ?_ ?_ ?_ ?_ ?_ ?_; (focus ((refine e_var ?_ ?_ ?_ ?_; (focus (exact .inl rfl)); (focus (exact rfl)); (focus (exact rfl)); (focus (exact rfl))))); (focus (exact rfl)); (focus (exact rfl)); (focus (exact rfl)); (focus (rw [N.attrs] ; decide)); (focus (exact rfl)); (focus (exact fun _ _ => rfl)); (focus (exact rfl)); (focus (exact rfl)); (focus (exact rfl))))); (focus (exact .inl rfl)); (focus (exact rfl)); (focus (exact rfl))))); (focus ((refine ss_cons ?_ ?_; (focus ((refine s_forC_fn N.x__netrclex__read_char N.rc ?_ ?_ ?_ ?_ ?_ ?_; (focus (exact S__netrclex__read_char N)); (focus ((refine t_name ?_ ?_; (focus (exact .inl rfl)); (focus (exact rfl))))); (focus ((refine e_var ?_ ?_ ?_ ?_; (focus (exact .inl rfl)); (focus (exact rfl)); (focus (exact rfl)); (focus (exact rfl))))); (focus ((refine ss_cons ?_ ?_; (focus ((refine s_if ?_ ?_ ?_; (focus ((refine b_cmp ?_ ?_ ?_ ?_; (focus (exact s_in)); (focus ((refine e_var ?_ ?_ ?_ ?_; (focus (exact .inl rfl)); (focus (exact rfl)); (focus (exact rfl)); (focus (exact rfl))))); (focus ((refine e_attr (fld_get N.X N.c__netrclex N.f__netrclex_whitespace (by rw [N.attrs] ; rfl)) ?_ ?_ ?_; (focus ((refine e_var ?_ ?_ ?_ ?_; (focus (exact .inl rfl)); (focus (exact rfl)); (focus (exact rfl)); (focus (exact rfl))))); (focus (exact rfl)); (focus (exact fun _ _ => rfl))))); (focus (exact rfl))))); (focus ((refine ss_cons ?_ ?_; (focus (exact s_cont)); (focus (exact ss_nil))))); (focus (exact ss_nil))))); (focus ((refine ss_cons ?_ ?_; (focus ((refine s_if ?_ ?_ ?_; (focus ((refine b_cmp ?_ ?_ ?_ ?_; (focus (exact s_eq)); (focus ((refine e_var ?_ ?_ ?_ ?_; (focus (exact .inl rfl)); (focus (exact rfl)); (focus (exact rfl)); (focus (exact rfl))))); (focus (exact e_str)); (focus (exact rfl))))); (focus ((refine ss_cons ?_ ?_; (focus ((refine s_forC_fn N.x__netrclex__read_char N.rc ?_ ?_ ?_ ?_ ?_ ?_; (focus (exact S__netrclex__read_char N)); (focus ((refine t_name ?_ ?_; (focus (exact .inl rfl)); (focus (exact rfl))))); (focus ((refine e_var ?_ ?_ ?_ ?_; (focus (exact .inl rfl)); (focus (exact rfl)); (focus (exact rfl)); (focus (exact rfl))))); (focus ((refine ss_cons ?_ ?_; (focus ((refine s_if ?_ ?_ ?_; (focus ((refine b_cmp ?_ ?_ ?_ ?_; (focus (exact s_eq)); (focus ((refine e_var ?_ ?_ ?_ ?_; (focus (exact .inl rfl)); (focus (exact rfl)); (focus (exact rfl)); (focus (exact rfl))))); (focus (exact e_str)); (focus (exact rfl))))); (focus ((refine ss_cons ?_ ?_; (focus ((refine s_ret ?_; (focus ((refine e_var ?_ ?_ ?_ ?_; (focus (exact .inl rfl)); (focus (exact rfl)); (focus (exact rfl)); (focus (exact rfl)))))))); (focus (exact ss_nil))))); (focus ((refine ss_cons ?_ ?_; (focus ((refine s_if ?_ ?_ ?_; (focus ((refine b_cmp ?_ ?_ ?_ ?_; (focus (exact s_eq)); (focus ((refine e_var ?_ ?_ ?_ ?_; (focus (exact .inl rfl)); (focus (exact rfl)); (focus (exact rfl)); (focus (exact rfl))))); (focus (exact e_str)); (focus (exact rfl))))); (focus ((refine ss_cons ?_ ?_; (focus ((refine s_assign ?_ ?_ ?_ ?_; (focus ((refine e_meth_fn N.X N.x__netrclex__read_char N.m__netrclex__read_char ?_ ?_ ?_ ?_ ?_ ?_ ?_ ?_ ?_ ?_; (focus (exact SoundF.le (S__netrclex__read_char N) (by omega))); (focus ((refine e_var ?_ ?_ ?_ ?_; (focus (exact .inl rfl)); (focus (exact rfl)); (focus (exact rfl)); (focus (exact rfl))))); (focus (exact l_nil)); (focus (exact k_nil)); (focus (rw [N.attrs] ; decide)); (focus (exact rfl)); (focus (exact rfl)); (focus (exact rfl)); (focus (exact rfl)); (focus (exact rfl))))); (focus (exact .inl rfl)); (focus (exact rfl)); (focus (exact rfl))))); (focus (exact ss_nil))))); (focus (exact ss_nil))))); (focus (exact ss_nil)))))))); (focus ((refine ss_cons ?_ ?_; (focus ((refine s_aug ?_ ?_ ?_ ?_; (focus (exact s_iadd)); (focus ((refine e_var ?_ ?_ ?_ ?_; (focus (exact .inl rfl)); (focus (exact rfl)); (focus (exact rfl)); (focus (exact rfl))))); (focus (exact .inl rfl)); (focus (exact rfl))))); (focus (exact ss_nil)))))))); (focus (exact fun _ => rfl)); (focus (exact fun _ _ => rfl))))); (focus (exact ss_nil))))); (focus ((refine ss_cons ?_ ?_; (focus ((refine s_if ?_ ?_ ?_; (focus ((refine b_cmp ?_ ?_ ?_ ?_; (focus (exact s_eq)); (focus ((refine e_var ?_ ?_ ?_ ?_; (focus (exact .inl rfl)); (focus (exact rfl)); (focus (exact rfl)); (focus (exact rfl))))); (focus (exact e_str)); (focus (exact rfl))))); (focus ((refine ss_cons ?_ ?_; (focus ((refine s_assign ?_ ?_ ?_ ?_; (focus ((refine e_meth_fn N.X N.x__netrclex__read_char N.m__netrclex__read_char ?_ ?_ ?_ ?_ ?_ ?_ ?_ ?_ ?_ ?_; (focus (exact SoundF.le (S__netrclex__read_char N) (by omega))); (focus ((refine e_var ?_ ?_ ?_ ?_; (focus (exact .inl rfl)); (focus (exact rfl)); (focus (exact rfl)); (focus (exact rfl))))); (focus (exact l_nil)); (focus (exact k_nil)); (focus (rw [N.attrs] ; decide)); (focus (exact rfl)); (focus (exact rfl)); (focus (exact rfl)); (focus (exact rfl)); (focus (exact rfl))))); (focus (exact .inl rfl)); (focus (exact rfl)); (focus (exact rfl))))); (focus (exact ss_nil))))); (focus (exact ss_nil))))); (focus ((refine ss_cons ?_ ?_; (focus ((refine s_aug ?_ ?_ ?_ ?_; (focus (exact s_iadd)); (focus ((refine e_var ?_ ?_ ?_ ?_; (focus (exact .inl rfl)); (focus (exact rfl)); (focus (exact rfl)); (focus (exact rfl))))); (focus (exact .inl rfl)); (focus (exact rfl))))); (focus ((refine ss_cons ?_ ?_; (focus ((refine s_forC_fn N.x__netrclex__read_char N.rc ?_ ?_ ?_ ?_ ?_ ?_; (focus (exact S__netrclex__read_char N)); (focus ((refine t_name ?_ ?_; (focus (exact .inl rfl)); (focus (exact rfl))))); (focus ((refine e_var ?_ ?_ ?_ ?_; (focus (exact .inl rfl)); (focus (exact rfl)); (focus (exact rfl)); (focus (exact rfl))))); (focus ((refine ss_cons ?_ ?_; (focus ((refine s_if ?_ ?_ ?_; (focus ((refine b_cmp ?_ ?_ ?_ ?_; (focus (exact s_in)); (focus ((refine e_var ?_ ?_ ?_ ?_; (focus (exact .inl rfl)); (focus (exact rfl)); (focus (exact rfl)); (focus (exact rfl))))); (focus ((refine e_attr (fld_get N.X N.c__netrclex N.f__netrclex_whitespace (by rw [N.attrs] ; rfl)) ?_ ?_ ?_; (focus ((refine e_var ?_ ?_ ?_ ?_; (focus (exact .inl rfl)); (focus (exact rfl)); (focus (exact rfl)); (focus (exact rfl))))); (focus (exact rfl)); (focus (exact fun _ _ => rfl))))); (focus (exact rfl))))); (focus ((refine ss_cons ?_ ?_; (focus ((refine s_ret ?_; (focus ((refine e_var ?_ ?_ ?_ ?_; (focus (exact .inl rfl)); (focus (exact rfl)); (focus (exact rfl)); (focus (exact rfl)))))))); (focus (exact ss_nil))))); (focus ((refine ss_cons ?_ ?_; (focus ((refine s_if ?_ ?_ ?_; (focus ((refine b_cmp ?_ ?_ ?_ ?_; (focus (exact s_eq)); (focus ((refine e_var ?_ ?_ ?_ ?_; (focus (exact .inl rfl)); (focus (exact rfl)); (focus (exact rfl)); (focus (exact rfl))))); (focus (exact e_str)); (focus (exact rfl))))); (focus ((refine ss_cons ?_ ?_; (focus ((refine s_assign ?_ ?_ ?_ ?_; (focus ((refine e_meth_fn N.X N.x__netrclex__read_char N.m__netrclex__read_char ?_ ?_ ?_ ?_ ?_ ?_ ?_ ?_ ?_ ?_; (focus (exact SoundF.le (S__netrclex__read_char N) (by omega))); (focus ((refine e_var ?_ ?_ ?_ ?_; (focus (exact .inl rfl)); (focus (exact rfl)); (focus (exact rfl)); (focus (exact rfl))))); (focus (exact l_nil)); (focus (exact k_nil)); (focus (rw [N.attrs] ; decide)); (focus (exact rfl)); (focus (exact rfl)); (focus (exact rfl)); (focus (exact rfl)); (focus (exact rfl))))); (focus (exact .inl rfl)); (focus (exact rfl)); (focus (exact rfl))))); (focus (exact ss_nil))))); (focus (exact ss_nil))))); (focus (exact ss_nil)))))))); (focus ((refine ss_cons ?_ ?_; (focus ((refine s_aug ?_ ?_ ?_ ?_; (focus (exact s_iadd)); (focus ((refine e_var ?_ ?_ ?_ ?_; (focus (exact .inl rfl)); (focus (exact rfl)); (focus (exact rfl)); (focus (exact rfl))))); (focus (exact .inl rfl)); (focus (exact rfl))))); (focus (exact ss_nil)))))))); (focus (exact fun _ => rfl)); (focus (exact fun _ _ => rfl))))); (focus (exact ss_nil)))))))))))))); (focus (exact ss_nil)))))))); (focus (exact fun _ => rfl)); (focus (exact fun _ _ => rfl))))); (focus ((refine ss_cons ?_ ?_; (focus ((refine s_ret ?_; (focus ((refine e_var ?_ ?_ ?_ ?_; (focus (exact .inl rfl)); (focus (exact rfl)); (focus (exact rfl)); (focus (exact rfl)))))))); (focus (exact ss_nil)))))))))))))))

noncomputable def F__netrclex_get_token : FT := runFn false (bPlain 1) 3 p__netrclex_get_token
theorem S__netrclex_get_token (N : S3 K Kf mg mb) : SoundF K 4 (.ref 203) ([] : List Str) F__netrclex_get_token := by
  obtain ⟨fd, X, hd, hk⟩ := N.x__netrclex_get_token
  exact f_run (rest := (["token", "fiter", "ch"] : List Str)) (kn := ([] : List Str)) N.G X (b_plain (ps := (["self"] : List Str)) (fun ras h => by rw [fd_eta hd hk]; obtain ⟨a0, rfl⟩ := len1 h; rfl)) (by decide) (kindsOk rfl) (noFree rfl) (fun L => w__netrclex_get_token N fd)

noncomputable def p_Headers_items : XS := (sCons (sRet (xSlice (xUn (getF 171 0) (xVar 0)) pNone pNone))
 sNil)
set_option maxHeartbeats 4000000 in
theorem w_Headers_items (N : S3 K Kf mg mb) (fd : FuncData) {a L : Addr} : SoundSs K 0 (callEnvC (fdOf (clAt 5 11) fd) L a) (lk ((["self"] : List Str) ++ ([] : List Str))) (fBody (clAt 5 11)) p_Headers_items := by
 conv => arg 5; whnf
 (refine ss_cons ?_ ?_; (focus ((refine s_ret ?_; (focus ((refine e_slice ?_ ?_ ?_; (focus ((refine e_attr (fld_get N.X N.c_Headers N.f_Headers__headers (by rw [N.attrs] ; rfl)) ?_ ?_ ?_; (focus ((refine e_var ?_ ?_ ?_ ?_; (focus (exact .inl rfl)); (focus (exact rfl)); (focus (exact rfl)); (focus (exact rfl))))); (focus (exact rfl)); (focus (exact fun _ _ => rfl))))); (focus (exact p_none)); (focus (exact p_none)))))))); (focus (exact ss_nil)))

noncomputable def F_Headers_items : FT := runFn false (bPlain 1) 0 p_Headers_items
theorem S_Headers_items (N : S3 K Kf mg mb) : SoundF K 1 (.ref 135) ([] : List Str) F_Headers_items := by
  obtain ⟨fd, X, hd, hk⟩ := N.x_Headers_items
  exact f_run (rest := ([] : List Str)) (kn := ([] : List Str)) N.G X (b_plain (ps := (["self"] : List Str)) (fun ras h => by rw [fd_eta hd hk]; obtain ⟨a0, rfl⟩ := len1 h; rfl)) (by decide) (kindsOk rfl) (noFree rfl) (fun L => w_Headers_items N fd)

noncomputable def p__law_items : XS := (sCons (sAssign 1 (xList true lNil))
 (sCons (sFor (tName 2) (xCall F__law_order (lCons (xComp false 1 (tName 0) (xVar 0) iNil (xBin opMod (xVar 0) (cI 5))) lNil)) (sCons (sAssign 3 (xTuple (lCons (xBin opItem (xCall F__law_small lNil) (xVar 2)) (lCons (cS "-") lNil))))
 (sCons (sFor (tName 4) (xCall fRange (lCons (xCall fLen (lCons (xVar 0) lNil)) lNil)) (sCons (sIf (bCmp opEq (xBin opMod (xBin opItem (xVar 0) (xVar 4)) (cI 5)) (xVar 2)) (sCons (sAssign 3 (xTuple (lCons (xCall F__law_told (lCons (xBin opItem (xVar 0) (xVar 4)) lNil)) (lCons (xCall fStr (lCons (xVar 4) lNil)) lNil))))
 sNil) sNil)
 sNil))
 (sCons (sExpr (xMethL mAppend (xVar 1) (lCons (xVar 3) lNil)))
 sNil))))
 (sCons (sRet (xVar 1))
 sNil)))
set_option maxHeartbeats 4000000 in
theorem w__law_items (N : S3 K Kf mg mb) (fd : FuncData) {a L : Addr} : SoundSs K 2 (callEnvC (fdOf (stAt 19) fd) L a) (lk ((["numbers"] : List Str) ++ (["items", "i", "item", "k"] : List Str))) (fBody (stAt 19)) p__law_items := by
 conv => arg 5; whnf
 (refine ss_cons ?_ ?_; (focus ((refine s_assign ?_ ?_ ?_ ?_; (focus ((refine e_list (m := true) ?_; (focus (exact l_nil))))); (focus (exact .inl rfl)); (focus (exact rfl)); (focus (exact rfl))))); (focus ((refine ss_cons ?_ ?_; (focus ((refine s_for ?_ ?_ ?_ ?_; (focus ((refine t_name ?_ ?_; (focus (exact .inl rfl)); (focus (exact rfl))))); (focus ((refine e_call_fn N.G (fnAt_of N.x__law_order) ?_ ?_ ?_ N.g__law_order ?_ ?_; (focus (exact SoundF.le (S__law_order N) (by omega))); (focus ((refine l_c ?_ ?_ ?_; (focus ((refine e_compB ["x"] (m := false) ?_ ?_ ?_ ?_ ?_ ?_; (focus ((refine e_var ?_ ?_ ?_ ?_; (focus (exact .inl rfl)); (focus (exact rfl)); (focus (exact rfl)); (focus (exact rfl))))); (focus (intro _ _; (refine tl_name ?_ ?_; (focus (exact rfl)); (focus (exact rfl))))); (focus (intro _ _; exact i_nil)); (focus (intro _ _; (refine e_bin ?_ ?_ ?_; (focus (exact s_mod)); (focus ((refine e_var ?_ ?_ ?_ ?_; (focus (exact .inl rfl)); (focus (exact rfl)); (focus (exact rfl)); (focus (exact rfl))))); (focus (exact e_int))))); (focus (exact rfl)); (focus (exact fun _ => rfl))))); (focus (exact l_nil)); (focus (exact rfl))))); (focus (exact rfl)); (focus (exact rfl)); (focus ((refine se_any ?_; (focus (exact rfl)))))))); (focus ((refine ss_cons ?_ ?_; (focus ((refine s_assign ?_ ?_ ?_ ?_; (focus ((refine e_tuple ?_; (focus ((refine l_c ?_ ?_ ?_; (focus ((refine e_sub ?_ ?_ ?_; (focus ((refine e_call_fn N.G (fnAt_of N.x__law_small) ?_ ?_ ?_ N.g__law_small ?_ ?_; (focus (exact SoundF.le (S__law_small N) (by omega))); (focus (exact l_nil)); (focus (exact rfl)); (focus (exact rfl)); (focus ((refine se_any ?_; (focus (exact rfl)))))))); (focus ((refine e_var ?_ ?_ ?_ ?_; (focus (exact .inl rfl)); (focus (exact rfl)); (focus (exact rfl)); (focus (exact rfl))))); (focus (exact fun _ _ => rfl))))); (focus ((refine l_c ?_ ?_ ?_; (focus (exact e_str)); (focus (exact l_nil)); (focus (exact rfl))))); (focus (exact rfl)))))))); (focus (exact .inl rfl)); (focus (exact rfl)); (focus (exact rfl))))); (focus ((refine ss_cons ?_ ?_; (focus ((refine s_for ?_ ?_ ?_ ?_; (focus ((refine t_name ?_ ?_; (focus (exact .inl rfl)); (focus (exact rfl))))); (focus ((refine e_tcall N.G ?_ ?_ ?_ N.range0 N.range1 ?_ ?_; (focus (exact f_range)); (focus ((refine l_c ?_ ?_ ?_; (focus ((refine e_bcall N.G ?_ ?_ ?_ N.len0 N.len1 ?_ ?_; (focus (exact f_len)); (focus ((refine l_c ?_ ?_ ?_; (focus ((refine e_var ?_ ?_ ?_ ?_; (focus (exact .inl rfl)); (focus (exact rfl)); (focus (exact rfl)); (focus (exact rfl))))); (focus (exact l_nil)); (focus (exact rfl))))); (focus (exact rfl)); (focus (exact rfl)); (focus (exact rfl))))); (focus (exact l_nil)); (focus (exact rfl))))); (focus (exact rfl)); (focus (exact rfl)); (focus (exact rfl))))); (focus ((refine ss_cons ?_ ?_; (focus ((refine s_if ?_ ?_ ?_; (focus ((refine b_cmp ?_ ?_ ?_ ?_; (focus (exact s_eq)); (focus ((refine e_bin ?_ ?_ ?_; (focus (exact s_mod)); (focus ((refine e_sub ?_ ?_ ?_; (focus ((refine e_var ?_ ?_ ?_ ?_; (focus (exact .inl rfl)); (focus (exact rfl)); (focus (exact rfl)); (focus (exact rfl))))); (focus ((refine e_var ?_ ?_ ?_ ?_; (focus (exact .inl rfl)); (focus (exact rfl)); (focus (exact rfl)); (focus (exact rfl))))); (focus (exact fun _ _ => rfl))))); (focus (exact e_int))))); (focus ((refine e_var ?_ ?_ ?_ ?_; (focus (exact .inl rfl)); (focus (exact rfl)); (focus (exact rfl)); (focus (exact rfl))))); (focus (exact rfl))))); (focus ((refine ss_cons ?_ ?_; (focus ((refine s_assign ?_ ?_ ?_ ?_; (focus ((refine e_tuple ?_; (focus ((refine l_c ?_ ?_ ?_; (focus ((refine e_call_fn N.G (fnAt_of N.x__law_told) ?_ ?_ ?_ N.g__law_told ?_ ?_; (focus (exact SoundF.le (S__law_told N) (by omega))); (focus ((refine l_c ?_ ?_ ?_; (focus ((refine e_sub ?_ ?_ ?_; (focus ((refine e_var ?_ ?_ ?_ ?_; (focus (exact .inl rfl)); (focus (exact rfl)); (focus (exact rfl)); (focus (exact rfl))))); (focus ((refine e_var ?_ ?_ ?_ ?_; (focus (exact .inl rfl)); (focus (exact rfl)); (focus (exact rfl)); (focus (exact rfl))))); (focus (exact fun _ _ => rfl))))); (focus (exact l_nil)); (focus (exact rfl))))); (focus (exact rfl)); (focus (exact rfl)); (focus ((refine se_any ?_; (focus (exact rfl)))))))); (focus ((refine l_c ?_ ?_ ?_; (focus ((refine e_tcall N.G ?_ ?_ ?_ N.str0 N.str1 ?_ ?_; (focus (exact f_str)); (focus ((refine l_c ?_ ?_ ?_; (focus ((refine e_var ?_ ?_ ?_ ?_; (focus (exact .inl rfl)); (focus (exact rfl)); (focus (exact rfl)); (focus (exact rfl))))); (focus (exact l_nil)); (focus (exact rfl))))); (focus (exact rfl)); (focus (exact rfl)); (focus (exact rfl))))); (focus (exact l_nil)); (focus (exact rfl))))); (focus (exact rfl)))))))); (focus (exact .inl rfl)); (focus (exact rfl)); (focus (exact rfl))))); (focus (exact ss_nil))))); (focus (exact ss_nil))))); (focus (exact ss_nil))))); (focus (exact fun _ => rfl))))); (focus ((refine ss_cons ?_ ?_; (focus ((refine s_expr ?_ ?_ ?_; (focus ((refine e_methL (id := "list.append") ?_ ?_ ?_ ?_ ?_ ?_ ?_ ?_; (focus (exact m_append)); (focus ((refine e_var ?_ ?_ ?_ ?_; (focus (exact .inl rfl)); (focus (exact rfl)); (focus (exact rfl)); (focus (exact rfl))))); (focus ((refine l_c ?_ ?_ ?_; (focus ((refine e_var ?_ ?_ ?_ ?_; (focus (exact .inl rfl)); (focus (exact rfl)); (focus (exact rfl)); (focus (exact rfl))))); (focus (exact l_nil)); (focus (exact rfl))))); (focus (exact PySem.F.slot_list_append)); (focus (exact PySem.F.type_list_append)); (focus (exact rfl)); (focus (exact rfl)); (focus (exact rfl))))); (focus (exact rfl)); (focus (exact rfl))))); (focus (exact ss_nil))))))))))); (focus (exact fun _ => rfl))))); (focus ((refine ss_cons ?_ ?_; (focus ((refine s_ret ?_; (focus ((refine e_var ?_ ?_ ?_ ?_; (focus (exact .inl rfl)); (focus (exact rfl)); (focus (exact rfl)); (focus (exact rfl)))))))); (focus (exact ss_nil)))))))))

noncomputable def F__law_items : FT := runFn false (bPlain 1) 4 p__law_items
theorem S__law_items (N : S3 K Kf mg mb) : SoundF K 3 (.ref 277) ([] : List Str) F__law_items := by
  obtain ⟨fd, X, hd, hk⟩ := N.x__law_items
  exact f_run (rest := (["items", "i", "item", "k"] : List Str)) (kn := ([] : List Str)) N.G X (b_plain (ps := (["numbers"] : List Str)) (fun ras h => by rw [fd_eta hd hk]; obtain ⟨a0, rfl⟩ := len1 h; rfl)) (by decide) (kindsOk rfl) (noFree rfl) (fun L => w__law_items N fd)

noncomputable def p_law0 : XS := (sAssign 1 (xBin opAdd (xList false (lCons (cI 0) (lCons (cI 7) lNil))) (xSlice (xVar 0) pNone (pSome (cI 6)))))
set_option maxHeartbeats 4000000 in
theorem w_law0 (N : S3 K Kf mg mb) (fd : FuncData) {a L : Addr} : SoundS K 8 (callEnvC (fdOf (stAt 20) fd) L a) (lk (["script", "numbers", "text", "lexer", "table", "word", "rest", "k", "name", "place"] : List Str)) ((fBody (stAt 20)).getD 0 default) p_law0 := by
 conv => arg 5; whnf
 (refine s_assign ?_ ?_ ?_ ?_; (focus ((refine e_bin ?_ ?_ ?_; (focus (exact s_add)); (focus ((refine e_list ?_; (focus ((refine l_c ?_ ?_ ?_; (focus (exact e_int)); (focus ((refine l_c ?_ ?_ ?_; (focus (exact e_int)); (focus (exact l_nil)); (focus (exact rfl))))); (focus (exact rfl)))))))); (focus ((refine e_slice ?_ ?_ ?_; (focus ((refine e_var ?_ ?_ ?_ ?_; (focus (exact .inl rfl)); (focus (exact rfl)); (focus (exact rfl)); (focus (exact rfl))))); (focus (exact p_none)); (focus ((refine p_some ?_; (focus (exact e_int))))))))))); (focus (exact .inl rfl)); (focus (exact rfl)); (focus (exact rfl)))

noncomputable def p_law1 : XS := (sAssign 2 (xMethS mJoin (cS "") (lCons (xComp false 1 (tName 0) (xVar 1) iNil (xCall F__law_written (lCons (xCall F__law_told (lCons (xVar 0) lNil)) (lCons (xVar 0) lNil)))) lNil)))
set_option maxHeartbeats 4000000 in
theorem w_law1 (N : S3 K Kf mg mb) (fd : FuncData) {a L : Addr} : SoundS K 8 (callEnvC (fdOf (stAt 20) fd) L a) (lk (["script", "numbers", "text", "lexer", "table", "word", "rest", "k", "name", "place"] : List Str)) ((fBody (stAt 20)).getD 1 default) p_law1 := by
 conv => arg 5; whnf
 (refine s_assign ?_ ?_ ?_ ?_; (focus ((refine e_methS (id := "str.join") ?_ ?_ ?_ ?_ ?_ ?_ ?_ ?_; (focus (exact m_join)); (focus (exact e_str)); (focus ((refine l_c ?_ ?_ ?_; (focus ((refine e_compB ["x"] (m := false) ?_ ?_ ?_ ?_ ?_ ?_; (focus ((refine e_var ?_ ?_ ?_ ?_; (focus (exact .inl rfl)); (focus (exact rfl)); (focus (exact rfl)); (focus (exact rfl))))); (focus (intro _ _; (refine tl_name ?_ ?_; (focus (exact rfl)); (focus (exact rfl))))); (focus (intro _ _; exact i_nil)); (focus (intro _ _; (refine e_call_fn N.G (fnAt_of N.x__law_written) ?_ ?_ ?_ N.g__law_written ?_ ?_; (focus (exact SoundF.le (S__law_written N) (by omega))); (focus ((refine l_c ?_ ?_ ?_; (focus ((refine e_call_fn N.G (fnAt_of N.x__law_told) ?_ ?_ ?_ N.g__law_told ?_ ?_; (focus (exact SoundF.le (S__law_told N) (by omega))); (focus ((refine l_c ?_ ?_ ?_; (focus ((refine e_var ?_ ?_ ?_ ?_; (focus (exact .inl rfl)); (focus (exact rfl)); (focus (exact rfl)); (focus (exact rfl))))); (focus (exact l_nil)); (focus (exact rfl))))); (focus (exact rfl)); (focus (exact rfl)); (focus ((refine se_any ?_; (focus (exact rfl)))))))); (focus ((refine l_c ?_ ?_ ?_; (focus ((refine e_var ?_ ?_ ?_ ?_; (focus (exact .inl rfl)); (focus (exact rfl)); (focus (exact rfl)); (focus (exact rfl))))); (focus (exact l_nil)); (focus (exact rfl))))); (focus (exact rfl))))); (focus (exact rfl)); (focus (exact rfl)); (focus ((refine se_any ?_; (focus (exact rfl)))))))); (focus (exact rfl)); (focus (exact fun _ => rfl))))); (focus (exact l_nil)); (focus (exact rfl))))); (focus (exact PySem.F.slot_str_join)); (focus (exact PySem.F.type_str_join)); (focus (exact rfl)); (focus (exact rfl)); (focus (exact rfl))))); (focus (exact .inl rfl)); (focus (exact rfl)); (focus (exact rfl)))

noncomputable def p_law3 : XS := (sAssign 4 (xCall F_Headers (lCons (xComp true 1 (tName 0) (xCall F__law_small lNil) iNil (xTuple (lCons (xVar 0) (lCons (cS "-") lNil)))) lNil)))
set_option maxHeartbeats 4000000 in
theorem w_law3 (N : S3 K Kf mg mb) (fd : FuncData) {a L : Addr} : SoundS K 8 (callEnvC (fdOf (stAt 20) fd) L a) (lk (["script", "numbers", "text", "lexer", "table", "word", "rest", "k", "name", "place"] : List Str)) ((fBody (stAt 20)).getD 3 default) p_law3 := by
 conv => arg 5; whnf
 (refine s_assign ?_ ?_ ?_ ?_; (focus ((refine e_new N.G N.X ?_ ?_ (cls_k N.c_Headers) ?_ N.g_Headers ?_ ?_ ?_; (focus (exact SoundF.le (S_Headers N) (by omega))); (focus ((refine l_c ?_ ?_ ?_; (focus ((refine e_compB ["name"] (m := true) ?_ ?_ ?_ ?_ ?_ ?_; (focus ((refine e_call_fn N.G (fnAt_of N.x__law_small) ?_ ?_ ?_ N.g__law_small ?_ ?_; (focus (exact SoundF.le (S__law_small N) (by omega))); (focus (exact l_nil)); (focus (exact rfl)); (focus (exact rfl)); (focus ((refine se_any ?_; (focus (exact rfl)))))))); (focus (intro _ _; (refine tl_name ?_ ?_; (focus (exact rfl)); (focus (exact rfl))))); (focus (intro _ _; exact i_nil)); (focus (intro _ _; (refine e_tuple ?_; (focus ((refine l_c ?_ ?_ ?_; (focus ((refine e_var ?_ ?_ ?_ ?_; (focus (exact .inl rfl)); (focus (exact rfl)); (focus (exact rfl)); (focus (exact rfl))))); (focus ((refine l_c ?_ ?_ ?_; (focus (exact e_str)); (focus (exact l_nil)); (focus (exact rfl))))); (focus (exact rfl)))))))); (focus (exact rfl)); (focus (exact fun _ => rfl))))); (focus (exact l_nil)); (focus (exact rfl))))); (focus (exact rfl)); (focus (exact rfl)); (focus (exact rfl)); (focus (exact rfl))))); (focus (exact .inl rfl)); (focus (exact rfl)); (focus (exact rfl)))

noncomputable def p_law4 : XS := (sAssign 5 (cS ""))
set_option maxHeartbeats 4000000 in
theorem w_law4 (N : S3 K Kf mg mb) (fd : FuncData) {a L : Addr} : SoundS K 8 (callEnvC (fdOf (stAt 20) fd) L a) (lk (["script", "numbers", "text", "lexer", "table", "word", "rest", "k", "name", "place"] : List Str)) ((fBody (stAt 20)).getD 4 default) p_law4 := by
 conv => arg 5; whnf
 (refine s_assign ?_ ?_ ?_ ?_; (focus (exact e_str)); (focus (exact .inl rfl)); (focus (exact rfl)); (focus (exact rfl)))

noncomputable def p_law5 : XS := (sAssign 6 (cS ""))
set_option maxHeartbeats 4000000 in
theorem w_law5 (N : S3 K Kf mg mb) (fd : FuncData) {a L : Addr} : SoundS K 8 (callEnvC (fdOf (stAt 20) fd) L a) (lk (["script", "numbers", "text", "lexer", "table", "word", "rest", "k", "name", "place"] : List Str)) ((fBody (stAt 20)).getD 5 default) p_law5 := by
 conv => arg 5; whnf
 (refine s_assign ?_ ?_ ?_ ?_; (focus (exact e_str)); (focus (exact .inl rfl)); (focus (exact rfl)); (focus (exact rfl)))

noncomputable def p_law6 : XS := (sFor (tName 7) (xCall fRange (lCons (xCall fLen (lCons (xVar 1) lNil)) lNil)) (sCons (sAssign 8 (xMeth 213 F__netrclex_get_token (xVar 3) lNil lNil))
 (sCons (sIf (bCmp opNe (xVar 8) (xCall F__law_told (lCons (xBin opItem (xVar 1) (xVar 7)) lNil))) (sCons (sRet (cB false))
 sNil) sNil)
 (sCons (sAssign 9 (xMethL mIndex (xComp false 1 (tName 0) (xMeth 171 F_Headers_keys (xVar 4) lNil lNil) iNil (xMethS mLower (xVar 0) lNil)) (lCons (xMethS mLower (xVar 8) lNil) lNil)))
 (sCons (sExpr (xCall F__law_store (lCons (xVar 4) (lCons (xVar 8) (lCons (xCall fStr (lCons (xVar 7) lNil)) lNil)))))
 (sCons (sAug opIAdd 5 (xSlice (cS "abcd") (pSome (xVar 9)) pNone))
 (sCons (sAssign 6 (xCall F__law_rest (lCons (xBin opAdd (xVar 6) (xSlice (cS "abcd") (pSome (xVar 9)) pNone)) lNil)))
 (sCons (sIf (bCmp opNe (xVar 6) (xCall F__law_due (lCons (xCall F__law_order (lCons (xComp false 1 (tName 0) (xSlice (xVar 1) pNone (pSome (xBin opAdd (xVar 7) (cI 1)))) iNil (xBin opMod (xVar 0) (cI 5))) lNil)) lNil))) (sCons (sRet (cB false))
 sNil) sNil)
 sNil))))))))
set_option maxHeartbeats 4000000 in
theorem w_law6 (N : S3 K Kf mg mb) (fd : FuncData) {a L : Addr} : SoundS K 8 (callEnvC (fdOf (stAt 20) fd) L a) (lk (["script", "numbers", "text", "lexer", "table", "word", "rest", "k", "name", "place"] : List Str)) ((fBody (stAt 20)).getD 6 default) p_law6 := by
 conv => arg 5; whnf
 (refine s_for ?_ ?_ ?_ ?_; (focus ((refine t_name ?_ ?_; (focus (exact .inl rfl)); (focus (exact rfl))))); (focus ((refine e_tcall N.G ?_ ?_ ?_ N.range0 N.range1 ?_ ?_; (focus (exact f_range)); (focus ((refine l_c ?_ ?_ ?_; (focus ((refine e_bcall N.G ?_ ?_ ?_ N.len0 N.len1 ?_ ?_; (focus (exact f_len)); (focus ((refine l_c ?_ ?_ ?_; (focus ((refine e_var ?_ ?_ ?_ ?_; (focus (exact .inl rfl)); (focus (exact rfl)); (focus (exact rfl)); (focus (exact rfl))))); (focus (exact l_nil)); (focus (exact rfl))))); (focus (exact rfl)); (focus (exact rfl)); (focus (exact rfl))))); (focus (exact l_nil)); (focus (exact rfl))))); (focus (exact rfl)); (focus (exact rfl)); (focus (exact rfl))))); (focus ((refine ss_cons ?_ ?_; (focus ((refine s_assign ?_ ?_ ?_ ?_; (focus ((refine e_meth_fn N.X N.x__netrclex_get_token N.m__netrclex_get_token ?_ ?_ ?_ ?_ ?_ ?_ ?_ ?_ ?_ ?_; (focus (exact SoundF.le (S__netrclex_get_token N) (by omega))); (focus ((refine e_var ?_ ?_ ?_ ?_; (focus (exact .inl rfl)); (focus (exact rfl)); (focus (exact rfl)); (focus (exact rfl))))); (focus (exact l_nil)); (focus (exact k_nil)); (focus (rw [N.attrs] ; decide)); (focus (exact rfl)); (focus (exact rfl)); (focus (exact rfl)); (focus (exact rfl)); (focus (exact rfl))))); (focus (exact .inl rfl)); (focus (exact rfl)); (focus (exact rfl))))); (focus ((refine ss_cons ?_ ?_; (focus ((refine s_if ?_ ?_ ?_; (focus ((refine b_cmp ?_ ?_ ?_ ?_; (focus (exact s_ne)); (focus ((refine e_var ?_ ?_ ?_ ?_; (focus (exact .inl rfl)); (focus (exact rfl)); (focus (exact rfl)); (focus (exact rfl))))); (focus ((refine e_call_fn N.G (fnAt_of N.x__law_told) ?_ ?_ ?_ N.g__law_told ?_ ?_; (focus (exact SoundF.le (S__law_told N) (by omega))); (focus ((refine l_c ?_ ?_ ?_; (focus ((refine e_sub ?_ ?_ ?_; (focus ((refine e_var ?_ ?_ ?_ ?_; (focus (exact .inl rfl)); (focus (exact rfl)); (focus (exact rfl)); (focus (exact rfl))))); (focus ((refine e_var ?_ ?_ ?_ ?_; (focus (exact .inl rfl)); (focus (exact rfl)); (focus (exact rfl)); (focus (exact rfl))))); (focus (exact fun _ _ => rfl))))); (focus (exact l_nil)); (focus (exact rfl))))); (focus (exact rfl)); (focus (exact rfl)); (focus ((refine se_any ?_; (focus (exact rfl)))))))); (focus (exact rfl))))); (focus ((refine ss_cons ?_ ?_; (focus ((refine s_ret ?_; (focus (exact e_bool))))); (focus (exact ss_nil))))); (focus (exact ss_nil))))); (focus ((refine ss_cons ?_ ?_; (focus ((refine s_assign ?_ ?_ ?_ ?_; (focus ((refine e_methL (id := "list.index") ?_ ?_ ?_ ?_ ?_ ?_ ?_ ?_; (focus (exact m_index)); (focus ((refine e_compB ["key"] (m := false) ?_ ?_ ?_ ?_ ?_ ?_; (focus ((refine e_meth_fn N.X N.x_Headers_keys N.m_Headers_keys ?_ ?_ ?_ ?_ ?_ ?_ ?_ ?_ ?_ ?_; (focus (exact SoundF.le (S_Headers_keys N) (by omega))); (focus ((refine e_var ?_ ?_ ?_ ?_; (focus (exact .inl rfl)); (focus (exact rfl)); (focus (exact rfl)); (focus (exact rfl))))); (focus (exact l_nil)); (focus (exact k_nil)); (focus (rw [N.attrs] ; decide)); (focus (exact rfl)); (focus (exact rfl)); (focus (exact rfl)); (focus (exact rfl)); (focus (exact rfl))))); (focus (intro _ _; (refine tl_name ?_ ?_; (focus (exact rfl)); (focus (exact rfl))))); (focus (intro _ _; exact i_nil)); (focus (intro _ _; (refine e_methS (id := "str.lower") ?_ ?_ ?_ ?_ ?_ ?_ ?_ ?_; (focus (exact m_lower)); (focus ((refine e_var ?_ ?_ ?_ ?_; (focus (exact .inl rfl)); (focus (exact rfl)); (focus (exact rfl)); (focus (exact rfl))))); (focus (exact l_nil)); (focus (exact PySem.F.slot_str_lower)); (focus (exact PySem.F.type_str_lower)); (focus (exact rfl)); (focus (exact rfl)); (focus (exact rfl))))); (focus (exact rfl)); (focus (exact fun _ => rfl))))); (focus ((refine l_c ?_ ?_ ?_; (focus ((refine e_methS (id := "str.lower") ?_ ?_ ?_ ?_ ?_ ?_ ?_ ?_; (focus (exact m_lower)); (focus ((refine e_var ?_ ?_ ?_ ?_; (focus (exact .inl rfl)); (focus (exact rfl)); (focus (exact rfl)); (focus (exact rfl))))); (focus (exact l_nil)); (focus (exact PySem.F.slot_str_lower)); (focus (exact PySem.F.type_str_lower)); (focus (exact rfl)); (focus (exact rfl)); (focus (exact rfl))))); (focus (exact l_nil)); (focus (exact rfl))))); (focus (exact PySem.F.slot_list_index)); (focus (exact PySem.F.type_list_index)); (focus (exact rfl)); (focus (exact rfl)); (focus (exact rfl))))); (focus (exact .inl rfl)); (focus (exact rfl)); (focus (exact rfl))))); (focus ((refine ss_cons ?_ ?_; (focus ((refine s_expr ?_ ?_ ?_; (focus ((refine e_call_fn N.G (fnAt_of N.x__law_store) ?_ ?_ ?_ N.g__law_store ?_ ?_; (focus (exact SoundF.le (S__law_store N) (by omega))); (focus ((refine l_c ?_ ?_ ?_; (focus ((refine e_var ?_ ?_ ?_ ?_; (focus (exact .inl rfl)); (focus (exact rfl)); (focus (exact rfl)); (focus (exact rfl))))); (focus ((refine l_c ?_ ?_ ?_; (focus ((refine e_var ?_ ?_ ?_ ?_; (focus (exact .inl rfl)); (focus (exact rfl)); (focus (exact rfl)); (focus (exact rfl))))); (focus ((refine l_c ?_ ?_ ?_; (focus ((refine e_tcall N.G ?_ ?_ ?_ N.str0 N.str1 ?_ ?_; (focus (exact f_str)); (focus ((refine l_c ?_ ?_ ?_; (focus ((refine e_var ?_ ?_ ?_ ?_; (focus (exact .inl rfl)); (focus (exact rfl)); (focus (exact rfl)); (focus (exact rfl))))); (focus (exact l_nil)); (focus (exact rfl))))); (focus (exact rfl)); (focus (exact rfl)); (focus (exact rfl))))); (focus (exact l_nil)); (focus (exact rfl))))); (focus (exact rfl))))); (focus (exact rfl))))); (focus (exact rfl)); (focus (exact rfl)); (focus ((refine se_any ?_; (focus (exact rfl)))))))); (focus (exact rfl)); (focus (exact rfl))))); (focus ((refine ss_cons ?_ ?_; (focus ((refine s_aug ?_ ?_ ?_ ?_; (focus (exact s_iadd)); (focus ((refine e_slice ?_ ?_ ?_; (focus (exact e_str)); (focus ((refine p_some ?_; (focus ((refine e_var ?_ ?_ ?_ ?_; (focus (exact .inl rfl)); (focus (exact rfl)); (focus (exact rfl)); (focus (exact rfl)))))))); (focus (exact p_none))))); (focus (exact .inl rfl)); (focus (exact rfl))))); (focus ((refine ss_cons ?_ ?_; (focus ((refine s_assign ?_ ?_ ?_ ?_; (focus ((refine e_call_fn N.G (fnAt_of N.x__law_rest) ?_ ?_ ?_ N.g__law_rest ?_ ?_; (focus (exact SoundF.le (S__law_rest N) (by omega))); (focus ((refine l_c ?_ ?_ ?_; (focus ((refine e_bin ?_ ?_ ?_; (focus (exact s_add)); (focus ((refine e_var ?_ ?_ ?_ ?_; (focus (exact .inl rfl)); (focus (exact rfl)); (focus (exact rfl)); (focus (exact rfl))))); (focus ((refine e_slice ?_ ?_ ?_; (focus (exact e_str)); (focus ((refine p_some ?_; (focus ((refine e_var ?_ ?_ ?_ ?_; (focus (exact .inl rfl)); (focus (exact rfl)); (focus (exact rfl)); (focus (exact rfl)))))))); (focus (exact p_none)))))))); (focus (exact l_nil)); (focus (exact rfl))))); (focus (exact rfl)); (focus (exact rfl)); (focus ((refine se_any ?_; (focus (exact rfl)))))))); (focus (exact .inl rfl)); (focus (exact rfl)); (focus (exact rfl))))); (focus ((refine ss_cons ?_ ?_; (focus ((refine s_if ?_ ?_ ?_; (focus ((refine b_cmp ?_ ?_ ?_ ?_; (focus (exact s_ne)); (focus ((refine e_var ?_ ?_ ?_ ?_; (focus (exact .inl rfl)); (focus (exact rfl)); (focus (exact rfl)); (focus (exact rfl))))); (focus ((refine e_call_fn N.G (fnAt_of N.x__law_due) ?_ ?_ ?_ N.g__law_due ?_ ?_; (focus (exact SoundF.le (S__law_due N) (by omega))); (focus ((refine l_c ?_ ?_ ?_; (focus ((refine e_call_fn N.G (fnAt_of N.x__law_order) ?_ ?_ ?_ N.g__law_order ?_ ?_; (focus (exact SoundF.le (S__law_order N) (by omega))); (focus ((refine l_c ?_ ?_ ?_; (focus ((refine e_compB ["x"] (m := false) ?_ ?_ ?_ ?_ ?_ ?_; (focus ((refine e_slice ?_ ?_ ?_; (focus ((refine e_var ?_ ?_ ?_ ?_; (focus (exact .inl rfl)); (focus (exact rfl)); (focus (exact rfl)); (focus (exact rfl))))); (focus (exact p_none)); (focus ((refine p_some ?_; (focus ((refine e_bin ?_ ?_ ?_; (focus (exact s_add)); (focus ((refine e_var ?_ ?_ ?_ ?_; (focus (exact .inl rfl)); (focus (exact rfl)); (focus (exact rfl)); (focus (exact rfl))))); (focus (exact e_int))))))))))); (focus (intro _ _; (refine tl_name ?_ ?_; (focus (exact rfl)); (focus (exact rfl))))); (focus (intro _ _; exact i_nil)); (focus (intro _ _; (refine e_bin ?_ ?_ ?_; (focus (exact s_mod)); (focus ((refine e_var ?_ ?_ ?_ ?_; (focus (exact .inl rfl)); (focus (exact rfl)); (focus (exact rfl)); (focus (exact rfl))))); (focus (exact e_int))))); (focus (exact rfl)); (focus (exact fun _ => rfl))))); (focus (exact l_nil)); (focus (exact rfl))))); (focus (exact rfl)); (focus (exact rfl)); (focus ((refine se_any ?_; (focus (exact rfl)))))))); (focus (exact l_nil)); (focus (exact rfl))))); (focus (exact rfl)); (focus (exact rfl)); (focus ((refine se_any ?_; (focus (exact rfl)))))))); (focus (exact rfl))))); (focus ((refine ss_cons ?_ ?_; (focus ((refine s_ret ?_; (focus (exact e_bool))))); (focus (exact ss_nil))))); (focus (exact ss_nil))))); (focus (exact ss_nil))))))))))))))))))))))); (focus (exact fun _ => rfl)))

noncomputable def p_law7 : XS := (sIf (bOr (bCmp opNe (xCall F__law_rest (lCons (xVar 5) lNil)) (xVar 6)) (bCmp opNe (xMeth 171 F_Headers_items (xVar 4) lNil lNil) (xCall F__law_items (lCons (xVar 1) lNil)))) (sCons (sRet (cB false))
 sNil) sNil)
set_option maxHeartbeats 4000000 in
theorem w_law7 (N : S3 K Kf mg mb) (fd : FuncData) {a L : Addr} : SoundS K 8 (callEnvC (fdOf (stAt 20) fd) L a) (lk (["script", "numbers", "text", "lexer", "table", "word", "rest", "k", "name", "place"] : List Str)) ((fBody (stAt 20)).getD 7 default) p_law7 := by
 conv => arg 5; whnf
 (refine s_if ?_ ?_ ?_; (focus ((refine b_or ?_ ?_; (focus ((refine b_cmp ?_ ?_ ?_ ?_; (focus (exact s_ne)); (focus ((refine e_call_fn N.G (fnAt_of N.x__law_rest) ?_ ?_ ?_ N.g__law_rest ?_ ?_; (focus (exact SoundF.le (S__law_rest N) (by omega))); (focus ((refine l_c ?_ ?_ ?_; (focus ((refine e_var ?_ ?_ ?_ ?_; (focus (exact .inl rfl)); (focus (exact rfl)); (focus (exact rfl)); (focus (exact rfl))))); (focus (exact l_nil)); (focus (exact rfl))))); (focus (exact rfl)); (focus (exact rfl)); (focus ((refine se_any ?_; (focus (exact rfl)))))))); (focus ((refine e_var ?_ ?_ ?_ ?_; (focus (exact .inl rfl)); (focus (exact rfl)); (focus (exact rfl)); (focus (exact rfl))))); (focus (exact rfl))))); (focus ((refine b_cmp ?_ ?_ ?_ ?_; (focus (exact s_ne)); (focus ((refine e_meth_fn N.X N.x_Headers_items N.m_Headers_items ?_ ?_ ?_ ?_ ?_ ?_ ?_ ?_ ?_ ?_; (focus (exact SoundF.le (S_Headers_items N) (by omega))); (focus ((refine e_var ?_ ?_ ?_ ?_; (focus (exact .inl rfl)); (focus (exact rfl)); (focus (exact rfl)); (focus (exact rfl))))); (focus (exact l_nil)); (focus (exact k_nil)); (focus (rw [N.attrs] ; decide)); (focus (exact rfl)); (focus (exact rfl)); (focus (exact rfl)); (focus (exact rfl)); (focus (exact rfl))))); (focus ((refine e_call_fn N.G (fnAt_of N.x__law_items) ?_ ?_ ?_ N.g__law_items ?_ ?_; (focus (exact SoundF.le (S__law_items N) (by omega))); (focus ((refine l_c ?_ ?_ ?_; (focus ((refine e_var ?_ ?_ ?_ ?_; (focus (exact .inl rfl)); (focus (exact rfl)); (focus (exact rfl)); (focus (exact rfl))))); (focus (exact l_nil)); (focus (exact rfl))))); (focus (exact rfl)); (focus (exact rfl)); (focus ((refine se_any ?_; (focus (exact rfl)))))))); (focus (exact rfl)))))))); (focus ((refine ss_cons ?_ ?_; (focus ((refine s_ret ?_; (focus (exact e_bool))))); (focus (exact ss_nil))))); (focus (exact ss_nil)))

noncomputable def p_law8 : XS := (sRet (xAnd (xBin opEq (xMeth 213 F__netrclex_get_token (xVar 3) lNil lNil) (cS "")) (xBin opEq (xUn (getF 213 1) (xVar 3)) (xBin opAdd (cI 1) (xMethS mCount (xVar 2) (lCons (cS "\n") lNil))))))
set_option maxHeartbeats 4000000 in
theorem w_law8 (N : S3 K Kf mg mb) (fd : FuncData) {a L : Addr} : SoundS K 8 (callEnvC (fdOf (stAt 20) fd) L a) (lk (["script", "numbers", "text", "lexer", "table", "word", "rest", "k", "name", "place"] : List Str)) ((fBody (stAt 20)).getD 8 default) p_law8 := by
 conv => arg 5; whnf
 (refine s_ret ?_; (focus ((refine e_and ?_ ?_; (focus ((refine e_cmp ?_ ?_ ?_ ?_; (focus (exact s_eq)); (focus ((refine e_meth_fn N.X N.x__netrclex_get_token N.m__netrclex_get_token ?_ ?_ ?_ ?_ ?_ ?_ ?_ ?_ ?_ ?_; (focus (exact SoundF.le (S__netrclex_get_token N) (by omega))); (focus ((refine e_var ?_ ?_ ?_ ?_; (focus (exact .inl rfl)); (focus (exact rfl)); (focus (exact rfl)); (focus (exact rfl))))); (focus (exact l_nil)); (focus (exact k_nil)); (focus (rw [N.attrs] ; decide)); (focus (exact rfl)); (focus (exact rfl)); (focus (exact rfl)); (focus (exact rfl)); (focus (exact rfl))))); (focus (exact e_str)); (focus (exact rfl))))); (focus ((refine e_cmp ?_ ?_ ?_ ?_; (focus (exact s_eq)); (focus ((refine e_attr (fld_get N.X N.c__netrclex N.f__netrclex_lineno (by rw [N.attrs] ; rfl)) ?_ ?_ ?_; (focus ((refine e_var ?_ ?_ ?_ ?_; (focus (exact .inl rfl)); (focus (exact rfl)); (focus (exact rfl)); (focus (exact rfl))))); (focus (exact rfl)); (focus (exact fun _ _ => rfl))))); (focus ((refine e_bin ?_ ?_ ?_; (focus (exact s_add)); (focus (exact e_int)); (focus ((refine e_methS (id := "str.count") ?_ ?_ ?_ ?_ ?_ ?_ ?_ ?_; (focus (exact m_count)); (focus ((refine e_var ?_ ?_ ?_ ?_; (focus (exact .inl rfl)); (focus (exact rfl)); (focus (exact rfl)); (focus (exact rfl))))); (focus ((refine l_c ?_ ?_ ?_; (focus (exact e_str)); (focus (exact l_nil)); (focus (exact rfl))))); (focus (exact PySem.F.slot_str_count)); (focus (exact PySem.F.type_str_count)); (focus (exact rfl)); (focus (exact rfl)); (focus (exact rfl)))))))); (focus (exact rfl)))))))))

end Mine

set_option autoImplicit false
set_option linter.unusedVariables false
namespace Mine
open PySem
theorem get_left {hp : List O} {j : Nat} {o : O} (e : hp[j]? = some o) (l : List O) : (hp ++ l)[j]? = some o := by
  rw [List.getElem?_append_left (List.getElem?_eq_some_iff.mp e).1]; exact e
theorem gOk_app {g : G} {hp : List O} (h : gOk g hp) (l : List O) : gOk g (hp ++ l) := by
  cases g with
  | none => trivial
  | some p => obtain ⟨j, x⟩ := p; exact get_left h l
theorem atL_last {hp : List O} {acc : List PyData} {k : Nat → List PyData → Prop} (h : k hp.length acc) : atL (.r hp.length) (hp ++ [.lst acc]) k := by
  unfold atL; simp [h]
theorem set_last {hp : List O} {a b : O} : (hp ++ [a]).set hp.length b = hp ++ [b] := by
  rw [List.set_append_right _ _ (Nat.le_refl _)]; simp
theorem lget_last {hp : List O} {acc : List PyData} : lget (.r hp.length) (hp ++ [.lst acc]) = some acc := by
  unfold lget; simp
/-- a comprehension whose parts leave the heap as it was -/
theorem comp_go {m : Bool} {n : Nat} {g : G} {tgt : XT} {ifs : XB} {elt : XE} {Q : V → List O → Prop} {outer : List (Option V)} {hp : List O} (c : PyData → Bool) (f : PyData → PyData) (slots : PyData → List (Option V)) :
    ∀ (xs : List PyData) (acc : List PyData) (old : List (Option V)), old.length = n → (∀ x ∈ xs, (slots x).length = n) →
    (∀ x ∈ xs, ∀ old : List (Option V), old.length = n → ∀ K h, K (slots x ++ outer) h → tgt (.d x) (old ++ outer) K h) →
    (∀ x ∈ xs, ∀ l K, K (c x) (hp ++ l) → ifs (slots x ++ outer) K (hp ++ l)) →
    (∀ x ∈ xs, c x = true → ∀ l K, K (.d (f x)) (hp ++ l) → elt (slots x ++ outer) K (hp ++ l)) →
    gOk g hp → acc.length + xs.length ≤ sizeLine → compEnd m hp.length Q (acc ++ (xs.filter c).map f) (hp ++ [.lst (acc ++ (xs.filter c).map f)]) →
    compL g hp.length tgt ifs elt (compEnd m hp.length Q) xs (old ++ outer) (hp ++ [.lst acc])
  | [], acc, old, ho, hs, ht, hi, he, hg, hl, q => ⟨gOk_app hg _, atL_last (by simpa using q)⟩
  | x :: xs, acc, old, ho, hs, ht, hi, he, hg, hl, q => by
    refine ⟨gOk_app hg _, ht x List.mem_cons_self old ho _ _ (hi x List.mem_cons_self _ _ ?_)⟩
    have hs' : ∀ y ∈ xs, (slots y).length = n := fun y hy => hs y (List.mem_cons_of_mem _ hy)
    have ht' := fun y (hy : y ∈ xs) => ht y (List.mem_cons_of_mem _ hy)
    have hi' := fun y (hy : y ∈ xs) => hi y (List.mem_cons_of_mem _ hy)
    have he' := fun y (hy : y ∈ xs) => he y (List.mem_cons_of_mem _ hy)
    cases hc : c x with
    | true =>
      refine he x List.mem_cons_self hc _ _ ⟨by rw [lget_last]; rfl, ?_⟩
      unfold mAppend; dsimp only
      refine atL_last ⟨by simp at hl; omega, ?_⟩
      rw [set_last]
      refine comp_go c f slots xs (acc ++ [f x]) (slots x) (hs x List.mem_cons_self) hs' ht' hi' he' hg (by simp at hl ⊢; omega) ?_
      simpa [List.filter_cons, hc] using q
    | false =>
      refine comp_go c f slots xs acc (slots x) (hs x List.mem_cons_self) hs' ht' hi' he' hg (by simp at hl ⊢; omega) ?_
      simpa [List.filter_cons, hc] using q
theorem end_false {Q : V → List O → Prop} {l : List PyData} {hp : List O} {o : O} (q : Q (.d (.list l)) hp) : compEnd false hp.length Q l (hp ++ [o]) := by
  unfold compEnd; simpa using q
theorem end_true {Q : V → List O → Prop} {l : List PyData} {hp : List O} {o : O} (q : Q (.r hp.length) (hp ++ [o])) : compEnd true hp.length Q l (hp ++ [o]) := by
  unfold compEnd
  have : (hp ++ [o]).take (hp.length + 1) = hp ++ [o] := by rw [List.take_of_length_le (by simp)]
  simp only [this]; exact q
/-- one name, a data list -/
theorem comp1 {m : Bool} {it : XE} {ifs : XB} {elt : XE} {vs : List (Option V)} {Q : V → List O → Prop} {hp : List O} (c : PyData → Bool) (f : PyData → PyData) {v : V} {xs : List PyData}
    (hit : ∀ K, K v hp → it vs K hp) (hx : iterV v hp fun _ ys => ys = xs)
    (hi : ∀ x ∈ xs, ∀ l K, K (c x) (hp ++ l) → ifs (some (.d x) :: vs) K (hp ++ l))
    (he : ∀ x ∈ xs, c x = true → ∀ l K, K (.d (f x)) (hp ++ l) → elt (some (.d x) :: vs) K (hp ++ l))
    (hl : xs.length ≤ sizeLine) (q : match m with | false => Q (.d (.list ((xs.filter c).map f))) hp | true => Q (.r hp.length) (hp ++ [.lst ((xs.filter c).map f)])) :
    xComp m 1 (tName 0) it ifs elt vs Q hp := by
  refine hit _ ?_
  have base : ∀ g, gOk g hp → compL g hp.length (tName 0) ifs elt (compEnd m hp.length Q) xs (List.replicate 1 none ++ vs) (hp ++ [.lst []]) := fun g hg =>
    comp_go (m := m) c f (fun x => [some (.d x)]) xs [] [none] rfl (fun _ _ => rfl)
      (fun x hx old ho K h k => by
        obtain ⟨a, rfl⟩ := List.length_eq_one_iff.mp ho
        exact k) hi he hg (by simpa using hl) (by
        rw [List.nil_append]
        cases m with
        | false => exact end_false q
        | true => exact end_true q)
  cases v with
  | d y =>
    cases y <;> first | exact hx.elim | (cases hx; exact base none trivial)
  | r i =>
    unfold iterV at hx ⊢
    simp only at hx ⊢
    split at hx
    · rename_i l e
      subst hx
      exact base (some (i, l)) e
    · exact hx.elim
  | rng a b c' => exact ⟨hx.1, by obtain ⟨h1, h2⟩ := hx; rw [h2]; exact base none trivial⟩
  | g w => exact hx.elim
/-- a for loop by a relation of its states -/
theorem for_go {α : Type} {g : G} {tgt : XT} {body : XS} {Q : QS} (R : α → List (Option V) → List O → Prop) (step : α → PyData → α) (hg : ∀ a vs hp, R a vs hp → gOk g hp) :
    ∀ (xs : List PyData) (a : α) (vs : List (Option V)) (hp : List O), R a vs hp →
    (∀ a vs hp x, x ∈ xs → R a vs hp → ∀ K : QS, (∀ vs' hp', R (step a x) vs' hp' → K .next vs' hp' ∧ K .cont vs' hp') → tgt (.d x) vs (fun vs' hp' => body vs' K hp') hp) →
    (∀ vs hp, R (xs.foldl step a) vs hp → Q .next vs hp) → forL g tgt body Q xs vs hp
  | [], a, vs, hp, r, hb, hq => ⟨hg _ _ _ r, hq _ _ r⟩
  | x :: xs, a, vs, hp, r, hb, hq => ⟨hg _ _ _ r, hb a vs hp x List.mem_cons_self r _ fun vs' hp' r' =>
      have := for_go R step hg xs (step a x) vs' hp' r' (fun a vs hp y hy => hb a vs hp y (List.mem_cons_of_mem _ hy)) hq
      ⟨this, this⟩⟩
end Mine

set_option autoImplicit false
set_option linter.unusedVariables false
set_option maxRecDepth 10000
namespace Mine
open PySem
noncomputable def smallL : List Str := ["k", "q x", "z\"", "b\\", "#y"]
noncomputable def bigL : List Str := ["K", "Q X", "Z\"", "B\\", "#Y"]
noncomputable def told (x : Int) : Str := (if (x.fdiv 5).fmod 2 == 0 then smallL else bigL).getD (x.fmod 5).toNat default
theorem fmod5 (x : Int) : x.fmod 5 = 0 ∨ x.fmod 5 = 1 ∨ x.fmod 5 = 2 ∨ x.fmod 5 = 3 ∨ x.fmod 5 = 4 := by
  have h := Int.fmod_eq_emod_of_nonneg x (show (0 : Int) ≤ 5 by decide)
  omega
theorem fmod2 (x : Int) : x.fmod 2 = 0 ∨ x.fmod 2 = 1 := by
  have h := Int.fmod_eq_emod_of_nonneg x (show (0 : Int) ≤ 2 by decide)
  omega
theorem fmod3 (x : Int) : x.fmod 3 = 0 ∨ x.fmod 3 = 1 ∨ x.fmod 3 = 2 := by
  have h := Int.fmod_eq_emod_of_nonneg x (show (0 : Int) ≤ 3 by decide)
  omega
theorem c_small {Q : V → List O → Prop} {hp : List O} (q : Q (.d (.list (smallL.map .str))) hp) : F__law_small [] Q hp := by
  refine ⟨rfl, ?_⟩
  refine ⟨by decide, ?_⟩
  show Q _ (hp.take hp.length)
  rw [List.take_length]
  exact q
theorem c_told {Q : V → List O → Prop} {hp : List O} {x : Int} (q : Q (.d (.str (told x))) hp) : F__law_told [.d (.int x)] Q hp := by
  refine ⟨rfl, ?_⟩
  have five : (5 : Int) ≠ 0 ∧ (5 : Int).natAbs < 2 ^ 64 := by decide
  have key : ∀ l : List Str, l.length = 5 → ∀ K : V → List O → Prop, K (.d (.str (l.getD (x.fmod 5).toNat default))) hp → opItem (.d (.list (l.map .str))) (.d (.int (x.fmod 5))) K hp := by
    intro l hl K k
    have h5 := fmod5 x
    refine ⟨by omega, l.map .str, rfl, ?_⟩
    obtain ⟨a0, a1, a2, a3, a4, rfl⟩ : ∃ a0 a1 a2 a3 a4, l = [a0, a1, a2, a3, a4] := by
      match l, hl with
      | [a0, a1, a2, a3, a4], _ => exact ⟨_, _, _, _, _, rfl⟩
    rcases h5 with h | h | h | h | h <;> (rw [h] at k ⊢; exact k)
  have fin : ∀ y, Q (.d y) hp → fin false hp.length Q (.d y) hp := by
    intro y hy
    show Q _ (hp.take hp.length)
    rw [List.take_length]
    exact hy
  refine ⟨by decide, by decide, ?_⟩
  refine ⟨by decide, ?_⟩
  unfold told at q
  rcases fmod2 (x.fdiv 5) with h | h
  · rw [h] at q ⊢
    refine c_small ?_
    refine ⟨by decide, ?_⟩
    exact key smallL rfl _ (fin _ q)
  · rw [h] at q ⊢
    refine ⟨by decide, by decide, ?_⟩
    exact key bigL rfl _ (fin _ q)
end Mine

set_option autoImplicit false
set_option linter.unusedVariables false
set_option maxRecDepth 10000
namespace Mine
open PySem
noncomputable abbrev ch (c : Nat) : Str := ⟨#[c]⟩
noncomputable abbrev mkS (l : List Nat) : Str := ⟨l.toArray⟩
noncomputable def wsS : Str := "\n\t\r "
noncomputable def isWs (c : Nat) : Bool := c == 10 || c == 9 || c == 13 || c == 32
theorem ws_all : ∀ c : Fin 128, Txt.contains wsS (ch c.val) = isWs c.val := by decide +kernel
theorem ws_of {c : Nat} (h : c < 128) : Txt.contains wsS (ch c) = isWs c := ws_all ⟨c, h⟩
theorem ch_beq (c d : Nat) : ((ch c) == (ch d)) = (c == d) := by
  by_cases h : c = d
  · subst h; simp
  · have : ch c ≠ ch d := by intro e; cases e; exact h rfl
    rw [beq_eq_false_iff_ne.mpr this, beq_eq_false_iff_ne.mpr h]
theorem mkS_snoc (t : List Nat) (c : Nat) : mkS t ++ ch c = mkS (t ++ [c]) := by
  show (⟨_ ++ _⟩ : Str) = _
  simp
theorem mkS_nil (t : List Nat) : mkS t ++ mkS [] = mkS t := by
  show (⟨_ ++ _⟩ : Str) = _
  simp
theorem mkS_len (t : List Nat) : (mkS t).length = t.length := by show t.toArray.size = _; simp
noncomputable def okl (l : List Nat) : Prop := l.length ≤ 2 ^ 20 ∧ ∀ c ∈ l, c < 128
theorem okD_strs {l : List PyData} (h : ∀ x ∈ l, ∃ y, x = .str y ∧ PyData.strOk y = true) : okD (.list l) = true := by
  have k : PyData.canLayAll0 l = true ∧ PyData.depthAll l = 0 := by
    induction l with
    | nil => exact ⟨rfl, rfl⟩
    | cons x xs ih =>
      obtain ⟨y, rfl, hy⟩ := h x List.mem_cons_self
      obtain ⟨a, b⟩ := ih (fun z hz => h z (List.mem_cons_of_mem _ hz))
      refine ⟨?_, ?_⟩
      · simp only [PyData.canLayAll0, PyData.canLay0, hy, a, Bool.and_self]
      · simp only [PyData.depthAll, PyData.depth, b]; rfl
  unfold okD
  simp only [PyData.canLay0, PyData.depth, k.1, k.2]
  decide
theorem okD_strL {l : List Nat} (h : ∀ c ∈ l, c < 128) : okD (strL l) = true := by
  refine okD_strs ?_
  intro x hx
  obtain ⟨c, hc, rfl⟩ := List.mem_map.mp hx
  refine ⟨_, rfl, ?_⟩
  have := h c (by simpa using hc)
  unfold PyData.strOk
  simp; omega
/-- the lexer il on the stream is -/
structure Lx (hp : List O) (il is : Nat) (n : Int) (l : List Nat) : Prop where
  ne : il ≠ is
  ob : ∃ fs, hp[il]? = some (.inst 213 fs) ∧ fs.lookup 1 = some (.d (.int n)) ∧ fs.lookup 2 = some (.r is) ∧ fs.lookup 3 = some (.d (.str wsS)) ∧ fs.lookup 4 = some (.d (.list []))
  st : hp[is]? = some (.stream l)
  ok : okl l
noncomputable def Kp (S : List Nat) (hp hp' : List O) : Prop := hp'.length = hp.length ∧ ∀ k, k ∉ S → hp'[k]? = hp[k]?
theorem Kp.refl (S : List Nat) (hp : List O) : Kp S hp hp := ⟨rfl, fun _ _ => rfl⟩
theorem Kp.trans {S : List Nat} {a b c : List O} (x : Kp S a b) (y : Kp S b c) : Kp S a c := ⟨y.1.trans x.1, fun k hk => (y.2 k hk).trans (x.2 k hk)⟩
theorem Kp.mono {S T : List Nat} {a b : List O} (x : Kp S a b) (h : ∀ k ∈ S, k ∈ T) : Kp T a b := ⟨x.1, fun k hk => x.2 k (fun q => hk (h k q))⟩
theorem Kp.set {S : List Nat} {hp : List O} {i : Nat} {o : O} (h : i ∈ S) : Kp S hp (hp.set i o) := ⟨by simp, fun k hk => by rw [List.getElem?_set_ne]; rintro rfl; exact hk h⟩
noncomputable def nl (c : Nat) : Int := if c = 10 then 1 else 0
noncomputable def hd (l : List Nat) : List Nat := l.take 1
noncomputable def nlh : List Nat → Int | [] => 0 | c :: _ => nl c
theorem set_get {hp : List O} {i : Nat} {o o' : O} (h : hp[i]? = some o) : (hp.set i o')[i]? = some o' := by
  rw [List.getElem?_set_self' ]; simp [h]
theorem fin_len {n : Nat} {Q : V → List O → Prop} {x : PyData} {hp : List O} (h : hp.length = n) (q : Q (.d x) hp) : fin false n Q (.d x) hp := by
  show Q _ (hp.take n)
  rw [← h, List.take_length]; exact q
theorem getF_go {C : Addr} {k i : Nat} {fs : List (Nat × V)} {w : V} {Q : V → List O → Prop} {hp : List O} (e : hp[i]? = some (.inst C fs)) (f : fs.lookup k = some w) (q : Q w hp) : getF C k (.r i) Q hp := by
  unfold getF atI
  simp only [e, f]
  exact ⟨trivial, q⟩
theorem setF_go {C : Addr} {k i : Nat} {fs : List (Nat × V)} {w : PyData} {Q : List O → Prop} {hp : List O} (e : hp[i]? = some (.inst C fs)) (q : Q (hp.set i (.inst C (putFs k (.d w) fs)))) : setF C k (.r i) (.d w) Q hp := by
  unfold setF atI
  simp only [e]
  exact ⟨trivial, trivial, q⟩
theorem c_read {il is : Nat} {n : Int} {l : List Nat} {hp : List O} {Q : V → List O → Prop} (L : Lx hp il is n l)
    (q : ∀ hp', Kp [il, is] hp hp' → Lx hp' il is (n + nlh l) l.tail → Q (.d (.str (mkS (hd l)))) hp') : F__netrclex__read_char [.r il] Q hp := by
  obtain ⟨ne, ⟨fs, e1, f1, f2, f3, f4⟩, st, ok⟩ := L
  simp only [F__netrclex__read_char, runFn, bPlain, p__netrclex__read_char, sCons, sAssign, xRead, xUn, xVar, sIf, bCmp, sAugF, sRet, cI, cS, sNil, List.map_cons, List.map_nil, List.replicate, List.cons_append, List.nil_append, List.getElem?_cons_zero, List.getElem?_cons_succ, List.set_cons_zero, List.set_cons_succ]
  refine ⟨rfl, ?_⟩
  refine getF_go e1 f2 ?_
  show readS is _ hp
  unfold readS
  rw [st]
  cases l with
  | nil =>
    refine fin_len rfl (q hp (Kp.refl _ _) ⟨ne, ⟨fs, e1, ?_, f2, f3, f4⟩, st, ok⟩)
    simpa [nlh] using f1
  | cons c l =>
    have okt : okl l := ⟨Nat.le_trans (Nat.le_succ _) ok.1, fun d hd => ok.2 d (List.mem_cons_of_mem _ hd)⟩
    refine ⟨⟨Nat.le_trans ok.1 (by rw [sizeLine_eq]; decide), okD_strL ok.2⟩, ?_⟩
    have s1 : (hp.set is (.stream l))[is]? = some (.stream l) := set_get st
    have s2 : (hp.set is (.stream l))[il]? = some (.inst 213 fs) := by rw [List.getElem?_set_ne (Ne.symm ne)]; exact e1
    have hb : ((ch c) == ("\n" : Str)) = (c == 10) := by rw [show (("\n" : Str)) = ch 10 from by decide, ch_beq]
    simp only [opEq, truthV, hb]
    by_cases h : c = 10
    · subst h
      refine getF_go s2 f1 (setF_go s2 ?_)
      refine fin_len (by simp) (q _ ?_ ⟨ne, ⟨_, set_get s2, ?_, ?_, ?_, ?_⟩, ?_, okt⟩)
      · exact (Kp.set (by simp)).trans (Kp.set (by simp))
      · rw [putFs_look]; simp [nlh, nl]
      · rw [putFs_look]; simp [f2]
      · rw [putFs_look]; simp [f3]
      · rw [putFs_look]; simp [f4]
      · rw [List.getElem?_set_ne ne]; exact s1
    · have : (c == 10) = false := by simpa using h
      rw [this]
      refine fin_len (by simp) (q _ (Kp.set (by simp)) ⟨ne, ⟨fs, s2, ?_, f2, f3, f4⟩, s1, okt⟩)
      simpa [nlh, nl, h] using f1
end Mine

set_option autoImplicit false
set_option linter.unusedVariables false
set_option maxRecDepth 10000
namespace Mine
open PySem
theorem Lx.keep {hp hp' : List O} {il is ic : Nat} {n : Int} {l : List Nat} {o : O} (L : Lx hp il is n l) (h1 : ic ≠ il) (h2 : ic ≠ is) : Lx (hp.set ic o) il is n l := by
  obtain ⟨ne, ⟨fs, e1, f⟩, st, ok⟩ := L
  exact ⟨ne, ⟨fs, by rw [List.getElem?_set_ne h1]; exact e1, f⟩, by rw [List.getElem?_set_ne h2]; exact st, ok⟩
theorem c_next {ic il is : Nat} {n : Int} {l : List Nat} {hp : List O} {Q : Option V → List O → Prop} (L : Lx hp il is n l) (hc : hp[ic]? = some (.citer (some il))) (h1 : ic ≠ il) (h2 : ic ≠ is)
    (q : ∀ hp', Kp [il, is, ic] hp hp' → Lx hp' il is (n + nlh l) l.tail → match l with | [] => hp'[ic]? = some (.citer none) → Q none hp' | c :: _ => hp'[ic]? = some (.citer (some il)) → Q (some (.d (.str (ch c)))) hp') : nextC ic F__netrclex__read_char Q hp := by
  unfold nextC
  rw [hc]
  refine c_read L ?_
  intro hp' k L'
  have hc' : hp'[ic]? = some (.citer (some il)) := (k.2 ic (by simp [h1, h2])).trans hc
  refine ⟨hc', ?_⟩
  cases l with
  | nil =>
    show (if (⟨#[]⟩ : Str) = mkS (hd []) then _ else _)
    rw [if_pos (by rfl)]
    exact q _ ((k.mono (by simp)).trans (Kp.set (by simp))) (L'.keep (hp' := hp') h1 h2) (set_get hc')
  | cons c l =>
    show (if (⟨#[]⟩ : Str) = mkS (hd (c :: l)) then _ else _)
    rw [if_neg (by intro e; cases e)]
    exact q _ (k.mono (by simp)) L' hc'
/-- what a word's text tells: the word, what stands behind it, the feeds read -/
noncomputable def tL (e : Nat → Bool) : Bool → List Nat → List Nat × List Nat × Int
  | _, [] => ([], [], 0)
  | true, c :: l => (c :: (tL e false l).1, (tL e false l).2.1, nl c + (tL e false l).2.2)
  | false, c :: l => if e c then ([], l, nl c) else if c = 92 then tL e true l else (c :: (tL e false l).1, (tL e false l).2.1, nl c + (tL e false l).2.2)
noncomputable def bT (T : XB) : XS := sCons (sIf T (sCons (sRet (xVar 1)) sNil) (sCons (sIf (bCmp opEq (xVar 3) (cS "\\")) (sCons (sAssign 3 (xMeth 213 F__netrclex__read_char (xVar 0) lNil lNil)) sNil) sNil) sNil)) (sCons (sAug opIAdd 1 (xVar 3)) sNil)
theorem c_t {T : XB} {e : Nat → Bool} {ic il is : Nat} (h1 : ic ≠ il) (h2 : ic ≠ is) (he : e 92 = false)
    (hT : ∀ (t : V) hp n l c Q, Lx hp il is n l → c < 128 → Q (e c) hp → T [some (.r il), some t, some (.r ic), some (.d (.str (ch c)))] Q hp) :
    ∀ (m : Nat) (l : List Nat), l.length ≤ m → ∀ (t : List Nat) (n : Int) (hp : List O) (o : Option V) (Q : QS), Lx hp il is n l → hp[ic]? = some (.citer (some il)) → t.length + l.length ≤ 2 ^ 20 →
    (∀ hp', Kp [il, is, ic] hp hp' → Lx hp' il is (n + (tL e false l).2.2) (tL e false l).2.1 → ∀ o',
      Q (.ret (.d (.str (mkS (t ++ (tL e false l).1))))) [some (.r il), some (.d (.str (mkS (t ++ (tL e false l).1)))), some (.r ic), o'] hp' ∧
      (hp'[ic]? = some (.citer none) → Q .next [some (.r il), some (.d (.str (mkS (t ++ (tL e false l).1)))), some (.r ic), o'] hp')) →
    ∀ k, l.length < k → forC ic F__netrclex__read_char (tName 3) (bT T) Q k [some (.r il), some (.d (.str (mkS t))), some (.r ic), o] hp := by
  intro m
  induction m with
  | zero =>
    intro l hl t n hp o Q L hc hz q k hk
    have : l = [] := List.length_eq_zero_iff.mp (Nat.le_zero.mp hl)
    subst this
    obtain ⟨k, rfl⟩ : ∃ j, k = j + 1 := ⟨k - 1, by omega⟩
    refine c_next L hc h1 h2 fun hp' kp L' hn => ?_
    have := (q hp' kp (by simpa [tL, nlh] using L') o).2 hn
    simpa [tL] using this
  | succ m ih =>
    intro l hl t n hp o Q L hc hz q k hk
    obtain ⟨k, rfl⟩ : ∃ j, k = j + 1 := ⟨k - 1, by omega⟩
    cases l with
    | nil =>
      refine c_next L hc h1 h2 fun hp' kp L' hn => ?_
      have := (q hp' kp (by simpa [tL, nlh] using L') o).2 hn
      simpa [tL] using this
    | cons c l =>
      have hcc : c < 128 := L.ok.2 c List.mem_cons_self
      have hl' : l.length ≤ m := by simpa using hl
      have hk' : l.length < k := by simpa using hk
      have bsl : ((ch c) == ("\\" : Str)) = (c == 92) := by rw [show (("\\" : Str)) = ch 92 from by decide, ch_beq]
      refine c_next L hc h1 h2 fun hp' kp L' hn => ?_
      simp only [tName, bT, sCons, sIf, List.set_cons_succ, List.set_cons_zero]
      refine hT _ _ _ _ _ _ L' hcc ?_
      have step : ∀ (d : Nat) (l' : List Nat) hp₂ n₂, Kp [il, is, ic] hp hp₂ → Lx hp₂ il is n₂ l' → hp₂[ic]? = some (.citer (some il)) → l'.length < k → l'.length ≤ m → t.length + l'.length + 1 ≤ 2 ^ 20 →
          tL e false (c :: l) = (d :: (tL e false l').1, (tL e false l').2.1, (n₂ - n) + (tL e false l').2.2) →
          sAug opIAdd 1 (xVar 3) [some (.r il), some (.d (.str (mkS t))), some (.r ic), some (.d (.str (ch d)))] (fun fl vs' hp => match fl with
            | .next => sNil vs' (fun fl vs'' hp'' => match fl with
              | .next => forC ic F__netrclex__read_char (tName 3) (bT T) Q k vs'' hp''
              | .cont => forC ic F__netrclex__read_char (tName 3) (bT T) Q k vs'' hp''
              | .brk => Q .next vs'' hp''
              | .ret v => Q (.ret v) vs'' hp'') hp
            | fl => (fun fl vs'' hp'' => match fl with
              | .next => forC ic F__netrclex__read_char (tName 3) (bT T) Q k vs'' hp''
              | .cont => forC ic F__netrclex__read_char (tName 3) (bT T) Q k vs'' hp''
              | .brk => Q .next vs'' hp''
              | .ret v => Q (.ret v) vs'' hp'') fl vs' hp) hp₂ := by
        intro d l' hp₂ n₂ kp₂ L₂ hn₂ hk₂ hm₂ hz₂ hd
        refine ⟨?_, ?_⟩
        · rw [mkS_len]; show _ + 1 ≤ _; rw [sizeLine_eq]; omega
        · show forC ic F__netrclex__read_char (tName 3) (bT T) Q k [some (.r il), some (.d (.str (mkS t ++ ch d))), some (.r ic), some (.d (.str (ch d)))] hp₂
          rw [mkS_snoc]
          refine ih l' hm₂ _ _ _ _ _ L₂ hn₂ (by simp; omega) ?_ k hk₂
          intro hp₃ kp₃ L₃ o'
          have := q hp₃ (kp₂.trans kp₃) (by rw [hd]; have e : n₂ + (tL e false l').2.2 = n + (n₂ - n + (tL e false l').2.2) := by omega
                                            rw [e] at L₃; exact L₃) o'
          rw [hd] at this
          simpa using this
      by_cases hec : e c = true
      · simp only [hec, sRet, xVar, List.getElem?_cons_zero, List.getElem?_cons_succ]
        have := (q hp' kp (by simpa [tL, hec, nlh] using L') (some (.d (.str (ch c))))).1
        simpa [tL, hec] using this
      · have hec' : e c = false := by simpa using hec
        simp only [hec', bCmp, xVar, List.getElem?_cons_zero, List.getElem?_cons_succ, cS, opEq, truthV, bsl]
        by_cases h92 : c = 92
        · subst h92
          obtain ⟨fs, e1, _⟩ := L'.ob
          have hat : atI (.r il) hp' 213 (fun _ _ => True) := by unfold atI; simp only [e1]; exact ⟨trivial, trivial⟩
          refine ⟨hat, c_read L' ?_⟩
          intro hp₂ kp₂ L₂
          have kp' : Kp [il, is, ic] hp hp₂ := kp.trans (kp₂.mono (by simp))
          have hn₂ : hp₂[ic]? = some (.citer (some il)) := (kp₂.2 ic (by simp [h1, h2])).trans hn
          cases l with
          | nil =>
            refine ⟨?_, ?_⟩
            · rw [mkS_len]; show _ + 0 ≤ _; rw [sizeLine_eq]; simp at hz; omega
            · show forC ic F__netrclex__read_char (tName 3) (bT T) Q k [some (.r il), some (.d (.str (mkS t ++ mkS []))), some (.r ic), some (.d (.str (mkS [])))] hp₂
              rw [mkS_nil]
              refine ih [] (Nat.zero_le _) _ _ _ _ _ L₂ hn₂ (by simp at hz ⊢; omega) ?_ k (by simpa using hk')
              intro hp₃ kp₃ L₃ o'
              have := q hp₃ (kp'.trans kp₃) (by simpa [tL, hec', nlh, nl] using L₃) o'
              simpa [tL, hec'] using this
          | cons d l =>
            refine step d l hp₂ _ kp' L₂ hn₂ (by simp at hk'; omega) (by simp at hl'; omega) (by simp at hz; omega) ?_
            simp [tL, hec', nlh, nl]
            omega
        · have : (c == 92) = false := by simpa using h92
          simp only [this]
          refine step c l hp' _ kp L' hn hk' hl' (by simp at hz; omega) ?_
          simp [tL, hec', h92, nlh]
          omega
end Mine

set_option autoImplicit false
set_option linter.unusedVariables false
set_option maxRecDepth 10000
namespace Mine
open PySem
noncomputable def gTok : List Nat → List Nat × List Nat × Int
  | [] => ([], [], 0)
  | c :: l => if isWs c then ((gTok l).1, (gTok l).2.1, nl c + (gTok l).2.2) else if c = 34 then tL (· == 34) false l else tL isWs false (c :: l)
noncomputable def tQ : XB := bCmp opEq (xVar 3) (cS "\"")
noncomputable def tW : XB := bCmp opIn (xVar 3) (xUn (getF 213 3) (xVar 0))
theorem t_q {il ic is : Nat} (t : V) (hp : List O) (n : Int) (l : List Nat) (c : Nat) (Q : Bool → List O → Prop) (L : Lx hp il is n l) (hc : c < 128) (q : Q (c == 34) hp) : tQ [some (.r il), some t, some (.r ic), some (.d (.str (ch c)))] Q hp := by
  have b : ((ch c) == ("\"" : Str)) = (c == 34) := by rw [show (("\"" : Str)) = ch 34 from by decide, ch_beq]
  simp only [tQ, bCmp, xVar, List.getElem?_cons_zero, List.getElem?_cons_succ, cS, opEq, truthV, b]
  exact q
theorem t_w {il ic is : Nat} (t : V) (hp : List O) (n : Int) (l : List Nat) (c : Nat) (Q : Bool → List O → Prop) (L : Lx hp il is n l) (hc : c < 128) (q : Q (isWs c) hp) : tW [some (.r il), some t, some (.r ic), some (.d (.str (ch c)))] Q hp := by
  obtain ⟨fs, e1, f1, f2, f3, f4⟩ := L.ob
  simp only [tW, bCmp, xVar, xUn, List.getElem?_cons_zero, List.getElem?_cons_succ]
  refine getF_go e1 f3 ?_
  simp only [opIn, truthV, ws_of hc]
  exact q
noncomputable def bO : XS := sCons (sIf tW (sCons sCont sNil) sNil)
  (sCons (sIf tQ (sCons (sForC F__netrclex__read_char (tName 3) (xVar 2) (bT tQ)) sNil)
    (sCons (sIf (bCmp opEq (xVar 3) (cS "\\")) (sCons (sAssign 3 (xMeth 213 F__netrclex__read_char (xVar 0) lNil lNil)) sNil) sNil)
    (sCons (sAug opIAdd 1 (xVar 3))
    (sCons (sForC F__netrclex__read_char (tName 3) (xVar 2) (bT tW)) sNil)))) sNil)
theorem c_end {ic k : Nat} {F : FT} {tgt : XT} {b : XS} {Q : QS} {vs : List (Option V)} {hp : List O} (h : hp[ic]? = some (.citer none)) (hk : 0 < k) (q : Q .next vs hp) : forC ic F tgt b Q k vs hp := by
  obtain ⟨k, rfl⟩ : ∃ j, k = j + 1 := ⟨k - 1, by omega⟩
  show nextC ic F _ hp
  unfold nextC
  rw [h]
  exact q
theorem isC_of {hp : List O} {ic : Nat} {c : Option Nat} (h : hp[ic]? = some (.citer c)) : isC hp ic := by
  unfold isC; rw [h]; trivial
theorem c_o {ic il is : Nat} (h1 : ic ≠ il) (h2 : ic ≠ is) : ∀ (l : List Nat) (n : Int) (hp : List O) (o : Option V) (Q : QS), Lx hp il is n l → hp[ic]? = some (.citer (some il)) →
    (∀ hp', Kp [il, is, ic] hp hp' → Lx hp' il is (n + (gTok l).2.2) (gTok l).2.1 → ∀ o',
      Q (.ret (.d (.str (mkS (gTok l).1)))) [some (.r il), some (.d (.str (mkS (gTok l).1))), some (.r ic), o'] hp' ∧ Q .next [some (.r il), some (.d (.str (mkS (gTok l).1))), some (.r ic), o'] hp') →
    ∀ k, l.length < k → forC ic F__netrclex__read_char (tName 3) bO Q k [some (.r il), some (.d (.str (mkS []))), some (.r ic), o] hp := by
  intro l
  induction l with
  | nil =>
    intro n hp o Q L hc q k hk
    obtain ⟨k, rfl⟩ : ∃ j, k = j + 1 := ⟨k - 1, by omega⟩
    refine c_next L hc h1 h2 fun hp' kp L' hn => ?_
    exact (q hp' kp (by simpa [gTok, nlh] using L') o).2
  | cons c l ih =>
    intro n hp o Q L hc q k hk
    obtain ⟨k, rfl⟩ : ∃ j, k = j + 1 := ⟨k - 1, by omega⟩
    have hcc : c < 128 := L.ok.2 c List.mem_cons_self
    have hk' : l.length < k := by simpa using hk
    have hz := L.ok.1
    refine c_next L hc h1 h2 fun hp' kp L' hn => ?_
    simp only [tName, bO, sCons, sIf, List.set_cons_succ, List.set_cons_zero]
    refine t_w _ _ _ _ _ _ L' hcc ?_
    by_cases hw : isWs c = true
    · simp only [hw, sCont]
      refine ih _ _ _ _ L' hn ?_ k hk'
      intro hp₂ kp₂ L₂ o'
      have := q hp₂ (kp.trans kp₂) (by simp only [gTok, hw, if_true]; rw [← Int.add_assoc]; exact L₂) o'
      simpa [gTok, hw] using this
    · have hw' : isWs c = false := by simpa using hw
      simp only [hw', sNil]
      refine t_q _ _ _ _ _ _ L' hcc ?_
      have after : ∀ (t : List Nat) {o' : Option V} {hp₂ : List O}, hp₂[ic]? = some (.citer none) → Q .next [some (.r il), some (.d (.str (mkS t))), some (.r ic), o'] hp₂ →
          forC ic F__netrclex__read_char (tName 3) bO Q k [some (.r il), some (.d (.str (mkS t))), some (.r ic), o'] hp₂ := fun t o' hp₂ h q => c_end h (by omega) q
      by_cases h34 : c = 34
      · subst h34
        refine ⟨isC_of hn, k, c_t h1 h2 (e := (· == 34)) (by rfl) (fun t hp n l c Q L hc q => t_q t hp n l c Q L hc q) l.length l (Nat.le_refl _) [] _ _ _ _ L' hn (by simp at hz ⊢; omega) ?_ k hk'⟩
        intro hp₂ kp₂ L₂ o'
        have := q hp₂ (kp.trans kp₂) (by simp only [gTok, hw', if_true]; simpa [nlh, nl] using L₂) o'
        simp only [gTok, hw', if_true, Bool.false_eq_true, if_false] at this
        exact ⟨this.1, fun h => after _ h this.2⟩
      · have e34 : (c == 34) = false := by simpa using h34
        have bsl : ((ch c) == ("\\" : Str)) = (c == 92) := by rw [show (("\\" : Str)) = ch 92 from by decide, ch_beq]
        simp only [e34, bCmp, xVar, List.getElem?_cons_zero, List.getElem?_cons_succ, cS, opEq, truthV, bsl]
        have plain : ∀ (QQ : QS), (∀ v vs h, Q (.ret v) vs h → QQ (.ret v) vs h) → (∀ vs h, forC ic F__netrclex__read_char (tName 3) bO Q k vs h → QQ .next vs h) → ∀ (t l' : List Nat) (o₂ : Option V) hp₂ n₂, Kp [il, is, ic] hp hp₂ → Lx hp₂ il is n₂ l' → hp₂[ic]? = some (.citer (some il)) → l'.length < k → t.length + l'.length ≤ 2 ^ 20 →
            tL isWs false (c :: l) = (t ++ (tL isWs false l').1, (tL isWs false l').2.1, (n₂ - n) + (tL isWs false l').2.2) →
            forC ic F__netrclex__read_char (tName 3) (bT tW) QQ k [some (.r il), some (.d (.str (mkS t))), some (.r ic), o₂] hp₂ := by
          intro QQ qr qn t l' o₂ hp₂ n₂ kp₂ L₂ hn₂ hk₂ hz₂ ht
          refine c_t h1 h2 (by decide) (fun t hp n l c Q L hc q => t_w t hp n l c Q L hc q) l'.length l' (Nat.le_refl _) t _ _ _ _ L₂ hn₂ hz₂ ?_ k hk₂
          intro hp₃ kp₃ L₃ o'
          have := q hp₃ (kp₂.trans kp₃) (by
            simp only [gTok, hw', if_neg h34, ht, Bool.false_eq_true, if_false]
            have e : n₂ + (tL isWs false l').2.2 = n + (n₂ - n + (tL isWs false l').2.2) := by omega
            rw [e] at L₃; exact L₃) o'
          simp only [gTok, hw', if_neg h34, ht, Bool.false_eq_true, if_false] at this
          exact ⟨qr _ _ _ this.1, fun h => qn _ _ (after _ h this.2)⟩
        by_cases h92 : c = 92
        · subst h92
          obtain ⟨fs, e1, _⟩ := L'.ob
          have hat : atI (.r il) hp' 213 (fun _ _ => True) := by unfold atI; simp only [e1]; exact ⟨trivial, trivial⟩
          refine ⟨hat, c_read L' ?_⟩
          intro hp₂ kp₂ L₂
          have kp' : Kp [il, is, ic] hp hp₂ := kp.trans (kp₂.mono (by simp))
          have hn₂ : hp₂[ic]? = some (.citer (some il)) := (kp₂.2 ic (by simp [h1, h2])).trans hn
          cases l with
          | nil =>
            refine ⟨by rw [mkS_len]; show 0 + 0 ≤ _; exact Nat.zero_le _, isC_of hn₂, k, ?_⟩
            have := fun QQ h1 h2 => plain QQ h1 h2 [] [] (some (.d (.str (mkS [])))) hp₂ _ kp' L₂ hn₂ (by simpa using hk') (by simp) (by simp [tL, isWs, nlh, nl])
            exact this _ (fun _ _ _ x => x) (fun _ _ x => x)
          | cons d l =>
            refine ⟨by rw [mkS_len]; show 0 + 1 ≤ _; rw [sizeLine_eq]; decide, isC_of hn₂, k, ?_⟩
            have := fun QQ h1 h2 => plain QQ h1 h2 [d] l (some (.d (.str (ch d)))) hp₂ _ kp' L₂ hn₂ (by simp at hk'; omega) (by simp at hz ⊢; omega) (by simp [tL, isWs, nlh, nl]; omega)
            exact this _ (fun _ _ _ x => x) (fun _ _ x => x)
        · have e92 : (c == 92) = false := by simpa using h92
          rw [e92]
          refine ⟨by rw [mkS_len]; show 0 + 1 ≤ _; rw [sizeLine_eq]; decide, isC_of hn, k, ?_⟩
          have := fun QQ h1 h2 => plain QQ h1 h2 [c] l (some (.d (.str (ch c)))) hp' _ kp L' hn hk' (by simp at hz ⊢; omega) (by simp [tL, hw', h92, nlh]; omega)
          exact this _ (fun _ _ _ x => x) (fun _ _ x => x)
theorem c_token {il is : Nat} {n : Int} {l : List Nat} {hp : List O} {Q : V → List O → Prop} (L : Lx hp il is n l)
    (q : ∀ hp', Kp [il, is] hp hp' → Lx hp' il is (n + (gTok l).2.2) (gTok l).2.1 → Q (.d (.str (mkS (gTok l).1))) hp') : F__netrclex_get_token [.r il] Q hp := by
  obtain ⟨fs, e1, f1, f2, f3, f4⟩ := L.ob
  have hil := (List.getElem?_eq_some_iff.mp e1).1
  have his := (List.getElem?_eq_some_iff.mp L.st).1
  have h1 : hp.length ≠ il := by omega
  have h2 : hp.length ≠ is := by omega
  have L₀ : Lx (hp ++ [.citer (some il)]) il is n l := ⟨L.ne, ⟨fs, get_left e1 _, f1, f2, f3, f4⟩, get_left L.st _, L.ok⟩
  have hc : (hp ++ [.citer (some il)])[hp.length]? = some (.citer (some il)) := by simp
  have hat : atI (.r il) hp 213 (fun i _ => isC (hp ++ [.citer (some i)]) hp.length ∧ True) := by
    unfold atI; simp only [e1]; exact ⟨trivial, isC_of (c := some il) (by simp), trivial⟩
  refine ⟨rfl, getF_go e1 f4 ?_⟩
  refine ⟨[], rfl, Nat.zero_le _, ?_⟩
  simp only [sCons, sAssign, cS, xIter, xVar, List.isEmpty_nil, Bool.not_true, sNil, List.map_cons, List.map_nil, List.replicate, List.cons_append, List.nil_append, List.getElem?_cons_zero, List.getElem?_cons_succ, List.set_cons_zero, List.set_cons_succ]
  unfold atI
  simp only [e1]
  refine ⟨trivial, isC_of hc, l.length + 1, ?_⟩
  refine c_o h1 h2 l n _ _ _ L₀ hc ?_ (l.length + 1) (Nat.lt_succ_self _)
  intro hp' kp L' o'
  have hlen : hp'.length = hp.length + 1 := by rw [kp.1]; simp
  have kk : Kp [il, is] hp (hp'.take hp.length) := by
    refine ⟨by simp; omega, fun k hk => ?_⟩
    rw [List.getElem?_take]
    split
    · rename_i hlt
      rw [kp.2 k (by simp at hk ⊢; omega)]
      rw [List.getElem?_append_left hlt]
    · rw [List.getElem?_eq_none (by omega)]
  have LL : Lx (hp'.take hp.length) il is (n + (gTok l).2.2) (gTok l).2.1 := by
    obtain ⟨ne, ⟨fs, a, b⟩, c, d⟩ := L'
    exact ⟨ne, ⟨fs, by rw [List.getElem?_take, if_pos hil]; exact a, b⟩, by rw [List.getElem?_take, if_pos his]; exact c, d⟩
  exact ⟨q _ kk LL, q _ kk LL⟩
end Mine

set_option autoImplicit false
set_option linter.unusedVariables false
set_option linter.unusedSimpArgs false
set_option maxRecDepth 10000
namespace Mine
open PySem
noncomputable def rowD (r : Str × Str) : PyData := .tuple [.str r.1, .str r.2]
structure Tb (hp : List O) (it ih : Nat) (rows : List (Str × Str)) : Prop where
  lt : ih < it
  ob : ∃ fs, hp[it]? = some (.inst 171 fs) ∧ fs.lookup 0 = some (.r ih)
  ls : hp[ih]? = some (.lst (rows.map rowD))
  few : rows.length ≤ 1000
noncomputable def okS (x : Str) : Prop := cleanS x = true ∧ x.length ≤ 1000
theorem okS_le {x : Str} (h : okS x) : x.length ≤ sizeLine := Nat.le_trans h.2 (by rw [sizeLine_eq]; decide)
theorem atI_go {C : Addr} {i : Nat} {fs : List (Nat × V)} {k : Nat → List (Nat × V) → Prop} {hp : List O} (e : hp[i]? = some (.inst C fs)) (q : k i fs) : atI (.r i) hp C k := by
  unfold atI; simp only [e]; exact ⟨trivial, q⟩
theorem atL_go {i : Nat} {l : List PyData} {k : Nat → List PyData → Prop} {hp : List O} (e : hp[i]? = some (.lst l)) (q : k i l) : atL (.r i) hp k := by
  unfold atL; simp only [e]; exact q
theorem lget_go {i : Nat} {l : List PyData} {hp : List O} (e : hp[i]? = some (.lst l)) : lget (.r i) hp = some l := by
  unfold lget; simp only [e]
theorem c_conv {i : Nat} {x : Str} {b : Bool} {Q : V → List O → Prop} {hp : List O} (h : okS x) (q : Q (.d (.str x)) hp) : F_Headers__convert_string_type [.r i, .d (.str x), .d (.bool b)] Q hp := by
  simp only [F_Headers__convert_string_type, runFn, bPlain, p_Headers__convert_string_type, sCons, sAssign, xUn, xVar, sIf, bCmp, sRet, cI, cS, sNil, xCall, lCons, lNil, xG, opIsT, truthV, bVal, xIte, fType, dget, tyOf, List.map_cons, List.map_nil, List.replicate, List.cons_append, List.nil_append, List.getElem?_cons_zero, List.getElem?_cons_succ, List.set_cons_zero, List.set_cons_succ]
  refine ⟨rfl, ?_⟩
  cases b with
  | true => exact ⟨by simp, h.1, okS_le h, fin_len rfl q⟩
  | false => exact ⟨by simp, h.1, okS_le h, fin_len rfl q⟩
theorem c_del {it ih : Nat} {rows : List (Str × Str)} {x : Str} {Q : V → List O → Prop} {hp : List O} (T : Tb hp it ih rows) (hx : okS (Txt.lower x)) (hr : ∀ r ∈ rows, (Txt.lower r.1).length ≤ sizeLine)
    (q : Q (.d .none) (hp.set ih (.lst ((rows.filter fun r => Txt.lower r.1 != Txt.lower x).map rowD)))) : F_Headers___delitem__ [.r it, .d (.str x)] Q hp := by
  obtain ⟨hlt, ⟨fs, e1, f⟩, ls, few⟩ := T
  simp only [F_Headers___delitem__, runFn, bPlain, p_Headers___delitem__, sCons, sAssign, xUn, xVar, sIf, bCmp, sRet, cI, cS, cB, sNil, xMeth, xMethS, mLower, lCons, lNil, List.map_cons, List.map_nil, List.replicate, List.cons_append, List.nil_append, List.getElem?_cons_zero, List.getElem?_cons_succ, List.set_cons_zero, List.set_cons_succ]
  refine ⟨rfl, atI_go e1 trivial, okS_le hx, c_conv hx ?_⟩
  simp only [sPutAll]
  refine comp1 (v := .r ih) (xs := rows.map rowD) (fun d => match d with | .tuple (.str k :: _) => Txt.lower k != Txt.lower x | _ => false) id (fun K k => getF_go e1 f k) (by unfold iterV; simp only [ls]) ?_ ?_ ?_ ?_
  · intro y hy l K k
    obtain ⟨r, hr', rfl⟩ := List.mem_map.mp hy
    refine ⟨by decide, ?_⟩
    exact ⟨hr r hr', k⟩
  · intro y hy hc l K k
    exact k
  · rw [List.length_map, sizeLine_eq]; omega
  · refine getF_go e1 f ?_
    refine atL_go ls ⟨_, rfl, by simp, ?_, ?_⟩
    · rw [List.map_id]
      refine Nat.le_trans (Nat.add_le_add_left (List.length_filter_le _ _) _) ?_
      rw [List.length_map, sizeLine_eq]; omega
    · have e : (((rows.map rowD).filter fun d => match d with | .tuple (.str k :: _) => Txt.lower k != Txt.lower x | _ => false).map id) = (rows.filter fun r => Txt.lower r.1 != Txt.lower x).map rowD := by
        rw [List.map_id, List.filter_map]; rfl
      rw [e]
      exact fin_len (by simp) q
theorem c_set {it ih : Nat} {rows : List (Str × Str)} {x y : Str} {Q : V → List O → Prop} {hp : List O} (T : Tb hp it ih rows) (hx : okS (Txt.lower x)) (hx' : okS x) (hy : okS y) (hr : ∀ r ∈ rows, (Txt.lower r.1).length ≤ sizeLine)
    (q : Q (.d .none) (hp.set ih (.lst (((rows.filter fun r => Txt.lower r.1 != Txt.lower x) ++ [(x, y)]).map rowD)))) : F_Headers___setitem__ [.r it, .d (.str x), .d (.str y)] Q hp := by
  obtain ⟨fs, e1, f⟩ := T.ob
  simp only [F_Headers___setitem__, runFn, bPlain, p_Headers___setitem__, sCons, sDelOwn, sExpr, xUn, xVar, sIf, bCmp, sRet, cI, cS, cB, sNil, xMeth, xMethL, xTuple, mLower, lCons, lNil, List.map_cons, List.map_nil, List.replicate, List.cons_append, List.nil_append, List.getElem?_cons_zero, List.getElem?_cons_succ, List.set_cons_zero, List.set_cons_succ]
  refine ⟨rfl, atI_go e1 trivial, c_del T hx hr ?_⟩
  have e2 : ∀ o, (hp.set ih o)[it]? = some (.inst 171 fs) := fun o => by rw [List.getElem?_set_ne (Nat.ne_of_lt T.lt)]; exact e1
  have l2 : ∀ o, (hp.set ih o)[ih]? = some o := fun o => set_get T.ls
  refine getF_go (e2 _) f ⟨by rw [lget_go (l2 _)]; rfl, ?_⟩
  refine ⟨atI_go (e2 _) trivial, ?_⟩
  refine c_conv hx' ?_
  refine ⟨atI_go (e2 _) trivial, ?_⟩
  refine c_conv hy ?_
  refine ⟨by show 2 ≤ sizeLine; rw [sizeLine_eq]; decide, by rw [lget_go (l2 _)]; rfl, ?_⟩
  unfold mAppend
  dsimp only
  refine atL_go (l2 _) ⟨?_, ?_⟩
  · rw [List.length_map]
    refine Nat.le_trans (List.length_filter_le _ _) ?_
    have := T.few
    rw [sizeLine_eq]; omega
  · rw [List.set_set]
    refine fin_len (by simp) ?_
    rw [List.map_append] at q
    exact q
theorem c_keys {it ih : Nat} {rows : List (Str × Str)} {Q : V → List O → Prop} {hp : List O} (T : Tb hp it ih rows) (q : Q (.d (.list (rows.map fun r => .str r.1))) hp) : F_Headers_keys [.r it] Q hp := by
  obtain ⟨hlt, ⟨fs, e1, f⟩, ls, few⟩ := T
  simp only [F_Headers_keys, runFn, bPlain, p_Headers_keys, sCons, sRet, xUn, List.map_cons, List.map_nil, List.replicate, List.cons_append, List.nil_append]
  refine ⟨rfl, ?_⟩
  simp only [xComp, xUn, xVar, List.getElem?_cons_zero]
  refine getF_go e1 f ?_
  have key : compL (some (ih, rows.map rowD)) hp.length (tTuple 2 (tsCons (tName 0) (tsCons (tName 1) tsNil))) iNil (xVar 0) (compEnd false hp.length fun v hp' => fin false hp.length Q v hp') (rows.map rowD) (List.replicate 2 none ++ [some (.r it)]) (hp ++ [.lst []]) := by
    refine comp_go (n := 2) (fun _ => true) (fun d => match d with | .tuple (k :: _) => k | _ => .none) (fun d => match d with | .tuple [a, b] => [some (.d a), some (.d b)] | _ => [none, none]) (rows.map rowD) [] _ rfl ?_ ?_ ?_ ?_ ls ?_ ?_
    · intro x hx; obtain ⟨r, _, rfl⟩ := List.mem_map.mp hx; rfl
    · intro x hx old ho K h k
      obtain ⟨r, _, rfl⟩ := List.mem_map.mp hx
      obtain ⟨a, b, rfl⟩ := len2 ho
      exact ⟨rfl, k⟩
    · intro x hx l K k; exact k
    · intro x hx _ l K k; obtain ⟨r, _, rfl⟩ := List.mem_map.mp hx; exact k
    · rw [List.length_map, sizeLine_eq]; simp; omega
    · refine end_false (fin_len rfl ?_)
      rw [List.nil_append]
      have e : (((rows.map rowD).filter fun _ => true).map fun d => match d with | .tuple (k :: _) => k | _ => .none) = rows.map fun r => .str r.1 := by
        rw [List.filter_eq_self.mpr (fun _ _ => rfl), List.map_map]; rfl
      rw [e]; exact q
  show iterV (.r ih) hp _
  unfold iterV
  simp only [ls]
  exact key
theorem c_items {it ih : Nat} {rows : List (Str × Str)} {Q : V → List O → Prop} {hp : List O} (T : Tb hp it ih rows) (q : Q (.d (.list (rows.map rowD))) hp) : F_Headers_items [.r it] Q hp := by
  obtain ⟨hlt, ⟨fs, e1, f⟩, ls, few⟩ := T
  simp only [F_Headers_items, runFn, bPlain, p_Headers_items, sCons, sRet, xUn, xSlice, pNone, List.map_cons, List.map_nil, List.replicate, List.cons_append, List.nil_append]
  refine ⟨rfl, ?_⟩
  refine getF_go e1 f ⟨_, lget_go ls, by rw [List.length_map, sizeLine_eq]; omega, ?_⟩
  have e : psl (rows.map rowD) none none = rows.map rowD := by
    unfold psl; simp; exact List.take_of_length_le (by simp)
  rw [e]
  exact fin_len rfl q
theorem setF_goR {C : Addr} {k i j : Nat} {fs : List (Nat × V)} {Q : List O → Prop} {hp : List O} (e : hp[i]? = some (.inst C fs)) (hj : j < i) (q : Q (hp.set i (.inst C (putFs k (.r j) fs)))) : setF C k (.r i) (.r j) Q hp := by
  unfold setF atI
  simp only [e]
  exact ⟨trivial, hj, q⟩
theorem tyeq : (Value.type "list" == Value.type "list") = true := by first | exact beq_self_eq_true _ | rfl
theorem c_headers {ih : Nat} {rows : List (Str × Str)} {Q : V → List O → Prop} {hp : List O} (ls : hp[ih]? = some (.lst (rows.map rowD))) (few : rows.length ≤ 1000) (hr : ∀ r ∈ rows, okS r.1 ∧ okS r.2)
    (q : ∀ hp', hp'.length = hp.length + 1 → (∀ k, k < hp.length → hp'[k]? = hp[k]?) → Tb hp' hp.length ih rows → Q (.r hp.length) hp') : F_Headers [.r ih] Q hp := by
  have hlt := (List.getElem?_eq_some_iff.mp ls).1
  have l0 : (hp ++ [.inst 171 []])[ih]? = some (.lst (rows.map rowD)) := get_left ls _
  have i0 : (hp ++ [O.inst 171 []])[hp.length]? = some (.inst 171 []) := by simp
  simp only [F_Headers, mkInst, F_Headers___init__, runFn, bPlain, p_Headers___init__, sCons, sAssign, sSetF, sIf, bCmp, bVal, cB, cNone, xIte, xCall, xG, opIsNot, opIsT, isNoneV, sNil, xVar, lCons, lNil, truthV, List.map_cons, List.map_nil, List.replicate, List.cons_append, List.nil_append, List.getElem?_cons_zero, List.getElem?_cons_succ, List.set_cons_zero, List.set_cons_succ, Bool.not_false]
  refine ⟨rfl, ?_⟩
  simp only [fType, dget, l0, tyOf]
  simp only [opIsT, truthV, tyeq, Bool.not_true, if_true]
  refine setF_goR i0 hlt ?_
  rw [show (hp ++ [O.inst 171 []]).set hp.length (.inst 171 (putFs 0 (.r ih) [])) = hp ++ [.inst 171 [(0, .r ih)]] from by rw [set_last]; rfl]
  have i1 : (hp ++ [O.inst 171 [(0, .r ih)]])[hp.length]? = some (.inst 171 [(0, .r ih)]) := by simp
  have l1 : (hp ++ [O.inst 171 [(0, .r ih)]])[ih]? = some (.lst (rows.map rowD)) := get_left ls _
  simp only [sFor, xVar, List.getElem?_cons_zero, List.getElem?_cons_succ]
  unfold iterV
  simp only [l1]
  refine for_go (α := Unit) (fun _ vs h => h = hp ++ [O.inst 171 [(0, .r ih)]] ∧ ∃ a b, vs = [some (.r hp.length), some (.r ih), a, b]) (fun _ _ => ()) (fun _ vs h r => by rw [r.1]; exact l1) _ () _ _ ⟨rfl, _, _, rfl⟩ ?_ ?_
  · rintro _ vs h x hx ⟨rfl, a, b, rfl⟩ K hK
    obtain ⟨r, hr', rfl⟩ := List.mem_map.mp hx
    refine ⟨rfl, ?_⟩
    show (atI (.r hp.length) _ 171 fun _ _ => True) ∧ F_Headers__convert_string_type [.r hp.length, .d (.str r.1), .d (.bool true)] (fun _ h => (atI (.r hp.length) h 171 fun _ _ => True) ∧ F_Headers__convert_string_type [.r hp.length, .d (.str r.2), .d (.bool false)] (fun _ h => K .next [some (.r hp.length), some (.r ih), some (.d (.str r.1)), some (.d (.str r.2))] h) h) _
    refine ⟨atI_go i1 trivial, ?_⟩
    refine c_conv (hr r hr').1 ?_
    refine ⟨atI_go i1 trivial, ?_⟩
    refine c_conv (hr r hr').2 ?_
    exact (hK _ _ ⟨rfl, _, _, rfl⟩).1
  · rintro vs h ⟨rfl, a, b, rfl⟩
    show fin false _ _ _ _
    refine fin_len (by simp) ⟨rfl, ?_⟩
    refine q _ (by simp) (fun k hk => ?_) ⟨hlt, ⟨_, i1, rfl⟩, l1, few⟩
    rw [List.getElem?_append_left hk]
theorem c_lexer {is : Nat} {l : List Nat} {Q : V → List O → Prop} {hp : List O} (st : hp[is]? = some (.stream l)) (ok : okl l)
    (q : ∀ hp', hp'.length = hp.length + 1 → (∀ k, k < hp.length → hp'[k]? = hp[k]?) → Lx hp' hp.length is 1 l → Q (.r hp.length) hp') : F__netrclex [.r is] Q hp := by
  have hlt := (List.getElem?_eq_some_iff.mp st).1
  simp only [F__netrclex, mkInst, F__netrclex___init__, runFn, bPlain, p__netrclex___init__, sCons, sSetF, cI, cS, sNil, xVar, xList, lNil, datas, mkL, List.map_cons, List.map_nil, List.replicate, List.cons_append, List.nil_append, List.append_nil, List.getElem?_cons_zero, List.getElem?_cons_succ]
  have i : ∀ fs, (hp ++ [O.inst 213 fs])[hp.length]? = some (.inst 213 fs) := fun fs => by simp
  have ss : ∀ fs k w, (hp ++ [O.inst 213 fs]).set hp.length (.inst 213 (putFs k w fs)) = hp ++ [.inst 213 (putFs k w fs)] := fun fs k w => set_last
  refine ⟨rfl, setF_go (i _) ?_⟩
  rw [ss]
  refine setF_goR (i _) hlt ?_
  rw [ss]
  refine setF_go (i _) ?_
  rw [ss]
  refine ⟨Nat.zero_le _, setF_go (i _) ?_⟩
  rw [ss]
  show fin false _ _ _ _
  refine fin_len (by simp) ⟨rfl, ?_⟩
  refine q _ (by simp) (fun k hk => ?_) ⟨(by omega), ⟨_, i _, rfl, rfl, rfl, rfl⟩, get_left st _, ok⟩
  rw [List.getElem?_append_left hk]
end Mine

set_option autoImplicit false
set_option linter.unusedVariables false
set_option linter.unusedSimpArgs false
set_option maxRecDepth 10000
namespace Mine
open PySem
theorem joinOk {q : Str} {parts : List Str} (h : (Txt.join q parts).length ≤ 2 ^ 20) (hq : q.length ≤ 2 ^ 20) : JoinOk q parts = true := by
  have f : ∀ (l : List Str) (n : Nat), l.foldl (· + ·.length + q.length) n = n + (l.map (·.length)).sum + l.length * q.length := by
    intro l
    induction l with
    | nil => intro n; simp
    | cons a l ih => intro n; simp only [List.foldl_cons, ih, List.map_cons, List.sum_cons, List.length_cons, Nat.add_mul]; omega
  have g : (Txt.join q parts).length = (parts.map (·.length)).sum + (parts.length - 1) * q.length := size_glued q parts
  unfold JoinOk Builtin.Str.tooLong
  rw [List.foldl_toArray, f, sizeLine_eq]
  have : parts.length * q.length ≤ (parts.length - 1) * q.length + q.length := by
    rcases Nat.eq_zero_or_pos parts.length with z | z
    · rw [z]; simp
    · obtain ⟨m, e⟩ : ∃ m, parts.length = m + 1 := ⟨parts.length - 1, by omega⟩
      rw [e, Nat.add_mul]; simp
  simp
  omega
noncomputable def replA (ps : List (List Nat × List Nat)) (x : List Nat) : List Nat := ps.foldl (fun x pq => repL pq.1 pq.2 0 x) x
noncomputable def okR : List (List Nat × List Nat) → List Nat → Prop
  | [], x => okl x
  | pq :: ps, x => okl x ∧ pq.1 ≠ [] ∧ (∀ c ∈ pq.1, c < 128) ∧ pq.2.length ≤ 2 ^ 20 ∧ okR ps (repL pq.1 pq.2 0 x)
theorem okR.ok : ∀ {ps : List (List Nat × List Nat)} {x : List Nat}, okR ps x → okl x
  | [], _, h => h
  | _ :: _, _, h => h.1
noncomputable def flatD : List (List Nat × List Nat) → List PyData
  | [] => []
  | pq :: ps => .str (mkS pq.1) :: .str (mkS pq.2) :: flatD ps
theorem flatD_len : ∀ ps : List (List Nat × List Nat), (flatD ps).length = 2 * ps.length
  | [] => rfl
  | _ :: ps => by simp [flatD, flatD_len ps]; omega
theorem datas_map : ∀ l : List PyData, datas (l.map .d) = some l
  | [] => rfl
  | x :: l => by simp [datas, datas_map l]
theorem item0 {a b : PyData} {l : List PyData} {K : V → List O → Prop} {hp : List O} (k : K (.d a) hp) : opItem (.d (.tuple (a :: b :: l))) (.d (.int 0)) K hp := by
  refine ⟨by decide, ?_⟩
  have : seqIndex? 0 (a :: b :: l).length = some 0 := by unfold seqIndex?; simp; omega
  dsimp only; rw [this]; exact k
theorem item1 {a b : PyData} {l : List PyData} {K : V → List O → Prop} {hp : List O} (k : K (.d b) hp) : opItem (.d (.tuple (a :: b :: l))) (.d (.int 1)) K hp := by
  refine ⟨by decide, ?_⟩
  have : seqIndex? 1 (a :: b :: l).length = some 1 := by unfold seqIndex?; simp; omega
  dsimp only; rw [this]; exact k
theorem c_replace {ps : List (List Nat × List Nat)} {x : List Nat} {Q : V → List O → Prop} {hp : List O} (hz : ps.length ≤ 1000) (h : okR ps x) (q : Q (.d (.str (mkS (replA ps x)))) hp) :
    F_replace (.d (.str (mkS x)) :: (flatD ps).map .d) Q hp := by
  simp only [F_replace, runFn, bStar, p_replace, datas_map]
  refine ⟨by rw [flatD_len, sizeLine_eq]; omega, ?_⟩
  simp only [List.map_cons, List.map_nil, List.replicate, List.append_nil, sCons, sRet, sNil]
  refine ⟨ps.length + 1, ?_⟩
  have go : ∀ (ps : List (List Nat × List Nat)) (x : List Nat) (QQ : QS), ps.length ≤ 1000 → okR ps x → (∀ v, QQ .next [some (.d (.str (mkS (replA ps x)))), v] hp) →
      whileN (bVal (xVar 1)) (sCons (sAssign 0 (xMethS mJoin (xBin opItem (xVar 1) (cI 1)) (lCons (xMethS mSplit (xVar 0) (lCons (xBin opItem (xVar 1) (cI 0)) lNil)) lNil)))
        (sCons (sAssign 1 (xSlice (xVar 1) (pSome (cI 2)) pNone)) sNil)) QQ (ps.length + 1) [some (.d (.str (mkS x))), some (.d (.tuple (flatD ps)))] hp := by
    intro ps
    induction ps with
    | nil => intro x QQ hz h q; exact ⟨Nat.zero_le _, q _⟩
    | cons pq ps ih =>
      intro x QQ hz h q
      obtain ⟨h1, h2, h3, h4, h5⟩ := h
      have hl : (flatD (pq :: ps)).length ≤ sizeLine := by rw [flatD_len, sizeLine_eq]; omega
      refine ⟨hl, ?_⟩
      simp only [flatD, List.isEmpty_cons, Bool.not_false, sCons, sAssign, xMethS, xBin, xVar, cI, cS, lCons, lNil, sNil, List.getElem?_cons_zero, List.getElem?_cons_succ, List.set_cons_zero, List.set_cons_succ]
      refine item1 ?_
      dsimp only
      refine item0 ?_
      have r1 := repl_eq (q := pq.2) h2 h1.2 h3
      refine ⟨by rw [mkS_len]; intro e; exact h2 (List.length_eq_zero_iff.mp e), by rw [mkS_len, sizeLine_eq]; have := h1.1; omega, ?_⟩
      refine ⟨_, Txt.split (mkS x) (mkS pq.1), rfl, ?_, joinOk ?_ ?_, ?_⟩
      · generalize Txt.split (mkS x) (mkS pq.1) = l
        induction l with
        | nil => rfl
        | cons a l ih => simp [strsOf, ih]
      · show (Txt.join ⟨pq.2.toArray⟩ (Txt.split ⟨x.toArray⟩ ⟨pq.1.toArray⟩)).length ≤ _
        rw [r1]; rw [mkS_len]; exact h5.ok.1
      · rw [mkS_len]; exact h4
      · show xSlice (xVar 1) (pSome (cI 2)) pNone [some (.d (.str (Txt.join ⟨pq.2.toArray⟩ (Txt.split ⟨x.toArray⟩ ⟨pq.1.toArray⟩)))), some (.d (.tuple (.str (mkS pq.1) :: .str (mkS pq.2) :: flatD ps)))] _ hp
        rw [r1]
        refine ⟨by simp, hl, ?_⟩
        exact ih (repL pq.1 pq.2 0 x) QQ (by simp at hz; omega) h5 (fun v => q v)
  exact go ps x _ hz h (fun v => fin_len rfl q)
end Mine

set_option autoImplicit false
set_option linter.unusedVariables false
set_option linter.unusedSimpArgs false
set_option maxRecDepth 100000
namespace Mine
open PySem
noncomputable def ab (w : List Nat) : Prop := ∀ c ∈ w, c ∈ L "abcd"
theorem abc_lt {c : Nat} (h : c ∈ L "abcd") : c < 128 := by
  have : ∀ c ∈ L "abcd", c < 128 := by decide +kernel
  exact this c h
theorem rules_ab : ∀ r ∈ rules3, (∀ c ∈ r.1, c ∈ L "abcd") ∧ (∀ c ∈ r.2, c ∈ L "abcd") ∧ r.2.length ≤ 10 := by decide +kernel
theorem okR_of : ∀ (rs : List (List Nat × List Nat)) (x : List Nat), (∀ r ∈ rs, Rule r.1 r.2 ∧ (∀ c ∈ r.1, c ∈ L "abcd") ∧ (∀ c ∈ r.2, c ∈ L "abcd") ∧ r.2.length ≤ 10) → x.length ≤ 1000 → ab x → okR rs x
  | [], x, _, h, ha => ⟨by omega, fun c hc => abc_lt (ha c hc)⟩
  | r :: rs, x, hr, h, ha => by
    obtain ⟨h1, h2, h3, h4⟩ := hr r List.mem_cons_self
    have le := (rep_less h1 x.length x (Nat.le_refl _)).1
    exact ⟨⟨by omega, fun c hc => abc_lt (ha c hc)⟩, h1.ne, fun c hc => abc_lt (h2 c hc), by omega,
      okR_of rs _ (fun s hs => hr s (List.mem_cons_of_mem _ hs)) (by omega) (rep_mem h3 x 0 ha)⟩
noncomputable def flatS : List (List Nat × List Nat) → List Str
  | [] => []
  | pq :: ps => mkS pq.1 :: mkS pq.2 :: flatS ps
theorem flatS_D : ∀ ps, flatD ps = (flatS ps).map .str
  | [] => rfl
  | pq :: ps => by simp [flatD, flatS, flatS_D ps]
theorem rules_S : (["aa", "", "bb", "", "cc", "", "dd", "", "ca", "ac", "da", "ad", "db", "bd", "bab", "aba", "cbc", "bcb", "dcd", "cdc", "cbac", "bcba", "dcbd", "cdcb", "dcbad", "cdcba"] : List Str) = flatS rules3 := by decide +kernel
theorem mkS_beq (a b : List Nat) : ((mkS a) == (mkS b)) = (a == b) := by
  by_cases h : a = b
  · subst h; simp
  · have : mkS a ≠ mkS b := by intro e; exact h (by simpa [mkS] using e)
    rw [beq_eq_false_iff_ne.mpr this, beq_eq_false_iff_ne.mpr h]
theorem c_rest {w : List Nat} {Q : V → List O → Prop} {hp : List O} (hw : w.length ≤ 1000) (ha : ab w)
    (q : ∀ r, stepR rules3 r = r → ab r → act r [0, 1, 2, 3, 4] = act w [0, 1, 2, 3, 4] → r.length ≤ w.length → Q (.d (.str (mkS r))) hp) : F__law_rest [.d (.str (mkS w))] Q hp := by
  simp only [F__law_rest, runFn, bPlain, p__law_rest, rules_S]
  refine ⟨rfl, ?_⟩
  simp only [List.map_cons, List.map_nil, List.replicate, List.cons_append, List.nil_append]
  have go : ∀ (n : Nat) (x : List Nat) (o : Option V) (QQ : QS), Mt x < n → x.length ≤ w.length → ab x → act x [0, 1, 2, 3, 4] = act w [0, 1, 2, 3, 4] → (∀ r, stepR rules3 r = r → ab r → act r [0, 1, 2, 3, 4] = act w [0, 1, 2, 3, 4] → r.length ≤ w.length → ∀ vs, QQ (.ret (.d (.str (mkS r)))) vs hp) →
      whileN (bVal (cB true)) (sCons (sAssign 1 (xCall F_replace (lCons (xVar 0) (lStrs (flatS rules3))))) (sCons (sIf (bCmp opEq (xVar 1) (xVar 0)) (sCons (sRet (xVar 0)) sNil) sNil) (sCons (sAssign 0 (xVar 1)) sNil))) QQ n [some (.d (.str (mkS x))), o] hp := by
    intro n
    induction n with
    | zero => intro x o QQ h; exact absurd h (Nat.not_lt_zero _)
    | succ n ih =>
      intro x o QQ hm hl hx hax hQ
      simp only [whileN, bVal, cB, truthV, sCons, sAssign, sIf, sRet, bCmp, xVar, xCall, lCons, lStrs, sNil, List.getElem?_cons_zero, List.getElem?_cons_succ, List.set_cons_zero, List.set_cons_succ]
      have e : (flatS rules3).map (fun x => V.d (.str x)) = (flatD rules3).map .d := by rw [flatS_D, List.map_map]; rfl
      rw [e]
      refine c_replace (by decide) (okR_of rules3 x (fun r hr => ⟨rules_ok r hr, rules_ab r hr⟩) (by omega) hx) ?_
      show opEq (.d (.str (mkS (stepR rules3 x)))) (.d (.str (mkS x))) _ hp
      simp only [opEq, truthV, mkS_beq]
      have sl := step_less rules3 x rules_ok
      have sa : act (stepR rules3 x) [0, 1, 2, 3, 4] = act x [0, 1, 2, 3, 4] := step_act rfl x
      cases hb : (stepR rules3 x == x) with
      | true =>
        have e := beq_iff_eq.mp hb
        exact hQ x e hx hax hl _
      | false =>
        have lt : Mt (stepR rules3 x) < Mt x := by
          rcases sl.2 with h | h
          · rw [h.1] at hb; simp at hb
          · exact h
        exact ih (stepR rules3 x) _ QQ (by omega) (Nat.le_trans sl.1 hl) (step_mem rules3 x (fun r hr => (rules_ab r hr).2.1) hx) (sa.trans hax) hQ
  exact ⟨Mt w + 1, go _ w _ _ (Nat.lt_succ_self _) (Nat.le_refl _) ha rfl (fun r h1 h2 h3 h4 vs => fin_len rfl (q r h1 h2 h3 h4))⟩
end Mine

set_option autoImplicit false
set_option linter.unusedVariables false
set_option linter.unusedSimpArgs false
set_option maxRecDepth 100000
namespace Mine
open PySem
/-- a list of data turned step by step -/
theorem item_at {l : List PyData} {k : Nat} {x : PyData} (h : l[k]? = some x) (hk : k < 2 ^ 62) {K : V → List O → Prop} {hp : List O} {v : V} (hv : lget v hp = some l) (hd : ∀ t, v ≠ .d (.tuple t)) (q : K (.d x) hp) : opItem v (.d (.int k)) K hp := by
  have hlt := (List.getElem?_eq_some_iff.mp h).1
  have hs : seqIndex? (k : Int) l.length = some k := by
    unfold seqIndex?
    have : ¬ ((k : Int) < 0) := by omega
    simp [this, hlt]
  refine ⟨by omega, ?_⟩
  have e : (seqIndex? (k : Int) l.length).bind (l[·]?) = some x := by rw [hs]; exact h
  cases v with
  | d y =>
    cases y with
    | tuple t => exact absurd rfl (hd t)
    | str s => cases hv
    | list l' => cases hv; exact ⟨l, rfl, by rw [e]; exact q⟩
    | _ => cases hv
  | r i => exact ⟨l, hv, by rw [e]; exact q⟩
  | _ => cases hv
theorem put_at {i k : Nat} {l : List PyData} {x : PyData} {Q : List O → Prop} {hp : List O} (e : hp[i]? = some (.lst l)) (hk : k < l.length) (h62 : k < 2 ^ 62) (q : Q (hp.set i (.lst (l.set k x)))) : putItem (.r i) (.d (.int k)) x Q hp := by
  refine ⟨by omega, atL_go e ⟨k, ?_, q⟩⟩
  unfold seqIndex?
  have : ¬ ((k : Int) < 0) := by omega
  simp [this, hk]
noncomputable def iD (l : List Nat) : List PyData := l.map fun n : Nat => .int (n : Int)
noncomputable def iI (l : List Int) : List PyData := l.map .int
theorem rangeL_0 (n : Nat) : rangeL 0 n 1 = iD (List.range n) := by
  unfold rangeL iD
  have : (Builtin.Range.rangeSize 0 n 1).toNat = n := by unfold Builtin.Range.rangeSize; simp; omega
  rw [this]
  apply List.map_congr_left
  intro k _; simp
theorem rangeL_m5 (n : Nat) : rangeL (-5) n 1 = iI ((List.range (n + 5)).map fun k : Nat => (k : Int) - 5) := by
  unfold rangeL iI
  have : (Builtin.Range.rangeSize (-5) n 1).toNat = n + 5 := by unfold Builtin.Range.rangeSize; simp; omega
  rw [this, List.map_map]
  apply List.map_congr_left
  intro k _
  show PyData.int (-5 + 1 * (k : Int)) = PyData.int ((k : Int) - 5)
  congr 1; omega
theorem size_a {a : Int} {n : Nat} (h : a ≤ n) : Builtin.Range.rangeSize a n 1 = n - a := by
  unfold Builtin.Range.rangeSize; simp; omega
theorem small_a {a : Int} {n : Nat} (ha : a ≤ n) (h0 : -1000 ≤ a) (h : n ≤ 1000) : Builtin.Range.small a n 1 = true := by
  unfold Builtin.Range.small
  rw [size_a ha]
  have f : ∀ x : Int, -5000 ≤ x → x ≤ 5000 → Builtin.Range.rangeFitsLong x = true := by
    intro x h1 h2
    unfold Builtin.Range.rangeFitsLong
    simp; omega
  rw [f a (by omega) (by omega), f n (by omega) (by omega), f 1 (by omega) (by omega), f (n - a) (by omega) (by omega)]
  simp
  right
  exact f _ (by omega) (by omega)
theorem for_go2 {α : Type} {g : G} {tgt : XT} {body : XS} {Q : QS} (R : Nat → α → List (Option V) → List O → Prop) (step : α → PyData → α) (hg : ∀ i a vs hp, R i a vs hp → gOk g hp) :
    ∀ (xs : List PyData) (i N : Nat) (a : α) (vs : List (Option V)) (hp : List O), i + xs.length = N → R i a vs hp →
    (∀ i a vs hp x, i < N → x ∈ xs → R i a vs hp → ∀ K : QS, (∀ vs' hp', R (i + 1) (step a x) vs' hp' → K .next vs' hp' ∧ K .cont vs' hp') → tgt (.d x) vs (fun vs' hp' => body vs' K hp') hp) →
    (∀ vs hp, R N (xs.foldl step a) vs hp → Q .next vs hp) → forL g tgt body Q xs vs hp
  | [], i, N, a, vs, hp, hN, r, hb, hq => ⟨hg _ _ _ _ r, hq _ _ (by have : i = N := by simpa using hN
                                                                    rw [← this]; exact r)⟩
  | x :: xs, i, N, a, vs, hp, hN, r, hb, hq => ⟨hg _ _ _ _ r, hb i a vs hp x (by simp at hN; omega) List.mem_cons_self r _ fun vs' hp' r' =>
      have := for_go2 R step hg xs (i + 1) N (step a x) vs' hp' (by simp at hN; omega) r' (fun i a vs hp y hi hy => hb i a vs hp y hi (List.mem_cons_of_mem _ hy)) hq
      ⟨this, this⟩⟩
theorem iadd_go {i : Nat} {l1 l2 : List PyData} {Q : V → List O → Prop} {hp : List O} (e : hp[i]? = some (.lst l1)) (hz : l1.length + l2.length ≤ sizeLine) (q : Q (.r i) (hp.set i (.lst (l1 ++ l2)))) : opIAdd (.r i) (.d (.list l2)) Q hp := by
  show atL (.r i) hp fun i l1 => ∃ l, lget (.d (.list l2)) hp = some l ∧ l1.length + l.length ≤ sizeLine ∧ Q (.r i) (hp.set i (.lst (l1 ++ l)))
  exact atL_go e ⟨l2, rfl, hz, q⟩
theorem ob_last {hp : List O} {l l' : List PyData} : (hp ++ [O.lst l]).set hp.length (O.lst l') = hp ++ [O.lst l'] := set_last
theorem get_last {hp : List O} {o : O} : (hp ++ [o])[hp.length]? = some o := by simp
theorem c_order {ts : List Nat} {Q : V → List O → Prop} {hp : List O} (h5 : ∀ t ∈ ts, t < 5) (hn : ts.length ≤ 900) (q : Q (.d (.list (iD (orderP ts)))) hp) : F__law_order [.d (.list (iD ts))] Q hp := by
  simp only [F__law_order, runFn, bPlain, p__law_order]
  refine ⟨rfl, ?_⟩
  simp only [List.map_cons, List.map_nil, List.replicate, List.cons_append, List.nil_append]
  simp only [sCons, sAssign]
  have r5 : iterV (.rng 0 5 1) hp fun _ ys => ys = iD (List.range 5) := ⟨small_a (n := 5) (by decide) (by decide) (by decide), rangeL_0 5⟩
  refine comp1 (m := true) (v := .rng 0 5 1) (xs := iD (List.range 5)) (fun _ => true) (fun d => match d with | .int i => .int (i - 5) | _ => .none) (fun K k => k) r5 ?_ ?_ (by decide) ?_
  · intro x hx l K k; exact k
  · intro x hx _ l K k
    obtain ⟨i, _, rfl⟩ := List.mem_map.mp hx
    exact k
  · have e0 : ((iD (List.range 5)).filter fun _ => true).map (fun d => match d with | .int i => PyData.int (i - 5) | _ => .none) = iI last0 := rfl
    show sFor _ _ _ _ _ (hp ++ [O.lst (((iD (List.range 5)).filter fun _ => true).map (fun d => match d with | .int i => PyData.int (i - 5) | _ => .none))])
    rw [e0]
    simp only [sFor, xCall, xVar, fLen, fRange, lCons, lNil, xNeg, cI, sNil, sRet, xList, datas, mkL, lget, List.getElem?_cons_zero, List.getElem?_cons_succ, List.set_cons_zero, List.set_cons_succ]
    have hlen : (iD ts).length = ts.length := by simp [iD]
    rw [hlen]
    refine ⟨by omega, ?_⟩
    refine ⟨small_a (by omega) (by decide) (by omega), ?_⟩
    rw [rangeL_0]
    have fold : (iD (List.range ts.length)).foldl (fun (a : List Int) x => match x with | .int k => a.set (ts.getD k.toNat 0) k | _ => a) last0 = lastP ts := by
      unfold iD lastP
      rw [List.foldl_map]
      rfl
    refine for_go (g := none) (α := List Int) (fun a vs h => a.length = 5 ∧ h = hp ++ [O.lst (iI a)] ∧ ∃ o, vs = [some (.d (.list (iD ts))), some (.r hp.length), o, none])
      (fun a x => match x with | .int k => a.set (ts.getD k.toNat 0) k | _ => a) (fun _ _ _ _ => trivial) _ last0 _ _ ⟨rfl, rfl, _, rfl⟩ ?_ ?_
    · rintro a vs h x hx ⟨ha, rfl, o, rfl⟩ K hK
      obtain ⟨k, hk, rfl⟩ := List.mem_map.mp hx
      have hkl : k < ts.length := List.mem_range.mp hk
      have hg : (iD ts)[k]? = some (.int (ts.getD k 0 : Nat)) := by
        unfold iD; rw [List.getElem?_map, List.getD_eq_getElem?_getD, List.getElem?_eq_getElem hkl]; rfl
      have h5k : ts.getD k 0 < 5 := by
        rw [List.getD_eq_getElem?_getD, List.getElem?_eq_getElem hkl]; exact h5 _ (List.getElem_mem hkl)
      simp only [tName, sCons, sNil, sPut, xVar, xBin, isD, List.getElem?_cons_zero, List.getElem?_cons_succ, List.set_cons_zero, List.set_cons_succ]
      refine item_at (v := .d (.list (iD ts))) hg (by omega) rfl (fun _ e => by cases e) ?_
      refine put_at get_last (by simp [iI, ha]; exact h5k) (by omega) ?_
      rw [ob_last]
      refine (hK _ _ ⟨by simp [ha], ?_, _, rfl⟩).1
      simp [iI, List.map_set]
    · rintro vs h ⟨ha, rfl, o, rfl⟩
      rw [fold] at ha ⊢
      refine ⟨Nat.zero_le _, ?_⟩
      simp only [List.set_cons_zero, List.set_cons_succ, List.getElem?_cons_zero, List.getElem?_cons_succ, List.length_append, List.length_cons, List.length_nil, hlen]
      refine ⟨by omega, ?_⟩
      refine ⟨small_a (by omega) (by decide) (by omega), ?_⟩
      rw [rangeL_m5]
      have fold2 : ∀ (l : List Int) (acc : List Nat), (iI l).foldl (fun (a : List Nat) x => match x with | .int k => a ++ (List.range 5).filter (fun i => (lastP ts).getD i (-9) == k) | _ => a) acc
          = acc ++ l.flatMap fun k => (List.range 5).filter fun i => (lastP ts).getD i (-9) == k := by
        intro l
        induction l with
        | nil => intro acc; simp [iI]
        | cons k l ih => intro acc; simp only [iI, List.map_cons, List.foldl_cons, List.flatMap_cons]; rw [← List.append_assoc]; exact ih _
      refine for_go2 (g := none) (α := List Nat) (fun j a vs h => (a.length ≤ 5 * j) ∧ h = hp ++ [O.lst (iI (lastP ts)), O.lst (iD a)] ∧ ∃ o, vs = [some (.d (.list (iD ts))), some (.r hp.length), o, some (.r (hp.length + 1))])
        (fun a x => match x with | .int k => a ++ (List.range 5).filter (fun i => (lastP ts).getD i (-9) == k) | _ => a) (fun _ _ _ _ _ => trivial) _ 0 (ts.length + 5) [] _ _ (by simp [iI]) ⟨by simp, by simp [iD], o, by simp⟩ ?_ ?_
      · rintro j a vs h x hj hx ⟨hal, rfl, o, rfl⟩ K hK
        obtain ⟨k, hk, rfl⟩ := List.mem_map.mp hx
        have gl : (hp ++ [O.lst (iI (lastP ts)), O.lst (iD a)])[hp.length]? = some (.lst (iI (lastP ts))) := by simp
        have go : (hp ++ [O.lst (iI (lastP ts)), O.lst (iD a)])[hp.length + 1]? = some (.lst (iD a)) := by
          rw [List.getElem?_append_right (by omega)]; simp
        simp only [tName, sCons, sNil, sAug, xVar, List.getElem?_cons_zero, List.getElem?_cons_succ, List.set_cons_zero, List.set_cons_succ]
        refine comp1 (m := false) (v := .rng 0 5 1) (xs := iD (List.range 5)) (fun d => match d with | .int i => (lastP ts).getD i.toNat (-9) == k | _ => false) id (fun K k => k) r5 ?_ ?_ (by decide) ?_
        · intro x hx l K' k'
          obtain ⟨i, hi, rfl⟩ := List.mem_map.mp hx
          have hi5 : i < (lastP ts).length := by rw [ha]; exact List.mem_range.mp hi
          have hgi : (iI (lastP ts))[i]? = some (.int ((lastP ts).getD i (-9))) := by
            unfold iI; rw [List.getElem?_map, List.getD_eq_getElem?_getD, List.getElem?_eq_getElem hi5]; rfl
          simp only [bCmp, xBin, xVar, List.getElem?_cons_zero, List.getElem?_cons_succ]
          refine item_at (v := .r hp.length) hgi (by omega) (lget_go (get_left gl l)) (fun _ e => by cases e) ?_
          exact k'
        · intro x hx _ l K' k'; exact k'
        · have e : (((iD (List.range 5)).filter fun d => match d with | .int i => (lastP ts).getD i.toNat (-9) == k | _ => false).map id) = iD ((List.range 5).filter fun i => (lastP ts).getD i (-9) == k) := by
            unfold iD; rw [List.map_id, List.filter_map]; rfl
          rw [e]
          have hf : ((List.range 5).filter fun i => (lastP ts).getD i (-9) == k).length ≤ 5 := Nat.le_trans (List.length_filter_le _ _) (by simp)
          dsimp only
          refine iadd_go go ?_ ?_
          · simp only [iD, List.length_map]; rw [sizeLine_eq]; omega
          · have e2 : (hp ++ [O.lst (iI (lastP ts)), O.lst (iD a)]).set (hp.length + 1) (.lst (iD a ++ iD ((List.range 5).filter fun i => (lastP ts).getD i (-9) == k))) = hp ++ [O.lst (iI (lastP ts)), O.lst (iD (a ++ (List.range 5).filter fun i => (lastP ts).getD i (-9) == k))] := by
              rw [List.set_append_right _ _ (by omega)]; simp [iD]
            rw [e2]
            refine (hK _ _ ⟨?_, rfl, _, rfl⟩).1
            simp only [List.length_append]; omega
      · rintro vs h ⟨_, rfl, o, rfl⟩
        rw [fold2, List.nil_append]
        show fin false hp.length Q (.r (hp.length + 1)) _
        unfold fin
        simp only
        rw [if_neg (by omega), List.getElem?_append_right (by omega)]
        simp only [Nat.add_sub_cancel_left, List.getElem?_cons_succ, List.getElem?_cons_zero]
        rw [List.take_left]
        exact q
end Mine

set_option autoImplicit false
set_option linter.unusedVariables false
set_option linter.unusedSimpArgs false
set_option maxRecDepth 100000
namespace Mine
open PySem
theorem psl_drop {α : Type} (l : List α) (k : Nat) : psl l (some (k : Int)) none = l.drop k := by
  have : clipAt l.length (k : Int) = min k l.length := by unfold clipAt; omega
  unfold psl
  simp only [Option.elim, this]
  rcases Nat.le_total k l.length with h | h
  · rw [Nat.min_eq_left h]; exact List.take_of_length_le (by simp)
  · rw [Nat.min_eq_right h, List.drop_eq_nil_of_le (Nat.le_refl _), List.drop_eq_nil_of_le h]; simp
theorem psl_take {α : Type} (l : List α) (k : Nat) : psl l none (some (k : Int)) = l.take k := by
  have : clipAt l.length (k : Int) = min k l.length := by unfold clipAt; omega
  unfold psl
  simp only [Option.elim, this, List.drop_zero, Nat.sub_zero]
  rcases Nat.le_total k l.length with h | h
  · rw [Nat.min_eq_left h]
  · rw [Nat.min_eq_right h, List.take_of_length_le (Nat.le_refl _), List.take_of_length_le h]
theorem okD_ints (l : List Nat) : okD (.list (iD l)) = true := by
  have k : PyData.canLayAll0 (iD l) = true ∧ PyData.depthAll (iD l) = 0 := by
    induction l with
    | nil => exact ⟨rfl, rfl⟩
    | cons x xs ih =>
      refine ⟨?_, ?_⟩
      · show (true && PyData.canLayAll0 (iD xs)) = true; rw [ih.1]; rfl
      · show max 0 (PyData.depthAll (iD xs)) = 0; rw [ih.2]; rfl
  unfold okD
  simp only [PyData.canLay0, PyData.depth, k.1, k.2]
  decide
theorem find_ints (o : List Nat) (t : Nat) : (iD o).findIdx? (fun z => z.eqv (.int t)) = o.findIdx? (· == t) := by
  unfold iD
  rw [List.findIdx?_map]
  congr 1
  funext z
  show ((z : Int) == (t : Int)) = (z == t)
  by_cases h : z = t
  · subst h; simp
  · have : (z : Int) ≠ t := by omega
    rw [beq_eq_false_iff_ne.mpr h, beq_eq_false_iff_ne.mpr this]
theorem find_some {o : List Nat} {t : Nat} (h : t ∈ o) : o.findIdx? (· == t) = some (o.findIdx (· == t)) := by
  have : o.any (· == t) = true := List.any_eq_true.mpr ⟨t, h, by simp⟩
  rw [List.findIdx?_eq_some_iff_findIdx_eq]
  exact ⟨by rw [List.findIdx_lt_length]; exact ⟨t, h, by simp⟩, rfl⟩
theorem runs : ∀ i, i < 4 → ([("a" : Str), "ba", "cba", "dcba"])[i]? = some (mkS (runOf (i + 1))) := by decide +kernel
theorem runOf_len (i : Nat) : (runOf i).length ≤ 4 := by unfold runOf; rw [List.length_drop]; have : (L "dcba").length = 4 := by decide
                                                         omega
noncomputable def dueStep (o : List Nat) (i : Nat) : List Nat := (runOf i).take ((o.drop (o.findIdx (· == i))).filter (· < i)).length
theorem c_due {o : List Nat} {Q : V → List O → Prop} {hp : List O} (F : Five o) (q : Q (.d (.str (mkS (due o)))) hp) : F__law_due [.d (.list (iD o))] Q hp := by
  simp only [F__law_due, runFn, bPlain, p__law_due]
  refine ⟨rfl, ?_⟩
  simp only [List.map_cons, List.map_nil, List.replicate, List.cons_append, List.nil_append]
  simp only [sCons, sAssign, cS, sFor, xCall, fRange, lCons, lNil, cI, sNil, sRet, List.set_cons_zero, List.set_cons_succ]
  refine ⟨by decide, ?_⟩
  have hr : rangeL 1 5 1 = iD [1, 2, 3, 4] := by rfl
  rw [hr]
  have foldE : (iD [1, 2, 3, 4]).foldl (fun (a : List Nat) x => match x with | .int i => a ++ dueStep o i.toNat | _ => a) [] = due o := by
    show ((([] ++ dueStep o 1) ++ dueStep o 2) ++ dueStep o 3) ++ dueStep o 4 = _
    simp [due, dueStep]
  refine for_go2 (g := none) (α := List Nat) (fun j a vs h => h = hp ∧ a.length ≤ 4 * j ∧ ∃ o1 o2 o3, vs = [some (.d (.list (iD o))), some (.d (.str (mkS a))), o1, o2, o3])
    (fun a x => match x with | .int i => a ++ dueStep o i.toNat | _ => a) (fun _ _ _ _ _ => trivial) _ 0 4 [] _ _ rfl ⟨rfl, by simp, none, none, none, rfl⟩ ?_ ?_
  · rintro j a vs h x hj hx ⟨rfl, ha, o1, o2, o3, rfl⟩ K hK
    obtain ⟨i, hi, rfl⟩ := List.mem_map.mp hx
    obtain ⟨m, hm, rfl⟩ : ∃ m, m < 4 ∧ i = m + 1 := by
      simp at hi
      rcases hi with rfl | rfl | rfl | rfl
      · exact ⟨0, by decide, rfl⟩
      · exact ⟨1, by decide, rfl⟩
      · exact ⟨2, by decide, rfl⟩
      · exact ⟨3, by decide, rfl⟩
    simp only [tName, sCons, sNil, sAug, sAssign, xVar, xBin, xList, lStrs, opSub, cI, List.getElem?_cons_zero, List.getElem?_cons_succ, List.set_cons_zero, List.set_cons_succ]
    have e1 : ([("a" : Str), "ba", "cba", "dcba"].map fun x => V.d (.str x)) = ([("a" : Str), "ba", "cba", "dcba"].map PyData.str).map .d := by rw [List.map_map]; rfl
    rw [e1, datas_map]
    refine ⟨by decide, ?_⟩
    simp only [mkL, xVar, opSub, List.getElem?_cons_zero, List.getElem?_cons_succ]
    rw [show ((m + 1 : Nat) : Int) - 1 = (m : Int) from by omega]
    refine item_at (v := .d (.list ([("a" : Str), "ba", "cba", "dcba"].map PyData.str))) (k := m) (x := .str (mkS (runOf (m + 1)))) (by rw [List.getElem?_map, runs m hm]; rfl) (by omega) rfl (fun _ e => by cases e) ?_
    have hmem : (m + 1) ∈ o := F.all _ (by omega)
    have lo : (iD o).length = 5 := by unfold iD; rw [List.length_map, F.len]
    refine comp1 (m := false) (v := .d (.list (iD (o.drop (o.findIdx (· == (m + 1))))))) (xs := iD (o.drop (o.findIdx (· == (m + 1))))) (fun d => match d with | .int z => decide (z < ((m + 1 : Nat) : Int)) | _ => false) id ?_ rfl ?_ ?_ ?_ ?_
    · intro K' k'
      simp only [xSlice, pSome, pNone, xMethL, lCons, lNil, xVar, List.getElem?_cons_zero, List.getElem?_cons_succ]
      refine ⟨rfl, rfl, ?_⟩
      refine ⟨.int ((m + 1 : Nat) : Int), iD o, rfl, rfl, rfl, okD_ints o, by rw [lo, sizeLine_eq]; decide, _, by rw [find_ints, find_some hmem], ?_⟩
      refine ⟨iD o, rfl, by rw [lo, sizeLine_eq]; decide, ?_⟩
      rw [psl_drop]
      have : (iD o).drop (o.findIdx (· == (m + 1))) = iD (o.drop (o.findIdx (· == (m + 1)))) := by unfold iD; rw [List.map_drop]
      rw [this]
      exact k'
    · intro x hx l K' k'
      obtain ⟨z, _, rfl⟩ := List.mem_map.mp hx
      exact k'
    · intro x hx _ l K' k'; exact k'
    · have : (iD (o.drop (o.findIdx (· == (m + 1))))).length ≤ 5 := by unfold iD; rw [List.length_map, List.length_drop, F.len]; omega
      rw [sizeLine_eq]; omega
    · have e : (((iD (o.drop (o.findIdx (· == (m + 1))))).filter fun d => match d with | .int z => decide (z < ((m + 1 : Nat) : Int)) | _ => false).map id) = iD ((o.drop (o.findIdx (· == (m + 1)))).filter (· < m + 1)) := by
        unfold iD; rw [List.map_id, List.filter_map]
        congr 1
        apply List.filter_congr
        intro z _
        show decide ((z : Int) < ((m + 1 : Nat) : Int)) = decide (z < m + 1)
        simp only [decide_eq_decide]; omega
      rw [e]
      simp only [xSlice, pSome, pNone, xCall, lCons, lNil, xVar, List.getElem?_cons_zero, List.getElem?_cons_succ, List.set_cons_zero, List.set_cons_succ]
      have lb : (iD ((o.drop (o.findIdx (· == (m + 1)))).filter (· < m + 1))).length = ((o.drop (o.findIdx (· == (m + 1)))).filter (· < m + 1)).length := by unfold iD; rw [List.length_map]
      have lb5 : ((o.drop (o.findIdx (· == (m + 1)))).filter (· < m + 1)).length ≤ 5 := by
        refine Nat.le_trans (List.length_filter_le _ _) ?_
        rw [List.length_drop, F.len]; omega
      refine ⟨by rw [lb]; omega, ?_⟩
      refine ⟨by rw [mkS_len, sizeLine_eq]; have := runOf_len (m + 1); omega, ?_⟩
      rw [lb]
      show opIAdd (.d (.str (mkS a))) (.d (.str (mkS (psl (runOf (m + 1)) none (some (((o.drop (o.findIdx (· == (m + 1)))).filter (· < m + 1)).length : Int)))))) _ h
      rw [psl_take]
      refine ⟨?_, ?_⟩
      · rw [mkS_len, mkS_len, List.length_take, sizeLine_eq]
        have := runOf_len (m + 1)
        omega
      · have es : mkS a ++ mkS ((runOf (m + 1)).take ((o.drop (o.findIdx (· == (m + 1)))).filter (· < m + 1)).length) = mkS (a ++ dueStep o (m + 1)) := by
          show (⟨_ ++ _⟩ : Str) = _
          simp [dueStep]
        rw [es]
        refine (hK _ _ ⟨rfl, ?_, _, _, _, rfl⟩).1
        show (a ++ dueStep o (m + 1)).length ≤ _
        rw [List.length_append]
        have : (dueStep o (m + 1)).length ≤ 4 := by unfold dueStep; rw [List.length_take]; have := runOf_len (m + 1); omega
        omega
  · rintro vs h ⟨rfl, _, o1, o2, o3, rfl⟩
    rw [foldE]
    exact fin_len rfl q
end Mine

set_option autoImplicit false
set_option linter.unusedVariables false
set_option linter.unusedSimpArgs false
set_option maxRecDepth 100000
namespace Mine
open PySem
theorem join_nil (ls : List (List Nat)) : Txt.join (mkS []) (ls.map mkS) = mkS ls.flatten := by
  unfold Txt.join
  rw [StrLaws.glued_eq_join]
  induction ls with
  | nil => rfl
  | cons a ls ih =>
    cases ls with
    | nil => simp [Str.join]
    | cons b ls =>
      show mkS a ++ mkS [] ++ Str.join (mkS []) ((b :: ls).map mkS) = _
      rw [ih]
      show (⟨_ ++ _ ++ _⟩ : Str) = _
      simp
theorem strsOf_map : ∀ l : List Str, strsOf (l.map .str) = some l
  | [] => rfl
  | a :: l => by simp [strsOf, strsOf_map l]
theorem join_go {v : V} {ls : List (List Nat)} {Q : V → List O → Prop} {hp : List O} (hv : lget v hp = some (ls.map fun l => .str (mkS l))) (hz : ls.flatten.length ≤ 2 ^ 20) (q : Q (.d (.str (mkS ls.flatten))) hp) : mJoin (mkS []) [v] Q hp := by
  have e : (ls.map fun l => PyData.str (mkS l)) = (ls.map mkS).map .str := by rw [List.map_map]; rfl
  refine ⟨_, ls.map mkS, hv, by rw [e, strsOf_map], joinOk ?_ (by rw [mkS_len]; simp), ?_⟩
  · rw [join_nil, mkS_len]; exact hz
  · rw [join_nil]; exact q
theorem q_all : ∀ c : Fin 128, Txt.contains "\"\\" (ch c.val) = (c.val == 34 || c.val == 92) := by decide +kernel
theorem q_of {c : Nat} (h : c < 128) : Txt.contains "\"\\" (ch c) = (c == 34 || c == 92) := q_all ⟨c, h⟩
noncomputable def quoteF (c : Nat) : List Nat := if (c == 34 || c == 92) = true then [92, c] else [c]
noncomputable def sepF (x : Int) : List Nat := ([[32], [10], [13, 10]] : List (List Nat)).getD ((x.fdiv 20).fmod 3).toNat []
noncomputable def writtenF (nm : List Nat) (x : Int) : List Nat :=
  (if (x.fdiv 10).fmod 2 == 0 then 34 :: (nm.map quoteF).flatten ++ [34] else (nm.map fun c => [92, c]).flatten) ++ sepF x
theorem flat_len {f : Nat → List Nat} (h : ∀ c, (f c).length ≤ 2) : ∀ l : List Nat, ((l.map f).flatten).length ≤ 2 * l.length
  | [] => Nat.le_refl _
  | a :: l => by simp only [List.map_cons, List.flatten_cons, List.length_append, List.length_cons]; have := flat_len h l; have := h a; omega
theorem signs_mkS (nm : List Nat) : signsOf (mkS nm) = nm.map fun c => .str (ch c) := by unfold signsOf; simp
theorem seps (x : Int) {K : V → List O → Prop} {hp : List O} (k : K (.d (.str (mkS (sepF x)))) hp) : opItem (.d (.list ([(" " : Str), "\n", "\r\n"].map .str))) (.d (.int ((x.fdiv 20).fmod 3))) K hp := by
  have h3 := fmod3 (x.fdiv 20)
  refine ⟨by omega, _, rfl, ?_⟩
  unfold sepF at k
  rcases h3 with h | h | h <;> (rw [h] at k ⊢; exact k)
theorem c_written {nm : List Nat} {x : Int} {Q : V → List O → Prop} {hp : List O} (h : ∀ c ∈ nm, c < 128) (hz : nm.length ≤ 1000) (q : Q (.d (.str (mkS (writtenF nm x)))) hp) : F__law_written [.d (.str (mkS nm)), .d (.int x)] Q hp := by
  have fq : ∀ c, (quoteF c).length ≤ 2 := by intro c; unfold quoteF; split <;> simp
  have fb : ∀ c : Nat, [92, c].length ≤ 2 := by intro c; simp
  have sl : (sepF x).length ≤ 2 := by
    unfold sepF
    rcases fmod3 (x.fdiv 20) with h | h | h <;> (rw [h]; decide)
  have e3 : ([(" " : Str), "\n", "\r\n"].map fun x => V.d (.str x)) = ([(" " : Str), "\n", "\r\n"].map PyData.str).map .d := by rw [List.map_map]; rfl
  simp only [F__law_written, runFn, bPlain, p__law_written]
  refine ⟨rfl, ?_⟩
  simp only [List.map_cons, List.map_nil, List.replicate, List.cons_append, List.nil_append]
  simp only [sCons, sIf, bCmp, xBin, xVar, cI, opDiv, opMod, opEq, truthV, sAssign, sRet, sNil, List.getElem?_cons_zero, List.getElem?_cons_succ, List.set_cons_zero, List.set_cons_succ]
  refine ⟨by decide, by decide, by decide, ?_⟩
  have tail : ∀ (w : List Nat), w.length ≤ 4000 → Q (.d (.str (mkS (w ++ sepF x)))) hp → xList false (lStrs [" ", "\n", "\r\n"]) [some (.d (.str (mkS nm))), some (.d (.int x)), some (.d (.str (mkS w)))]
      (fun va hp₁ => 20 ≠ (0 : Int) ∧ (20 : Int).natAbs < 2 ^ 64 ∧ (3 : Int) ≠ 0 ∧ opItem va (.d (.int ((x.fdiv 20).fmod 3))) (fun vb => opAdd (.d (.str (mkS w))) vb fun v hp' => fin false hp.length Q v hp') hp₁) hp := by
    intro w hw qw
    simp only [xList, lStrs, e3, datas_map]
    refine ⟨by decide, by decide, by decide, by decide, ?_⟩
    refine seps x ?_
    refine ⟨by rw [mkS_len, mkS_len, sizeLine_eq]; omega, ?_⟩
    have : mkS w ++ mkS (sepF x) = mkS (w ++ sepF x) := by show (⟨_ ++ _⟩ : Str) = _; simp
    rw [this]
    exact fin_len rfl qw
  unfold writtenF at q
  rcases fmod2 (x.fdiv 10) with hb | hb
  · rw [hb] at q ⊢
    simp only [cS, xMethS, lCons, lNil]
    refine comp1 (m := false) (v := .d (.str (mkS nm))) (xs := signsOf (mkS nm)) (fun _ => true) (fun d => match d with | .str ⟨a⟩ => .str (mkS (quoteF (a.getD 0 0))) | _ => .none) (fun K k => k) rfl ?_ ?_ ?_ ?_
    · intro y hy l K k; exact k
    · intro y hy _ l K k
      rw [signs_mkS] at hy
      obtain ⟨c, hc, rfl⟩ := List.mem_map.mp hy
      simp only [xIte, bCmp, xBin, xVar, cS, opIn, truthV, q_of (h c hc), List.getElem?_cons_zero]
      have k' : K (.d (.str (mkS (quoteF c)))) (hp ++ l) := k
      unfold quoteF at k'
      cases hh : (c == 34 || c == 92) with
      | true => rw [hh] at k'; exact ⟨by show 1 + 1 ≤ _; rw [sizeLine_eq]; decide, k'⟩
      | false => rw [hh] at k'; exact k'
    · rw [signs_mkS, List.length_map, sizeLine_eq]; omega
    · have e : (((signsOf (mkS nm)).filter fun _ => true).map fun d => match d with | .str ⟨a⟩ => PyData.str (mkS (quoteF (a.getD 0 0))) | _ => .none) = (nm.map quoteF).map fun l => .str (mkS l) := by
        rw [List.filter_eq_self.mpr (fun _ _ => rfl), signs_mkS, List.map_map, List.map_map]; rfl
      dsimp only
      rw [e]
      have fl := flat_len fq nm
      refine join_go rfl (by omega) ?_
      have q1 : ("\"" : Str).length = 1 := by decide
      have q2 := mkS_len (nm.map quoteF).flatten
      refine ⟨by rw [q1, q2, sizeLine_eq]; omega, ?_⟩
      have e1 : ("\"" : Str) ++ mkS (nm.map quoteF).flatten = mkS (34 :: (nm.map quoteF).flatten) := by show (⟨_ ++ _⟩ : Str) = _; simp; rfl
      rw [e1]
      refine ⟨by rw [mkS_len]; show _ + 1 ≤ _; rw [sizeLine_eq, List.length_cons]; omega, ?_⟩
      have e2 : mkS (34 :: (nm.map quoteF).flatten) ++ ("\"" : Str) = mkS (34 :: (nm.map quoteF).flatten ++ [34]) := by
        show (⟨_ ++ _⟩ : Str) = _
        rw [show ("\"" : Str).cps = #[34] from by decide]; simp
      rw [e2]
      exact tail _ (by rw [List.length_append, List.length_cons, List.length_singleton]; omega) q
  · rw [hb] at q ⊢
    simp only [cS, xMethS, lCons, lNil]
    refine comp1 (m := false) (v := .d (.str (mkS nm))) (xs := signsOf (mkS nm)) (fun _ => true) (fun d => match d with | .str ⟨a⟩ => .str (mkS [92, a.getD 0 0]) | _ => .none) (fun K k => k) rfl ?_ ?_ ?_ ?_
    · intro y hy l K k; exact k
    · intro y hy _ l K k
      rw [signs_mkS] at hy
      obtain ⟨c, hc, rfl⟩ := List.mem_map.mp hy
      exact ⟨by show 1 + 1 ≤ _; rw [sizeLine_eq]; decide, k⟩
    · rw [signs_mkS, List.length_map, sizeLine_eq]; omega
    · have e : (((signsOf (mkS nm)).filter fun _ => true).map fun d => match d with | .str ⟨a⟩ => PyData.str (mkS [92, a.getD 0 0]) | _ => .none) = (nm.map fun c => [92, c]).map fun l => .str (mkS l) := by
        rw [List.filter_eq_self.mpr (fun _ _ => rfl), signs_mkS, List.map_map, List.map_map]; rfl
      dsimp only
      rw [e]
      have fl := flat_len fb nm
      refine join_go rfl (by omega) ?_
      exact tail _ (by omega) q
theorem c_store {it ih : Nat} {rows : List (Str × Str)} {x y : Str} {Q : V → List O → Prop} {hp : List O} (T : Tb hp it ih rows) (hx : okS (Txt.lower x)) (hx' : okS x) (hy : okS y) (hr : ∀ r ∈ rows, (Txt.lower r.1).length ≤ sizeLine)
    (q : Q (.d .none) (hp.set ih (.lst (((rows.filter fun r => Txt.lower r.1 != Txt.lower x) ++ [(x, y)]).map rowD)))) : F__law_store [.r it, .d (.str x), .d (.str y)] Q hp := by
  obtain ⟨fs, e1, f⟩ := T.ob
  refine ⟨rfl, atI_go e1 trivial, c_set T hx hx' hy hr ?_⟩
  exact fin_len (by simp) q
end Mine

set_option autoImplicit false
set_option linter.unusedVariables false
set_option linter.unusedSimpArgs false
set_option maxRecDepth 100000
namespace Mine
open PySem
noncomputable def kS (k : Nat) : Str := Str.ofString (toString (k : Int))
noncomputable def res (nums : List Int) : List Nat := nums.map fun x => (x.fmod 5).toNat
theorem res_lt (nums : List Int) : ∀ t ∈ res nums, t < 5 := by
  intro t ht
  obtain ⟨x, _, rfl⟩ := List.mem_map.mp ht
  have := fmod5 x
  omega
noncomputable def itemF (nums : List Int) (i : Nat) : Str × Str :=
  (List.range nums.length).foldl (fun it k => if ((nums.getD k 0).fmod 5 == (i : Int)) = true then (told (nums.getD k 0), kS k) else it) (smallL.getD i default, "-")
noncomputable def itemsF (nums : List Int) : List (Str × Str) := (ordM (res nums)).map (itemF nums)
theorem log_ok {k : Nat} (h : k ≤ 1000) : (k : Int).natAbs.log2 < 1920 := by
  rw [Int.natAbs_natCast]
  rcases Nat.eq_zero_or_pos k with z | z
  · rw [z]; decide
  · have : k.log2 < 10 := (Nat.log2_lt (by omega)).mpr (by omega)
    omega
theorem iI_get {nums : List Int} {k : Nat} (h : k < nums.length) : (iI nums)[k]? = some (.int (nums.getD k 0)) := by
  unfold iI; rw [List.getElem?_map, List.getD_eq_getElem?_getD, List.getElem?_eq_getElem h]; rfl
theorem c_items' {nums : List Int} {Q : V → List O → Prop} {hp : List O} (hn : nums.length ≤ 900) (q : Q (.d (.list ((itemsF nums).map rowD))) hp) : F__law_items [.d (.list (iI nums))] Q hp := by
  have hlen : (iI nums).length = nums.length := by unfold iI; rw [List.length_map]
  simp only [F__law_items, runFn, bPlain, p__law_items]
  refine ⟨rfl, ?_⟩
  simp only [List.map_cons, List.map_nil, List.replicate, List.cons_append, List.nil_append]
  simp only [sCons, sAssign, xList, lNil, datas, mkL, sFor, xCall, lCons, sNil, sRet, List.set_cons_zero, List.set_cons_succ]
  refine ⟨Nat.zero_le _, ?_⟩
  refine comp1 (m := false) (v := .d (.list (iI nums))) (xs := iI nums) (fun _ => true) (fun d => match d with | .int i => .int (i.fmod 5) | _ => .none) (fun K k => k) rfl ?_ ?_ (by rw [hlen, sizeLine_eq]; omega) ?_
  · intro x hx l K k; exact k
  · intro x hx _ l K k
    obtain ⟨i, _, rfl⟩ := List.mem_map.mp hx
    exact ⟨by decide, k⟩
  have e : (((iI nums).filter fun _ => true).map fun d => match d with | .int i => PyData.int (i.fmod 5) | _ => .none) = iD (res nums) := by
    rw [List.filter_eq_self.mpr (fun _ _ => rfl)]
    unfold iI iD res
    rw [List.map_map, List.map_map]
    apply List.map_congr_left
    intro x _
    show PyData.int (x.fmod 5) = PyData.int ((x.fmod 5).toNat : Int)
    have := fmod5 x
    congr 1; omega
  dsimp only
  rw [e]
  refine c_order (res_lt nums) (by unfold res; rw [List.length_map]; exact hn) ?_
  rw [order_eq (res_lt nums)]
  have F : Five (ordM (res nums)) := Five.ord _ (res_lt nums) _ Five.start
  have foldE : ∀ (l : List Nat) (acc : List (Str × Str)), (iD l).foldl (fun (a : List (Str × Str)) x => match x with | .int i => a ++ [itemF nums i.toNat] | _ => a) acc = acc ++ l.map (itemF nums) := by
    intro l
    induction l with
    | nil => intro acc; simp [iD]
    | cons i l ih => intro acc; simp only [iD, List.map_cons, List.foldl_cons]; exact (ih _).trans (by simp)
  refine for_go2 (g := none) (α := List (Str × Str)) (fun j a vs h => h = hp ++ [O.lst (a.map rowD)] ∧ a.length ≤ j ∧ ∃ o1 o2 o3, vs = [some (.d (.list (iI nums))), some (.r hp.length), o1, o2, o3])
    (fun a x => match x with | .int i => a ++ [itemF nums i.toNat] | _ => a) (fun _ _ _ _ _ => trivial) _ 0 5 [] _ _ (by unfold iD; rw [List.length_map, F.len]) ⟨rfl, by simp, none, none, none, rfl⟩ ?_ ?_
  · rintro j a vs h x hj hx ⟨rfl, ha, o1, o2, o3, rfl⟩ K hK
    obtain ⟨i, hi, rfl⟩ := List.mem_map.mp hx
    have hi5 : i < 5 := by
      have : ∀ o : List Nat, (∀ t ∈ o, t < 5) → ∀ ts : List Nat, (∀ t ∈ ts, t < 5) → ∀ t ∈ ts.foldl mv o, t < 5 := by
        intro o ho ts
        revert o ho
        induction ts with
        | nil => intro o ho _ t ht; exact ho t ht
        | cons u ts ih =>
          intro o ho h t ht
          refine ih (mv o u) ?_ (fun x hx => h x (List.mem_cons_of_mem _ hx)) t ht
          intro y hy
          unfold mv at hy
          rcases List.mem_append.mp hy with hy | hy
          · exact ho y (List.mem_filter.mp hy).1
          · rw [List.mem_singleton.mp hy]; exact h u List.mem_cons_self
      exact this [0, 1, 2, 3, 4] (by decide) (res nums) (res_lt nums) i hi
    simp only [tName, sCons, sNil, sAssign, xTuple, xBin, xCall, lCons, lNil, xVar, cS, List.getElem?_cons_zero, List.getElem?_cons_succ, List.set_cons_zero, List.set_cons_succ]
    refine c_small ?_
    simp only [xVar, List.getElem?_cons_zero, List.getElem?_cons_succ]
    refine item_at (v := .d (.list (smallL.map .str))) (k := i) (x := .str (smallL.getD i default)) ?_ (by omega) rfl (fun _ e => by cases e) ?_
    · rw [List.getElem?_map, List.getD_eq_getElem?_getD, List.getElem?_eq_getElem (by show i < 5; exact hi5)]; rfl
    refine ⟨by show 2 ≤ _; rw [sizeLine_eq]; decide, ?_⟩
    simp only [sFor, xCall, fLen, fRange, lCons, lNil, xVar, lget, List.getElem?_cons_zero, List.getElem?_cons_succ, List.set_cons_zero, List.set_cons_succ]
    rw [hlen]
    refine ⟨by omega, ?_⟩
    refine ⟨small_a (by omega) (by decide) (by omega), ?_⟩
    rw [rangeL_0]
    have fold3 : (iD (List.range nums.length)).foldl (fun (it : Str × Str) x => match x with | .int k => if ((nums.getD k.toNat 0).fmod 5 == (i : Int)) = true then (told (nums.getD k.toNat 0), kS k.toNat) else it | _ => it) (smallL.getD i default, "-") = itemF nums i := by
      unfold iD itemF
      rw [List.foldl_map]; rfl
    refine for_go (g := none) (α := Str × Str) (fun it vs h => h = hp ++ [O.lst (a.map rowD)] ∧ ∃ o, vs = [some (.d (.list (iI nums))), some (.r hp.length), some (.d (.int i)), some (.d (rowD it)), o])
      (fun it x => match x with | .int k => if ((nums.getD k.toNat 0).fmod 5 == (i : Int)) = true then (told (nums.getD k.toNat 0), kS k.toNat) else it | _ => it) (fun _ _ _ _ => trivial) _ (smallL.getD i default, "-") _ _ ⟨rfl, _, rfl⟩ ?_ ?_
    · rintro it vs h x hx ⟨rfl, o, rfl⟩ K' hK'
      obtain ⟨k, hk, rfl⟩ := List.mem_map.mp hx
      have hkl : k < nums.length := List.mem_range.mp hk
      simp only [tName, sCons, sNil, sIf, bCmp, sAssign, xTuple, xBin, xCall, lCons, lNil, xVar, cI, List.getElem?_cons_zero, List.getElem?_cons_succ, List.set_cons_zero, List.set_cons_succ]
      refine item_at (v := .d (.list (iI nums))) (iI_get hkl) (by omega) rfl (fun _ e => by cases e) ?_
      simp only [opMod, xVar, opEq, truthV, List.getElem?_cons_zero, List.getElem?_cons_succ]
      refine ⟨by decide, ?_⟩
      cases hb : ((nums.getD k 0).fmod 5 == (i : Int)) with
      | true =>
        refine item_at (v := .d (.list (iI nums))) (iI_get hkl) (by omega) rfl (fun _ e => by cases e) ?_
        refine c_told ?_
        refine ⟨log_ok (by omega), by show 2 ≤ _; rw [sizeLine_eq]; decide, ?_⟩
        refine (hK' _ _ ⟨rfl, some (.d (.int k)), ?_⟩).1
        simp only [Int.toNat_natCast, hb, if_true]
        rfl
      | false =>
        refine (hK' _ _ ⟨rfl, some (.d (.int k)), ?_⟩).1
        simp only [Int.toNat_natCast, hb, Bool.false_eq_true, if_false]
    · rintro vs h ⟨rfl, o, rfl⟩
      rw [fold3]
      simp only [sExpr, xMethL, lCons, lNil, xVar, List.getElem?_cons_zero, List.getElem?_cons_succ]
      refine ⟨by rw [lget_last]; rfl, by rw [lget_last]; rfl, ?_⟩
      unfold mAppend
      dsimp only
      refine atL_last ⟨by rw [List.length_map, sizeLine_eq]; omega, ?_⟩
      rw [set_last]
      refine (hK _ _ ⟨?_, ?_, _, _, _, rfl⟩).1
      · simp
      · simp; omega
  · rintro vs h ⟨rfl, _, o1, o2, o3, rfl⟩
    rw [foldE, List.nil_append]
    show fin false hp.length Q (.r hp.length) _
    unfold fin
    simp only
    rw [if_neg (Nat.lt_irrefl _), get_last]
    simp only
    rw [List.take_left]
    exact q
end Mine

set_option autoImplicit false
set_option linter.unusedVariables false
set_option linter.unusedSimpArgs false
set_option maxRecDepth 100000
namespace Mine
open PySem
/-- the feeds of a text -/
noncomputable def nls (l : List Nat) : Int := (l.map nl).sum
theorem nls_cons (c : Nat) (l : List Nat) : nls (c :: l) = nl c + nls l := by simp [nls]
theorem tL_nls (e : Nat → Bool) : ∀ (l : List Nat) (b : Bool), (tL e b l).2.2 + nls (tL e b l).2.1 = nls l
  | [], b => by cases b <;> rfl
  | c :: l, true => by
    have := tL_nls e l false
    simp only [tL, nls_cons]; omega
  | c :: l, false => by
    unfold tL
    split
    · simp only [nls_cons]
    · split
      · rename_i h
        have := tL_nls e l true
        rw [nls_cons, h]
        show _ = (0 : Int) + _
        omega
      · have := tL_nls e l false
        simp only [nls_cons]; omega
theorem gTok_nls : ∀ l : List Nat, (gTok l).2.2 + nls (gTok l).2.1 = nls l
  | [] => rfl
  | c :: l => by
    unfold gTok
    split
    · have := gTok_nls l
      simp only [nls_cons]; omega
    · split
      · rename_i h
        have := tL_nls (· == 34) l false
        rw [nls_cons, h]
        show _ = (0 : Int) + _
        omega
      · exact tL_nls isWs (c :: l) false
theorem tQ_word (rest : List Nat) : ∀ nm : List Nat, (tL (· == 34) false ((nm.map quoteF).flatten ++ 34 :: rest)).1 = nm ∧ (tL (· == 34) false ((nm.map quoteF).flatten ++ 34 :: rest)).2.1 = rest
  | [] => ⟨rfl, rfl⟩
  | c :: nm => by
    obtain ⟨a, b⟩ := tQ_word rest nm
    simp only [List.map_cons, List.flatten_cons, List.append_assoc]
    by_cases h : (c == 34 || c == 92) = true
    · rw [show quoteF c = [92, c] from if_pos h]
      simp only [List.cons_append, List.nil_append]
      refine ⟨?_, ?_⟩
      · show c :: _ = _; rw [a]
      · exact b
    · rw [show quoteF c = [c] from if_neg h]
      have h34 : (c == 34) = false := by simp at h; simpa using h.1
      have h92 : c ≠ 92 := by simp at h; exact h.2
      simp only [List.cons_append, List.nil_append, tL, h34, if_neg h92, Bool.false_eq_true, if_false]
      exact ⟨by rw [a], b⟩
theorem tB_word (s : Nat) (hs : isWs s = true) (rest : List Nat) : ∀ nm : List Nat, (tL isWs false ((nm.map fun c => [92, c]).flatten ++ s :: rest)).1 = nm ∧ (tL isWs false ((nm.map fun c => [92, c]).flatten ++ s :: rest)).2.1 = rest
  | [] => by simp [tL, hs]
  | c :: nm => by
    obtain ⟨a, b⟩ := tB_word s hs rest nm
    simp only [List.map_cons, List.flatten_cons, List.append_assoc, List.cons_append, List.nil_append]
    refine ⟨?_, ?_⟩
    · show c :: _ = _; rw [a]
    · exact b
theorem gTok_ws : ∀ (pre l : List Nat), (∀ c ∈ pre, isWs c = true) → (gTok (pre ++ l)).1 = (gTok l).1 ∧ (gTok (pre ++ l)).2.1 = (gTok l).2.1
  | [], l, _ => ⟨rfl, rfl⟩
  | c :: pre, l, h => by
    obtain ⟨a, b⟩ := gTok_ws pre l (fun d hd => h d (List.mem_cons_of_mem _ hd))
    simp only [List.cons_append, gTok, h c List.mem_cons_self, if_true]
    exact ⟨a, b⟩
theorem sep_ws (x : Int) : ∃ s t, sepF x = s :: t ∧ isWs s = true ∧ ∀ c ∈ t, isWs c = true := by
  unfold sepF
  rcases fmod3 (x.fdiv 20) with h | h | h <;> rw [h]
  · exact ⟨32, [], rfl, rfl, by simp⟩
  · exact ⟨10, [], rfl, rfl, by simp⟩
  · exact ⟨13, [10], rfl, rfl, by simp [isWs]⟩
/-- the lexer gives back the word that was written -/
theorem word_read (x : Int) {nm : List Nat} (hn : nm ≠ []) (pre rest : List Nat) (hp : ∀ c ∈ pre, isWs c = true) :
    (gTok (pre ++ (writtenF nm x ++ rest))).1 = nm ∧ ∃ pre', (∀ c ∈ pre', isWs c = true) ∧ (gTok (pre ++ (writtenF nm x ++ rest))).2.1 = pre' ++ rest := by
  obtain ⟨a, b⟩ := gTok_ws pre (writtenF nm x ++ rest) hp
  obtain ⟨s, t, es, hs, ht⟩ := sep_ws x
  rw [a, b]
  unfold writtenF
  split
  · have e : 34 :: (nm.map quoteF).flatten ++ [34] ++ sepF x ++ rest = 34 :: ((nm.map quoteF).flatten ++ 34 :: (sepF x ++ rest)) := by simp
    rw [e]
    obtain ⟨c, d⟩ := tQ_word (sepF x ++ rest) nm
    have g : gTok (34 :: ((nm.map quoteF).flatten ++ 34 :: (sepF x ++ rest))) = tL (· == 34) false ((nm.map quoteF).flatten ++ 34 :: (sepF x ++ rest)) := rfl
    rw [g]
    refine ⟨c, sepF x, ?_, d⟩
    rw [es]
    intro y hy
    rcases List.mem_cons.mp hy with rfl | hy
    · exact hs
    · exact ht y hy
  · have e : (nm.map fun c => [92, c]).flatten ++ sepF x ++ rest = (nm.map fun c => [92, c]).flatten ++ s :: (t ++ rest) := by rw [es]; simp
    rw [e]
    obtain ⟨c, d⟩ := tB_word s hs (t ++ rest) nm
    have g : gTok ((nm.map fun c => [92, c]).flatten ++ s :: (t ++ rest)) = tL isWs false ((nm.map fun c => [92, c]).flatten ++ s :: (t ++ rest)) := by
      cases nm with
      | nil => exact absurd rfl hn
      | cons y nm => rfl
    rw [g]
    exact ⟨c, t, ht, d⟩
theorem end_read {pre : List Nat} (hp : ∀ c ∈ pre, isWs c = true) : (gTok pre).1 = [] ∧ (gTok pre).2.1 = [] := by
  have := gTok_ws pre [] hp
  rw [List.append_nil] at this
  exact this
/-- feeds are counted -/
theorem scan_nl : ∀ (l : List Nat) (i : Nat), ((scan [10] 0 l i).length : Int) = nls l
  | [], i => rfl
  | c :: l, i => by
    rw [nls_cons]
    by_cases h : c = 10
    · subst h
      have e : scan [10] 0 (10 :: l) i = i :: scan [10] 0 l (i + 1) := by simp [scan, List.isPrefixOf]
      rw [e, List.length_cons, ← scan_nl l (i + 1)]
      show _ = (1 : Int) + _
      omega
    · have e : scan [10] 0 (c :: l) i = scan [10] 0 l (i + 1) := by
        have : ([10] : List Nat).isPrefixOf (c :: l) = false := by simp [List.isPrefixOf, Ne.symm h]
        simp [scan, this]
      rw [e, scan_nl l (i + 1)]
      simp [nl, h]
theorem count_nl (l : List Nat) : Txt.count (mkS l) "\n" = nls l := by
  have h10 : ("\n" : Str) = ⟨([10] : List Nat).toArray⟩ := by decide
  unfold Txt.count
  rw [h10, mkS_len, occ_all l [10] (by simp)]
  exact scan_nl l 0
end Mine

set_option autoImplicit false
set_option linter.unusedVariables false
set_option linter.unusedSimpArgs false
set_option maxRecDepth 100000
namespace Mine
open PySem
noncomputable def toldC (x : Int) : List Nat := (told x).cps.toList
theorem told_C (x : Int) : told x = mkS (toldC x) := by unfold toldC; cases told x; simp
noncomputable def rs (x : Int) : Nat := (x.fmod 5).toNat
theorem rs_lt (x : Int) : rs x < 5 := by have := fmod5 x; unfold rs; omega
theorem told_mem (x : Int) : told x ∈ smallL ∨ told x ∈ bigL := by
  unfold told
  have h5 := fmod5 x
  split
  · left; rcases h5 with h | h | h | h | h <;> (rw [h]; decide)
  · right; rcases h5 with h | h | h | h | h <;> (rw [h]; decide)
theorem names_ok : ∀ s ∈ smallL ++ bigL, s.cps.toList ≠ [] ∧ (∀ c ∈ s.cps.toList, c < 128) ∧ s.cps.toList.length ≤ 1000 ∧ cleanS s = true ∧ s.length ≤ 1000 ∧ cleanS (Txt.lower s) = true ∧ (Txt.lower s).length ≤ 1000 := by decide +kernel
theorem told_ok (x : Int) : toldC x ≠ [] ∧ (∀ c ∈ toldC x, c < 128) ∧ (toldC x).length ≤ 1000 ∧ okS (told x) ∧ okS (Txt.lower (told x)) := by
  have m : told x ∈ smallL ++ bigL := List.mem_append.mpr (told_mem x)
  obtain ⟨a, b, c, d, e, f, g⟩ := names_ok _ m
  exact ⟨a, b, c, ⟨d, e⟩, ⟨f, g⟩⟩
theorem lowers : ∀ i, i < 5 → Txt.lower (smallL.getD i default) = smallL.getD i default ∧ Txt.lower (bigL.getD i default) = smallL.getD i default := by decide +kernel
theorem small_inj : ∀ i, i < 5 → ∀ j, j < 5 → ((smallL.getD i default : Str) == smallL.getD j default) = (i == j) := by decide +kernel
theorem told_lower (x : Int) : Txt.lower (told x) = smallL.getD (rs x) default := by
  have h := lowers (rs x) (rs_lt x)
  unfold told
  split
  · exact h.1
  · exact h.2
theorem item_lower {nums : List Int} {i : Nat} (hi : i < 5) : Txt.lower (itemF nums i).1 = smallL.getD i default := by
  unfold itemF
  have : ∀ (l : List Nat) (it : Str × Str), Txt.lower it.1 = smallL.getD i default → Txt.lower (l.foldl (fun it k => if ((nums.getD k 0).fmod 5 == (i : Int)) = true then (told (nums.getD k 0), kS k) else it) it).1 = smallL.getD i default := by
    intro l
    induction l with
    | nil => intro it h; exact h
    | cons k l ih =>
      intro it h
      rw [List.foldl_cons]
      refine ih _ ?_
      split
      · rename_i hh
        have e := beq_iff_eq.mp hh
        show Txt.lower (told _) = _
        rw [told_lower]
        unfold rs; rw [e]; rfl
      · exact h
  exact this _ _ (lowers i hi).1
theorem item_snoc {nums : List Int} {x : Int} (i : Nat) (hi : i < 5) : itemF (nums ++ [x]) i = if i = rs x then (told x, kS nums.length) else itemF nums i := by
  unfold itemF
  rw [List.length_append, List.length_singleton, List.range_succ, List.foldl_append]
  have e : ∀ (m : Nat) (it : Str × Str), m ≤ nums.length → (List.range m).foldl (fun it k => if (((nums ++ [x]).getD k 0).fmod 5 == (i : Int)) = true then (told ((nums ++ [x]).getD k 0), kS k) else it) it = (List.range m).foldl (fun it k => if ((nums.getD k 0).fmod 5 == (i : Int)) = true then (told (nums.getD k 0), kS k) else it) it := by
    intro m
    induction m with
    | zero => intro it _; rfl
    | succ m ih =>
      intro it h
      rw [List.range_succ, List.foldl_append, List.foldl_append, ih it (by omega)]
      simp only [List.foldl_cons, List.foldl_nil]
      have : (nums ++ [x]).getD m 0 = nums.getD m 0 := by
        simp only [List.getD_eq_getElem?_getD]; rw [List.getElem?_append_left (by omega)]
      rw [this]
  rw [e _ _ (Nat.le_refl _)]
  simp only [List.foldl_cons, List.foldl_nil]
  have : (nums ++ [x]).getD nums.length 0 = x := by simp [List.getD_eq_getElem?_getD]
  rw [this]
  have h5 := fmod5 x
  by_cases h : i = rs x
  · rw [if_pos h, if_pos]; rw [beq_iff_eq]; unfold rs at h; omega
  · rw [if_neg h, if_neg]; rw [beq_iff_eq]; unfold rs at h; omega
theorem res_snoc (nums : List Int) (x : Int) : ordM (res (nums ++ [x])) = mv (ordM (res nums)) (rs x) := by
  unfold ordM res
  rw [List.map_append, List.foldl_append]; rfl
noncomputable def rowsF (nums : List Int) : List (Str × Str) := (ordM (res nums)).map (itemF nums)
theorem ord_five (nums : List Int) : Five (ordM (res nums)) := Five.ord _ (res_lt nums) _ Five.start
theorem ord_lt (nums : List Int) : ∀ i ∈ ordM (res nums), i < 5 := by
  have : ∀ (ts o : List Nat), (∀ t ∈ o, t < 5) → (∀ t ∈ ts, t < 5) → ∀ t ∈ ts.foldl mv o, t < 5 := by
    intro ts
    induction ts with
    | nil => intro o ho _ t ht; exact ho t ht
    | cons u ts ih =>
      intro o ho h t ht
      refine ih (mv o u) ?_ (fun x hx => h x (List.mem_cons_of_mem _ hx)) t ht
      intro y hy
      unfold mv at hy
      rcases List.mem_append.mp hy with hy | hy
      · exact ho y (List.mem_filter.mp hy).1
      · rw [List.mem_singleton.mp hy]; exact h u List.mem_cons_self
  exact this (res nums) [0, 1, 2, 3, 4] (by decide) (res_lt nums)
theorem rows_snoc (nums : List Int) (x : Int) : ((rowsF nums).filter fun r => Txt.lower r.1 != Txt.lower (told x)) ++ [(told x, kS nums.length)] = rowsF (nums ++ [x]) := by
  unfold rowsF
  rw [res_snoc]
  unfold mv
  rw [List.map_append, List.filter_map]
  have lt := ord_lt nums
  congr 1
  · have e : ((ordM (res nums)).filter ((fun r => Txt.lower r.1 != Txt.lower (told x)) ∘ itemF nums)) = (ordM (res nums)).filter (· != rs x) := by
      apply List.filter_congr
      intro i hi
      show (Txt.lower (itemF nums i).1 != Txt.lower (told x)) = (i != rs x)
      rw [item_lower (lt i hi), told_lower]
      unfold bne
      rw [small_inj i (lt i hi) (rs x) (rs_lt x)]
    rw [e]
    apply List.map_congr_left
    intro i hi
    have h2 := (List.mem_filter.mp hi)
    rw [item_snoc i (lt i h2.1), if_neg (by simpa using h2.2)]
  · rw [List.map_singleton, item_snoc (rs x) (rs_lt x), if_pos rfl]
theorem place_of (nums : List Int) (x : Int) : ((rowsF nums).map fun r => PyData.str (Txt.lower r.1)).findIdx? (fun z => z.eqv (.str (Txt.lower (told x)))) = some ((ordM (res nums)).findIdx (· == rs x)) := by
  have lt := ord_lt nums
  rw [← find_some ((ord_five nums).all _ (rs_lt x))]
  unfold rowsF
  rw [List.map_map, List.findIdx?_map]
  have : ∀ (o : List Nat) (f g : Nat → Bool), (∀ i ∈ o, f i = g i) → o.findIdx? f = o.findIdx? g := by
    intro o f g
    induction o with
    | nil => intro _; rfl
    | cons a o ih =>
      intro h
      rw [List.findIdx?_cons, List.findIdx?_cons, h a List.mem_cons_self, ih (fun i hi => h i (List.mem_cons_of_mem _ hi))]
  apply this
  intro i hi
  show (Txt.lower (itemF nums i).1 == Txt.lower (told x)) = (i == rs x)
  rw [item_lower (lt i hi), told_lower, small_inj i (lt i hi) (rs x) (rs_lt x)]
noncomputable def textF (nums : List Int) : List Nat := (nums.map fun x => writtenF (toldC x) x).flatten
end Mine

set_option autoImplicit false
set_option linter.unusedVariables false
set_option linter.unusedSimpArgs false
set_option maxRecDepth 100000
namespace Mine
open PySem
/-- between two turns of the law's loop; j numbers are read -/
structure Inv (nums : List Int) (is il ih it j : Nat) (n : Int) (pre w r : List Nat) (hp : List O) : Prop where
  lx : Lx hp il is n (pre ++ textF (nums.drop j))
  pw : ∀ c ∈ pre, isWs c = true
  ln : n + nls (pre ++ textF (nums.drop j)) = 1 + nls (textF nums)
  tb : Tb hp it ih (rowsF (nums.take j))
  w1 : ab w
  w2 : w.length ≤ 4 * j
  w3 : act w [0, 1, 2, 3, 4] = ordM (res (nums.take j))
  r1 : ab r
  r2 : r.length ≤ 4 * j
  r3 : act r [0, 1, 2, 3, 4] = ordM (res (nums.take j))
  r4 : r = due (ordM (res (nums.take j)))
  ap : is ≠ it ∧ is ≠ ih ∧ il ≠ it ∧ il ≠ ih
theorem Tb.kp {hp hp' : List O} {it ih : Nat} {rows : List (Str × Str)} {S : List Nat} (T : Tb hp it ih rows) (k : Kp S hp hp') (h1 : it ∉ S) (h2 : ih ∉ S) : Tb hp' it ih rows := by
  obtain ⟨a, ⟨fs, b, c⟩, d, e⟩ := T
  exact ⟨a, ⟨fs, (k.2 it h1).trans b, c⟩, (k.2 ih h2).trans d, e⟩
theorem due_of (nums : List Int) {r w : List Nat} (hr : stepR rules3 r = r) (ha : ab r) (e : act r [0, 1, 2, 3, 4] = act w [0, 1, 2, 3, 4]) (ew : act w [0, 1, 2, 3, 4] = ordM (res nums)) : r = due (ordM (res nums)) := by
  rw [← ew]; exact rest_due hr ha e
theorem tail_ab (k : Nat) : ab ((L "abcd").drop k) := fun c hc => List.drop_subset _ _ hc
theorem tail_len (k : Nat) : ((L "abcd").drop k).length ≤ 4 := by
  have : (L "abcd").length = 4 := by decide
  rw [List.length_drop]; omega
theorem ab_app {a b : List Nat} (h1 : ab a) (h2 : ab b) : ab (a ++ b) := fun c hc => (List.mem_append.mp hc).elim (h1 c) (h2 c)
theorem take_snoc {nums : List Int} {j : Nat} (h : j < nums.length) : nums.take (j + 1) = nums.take j ++ [nums.getD j 0] := by
  rw [List.take_add_one, List.getD_eq_getElem?_getD, List.getElem?_eq_getElem h]; rfl
theorem drop_snoc {nums : List Int} {j : Nat} (h : j < nums.length) : nums.drop j = nums.getD j 0 :: nums.drop (j + 1) := by
  rw [List.getD_eq_getElem?_getD, List.getElem?_eq_getElem h]
  exact List.drop_eq_getElem_cons h
noncomputable def body6 : XS := (sCons (sAssign 8 (xMeth 213 F__netrclex_get_token (xVar 3) lNil lNil))
 (sCons (sIf (bCmp opNe (xVar 8) (xCall F__law_told (lCons (xBin opItem (xVar 1) (xVar 7)) lNil))) (sCons (sRet (cB false))
 sNil) sNil)
 (sCons (sAssign 9 (xMethL mIndex (xComp false 1 (tName 0) (xMeth 171 F_Headers_keys (xVar 4) lNil lNil) iNil (xMethS mLower (xVar 0) lNil)) (lCons (xMethS mLower (xVar 8) lNil) lNil)))
 (sCons (sExpr (xCall F__law_store (lCons (xVar 4) (lCons (xVar 8) (lCons (xCall fStr (lCons (xVar 7) lNil)) lNil)))))
 (sCons (sAug opIAdd 5 (xSlice (cS "abcd") (pSome (xVar 9)) pNone))
 (sCons (sAssign 6 (xCall F__law_rest (lCons (xBin opAdd (xVar 6) (xSlice (cS "abcd") (pSome (xVar 9)) pNone)) lNil)))
 (sCons (sIf (bCmp opNe (xVar 6) (xCall F__law_due (lCons (xCall F__law_order (lCons (xComp false 1 (tName 0) (xSlice (xVar 1) pNone (pSome (xBin opAdd (xVar 7) (cI 1)))) iNil (xBin opMod (xVar 0) (cI 5))) lNil)) lNil))) (sCons (sRet (cB false))
 sNil) sNil)
 sNil)))))))
theorem slice_abcd {k : Nat} {Q : V → List O → Prop} {hp : List O} (q : Q (.d (.str (mkS ((L "abcd").drop k)))) hp) : sliceV (.d (.str "abcd")) (some (k : Int)) none Q hp := by
  refine ⟨by rw [sizeLine_eq]; decide, ?_⟩
  have : ("abcd" : Str).cps.toList = L "abcd" := by decide
  rw [this, psl_drop]; exact q
theorem kS_ok : ∀ j : Fin 20, okS (kS j.val) := by unfold okS; decide +kernel
theorem turn {nums : List Int} {is il ih it j : Nat} {n : Int} {pre w r : List Nat} {hp : List O} {o0 o2 o8 o9 : Option V} {K : QS} (I : Inv nums is il ih it j n pre w r hp) (hj : j < nums.length) (hN : nums.length ≤ 8)
    (hK : ∀ n' pre' w' r' hp' o8 o9, Inv nums is il ih it (j + 1) n' pre' w' r' hp' → K .next [o0, some (.d (.list (iI nums))), o2, some (.r il), some (.r it), some (.d (.str (mkS w'))), some (.d (.str (mkS r'))), some (.d (.int j)), o8, o9] hp') :
    body6 [o0, some (.d (.list (iI nums))), o2, some (.r il), some (.r it), some (.d (.str (mkS w))), some (.d (.str (mkS r))), some (.d (.int j)), o8, o9] K hp := by
  obtain ⟨lx, pw, ln, tb, w1, w2, w3, r1, r2, r3, r4, ap⟩ := I
  have hx : ∃ x, x = nums.getD j 0 := ⟨_, rfl⟩
  obtain ⟨x, ex⟩ := hx
  have e1 : textF (nums.drop j) = writtenF (toldC x) x ++ textF (nums.drop (j + 1)) := by
    rw [drop_snoc hj, ← ex]; rfl
  obtain ⟨t1, t2, t3, t4, t5⟩ := told_ok x
  rw [e1] at lx ln
  obtain ⟨g1, pre', g2, g3⟩ := word_read x t1 pre (textF (nums.drop (j + 1))) pw
  have g4 := gTok_nls (pre ++ (writtenF (toldC x) x ++ textF (nums.drop (j + 1))))
  obtain ⟨fs, f0, f1⟩ := lx.ob
  obtain ⟨ft, i0, i1⟩ := tb.ob
  unfold body6
  simp only [sCons, sAssign, xMeth, xVar, lNil, sNil, List.getElem?_cons_zero, List.getElem?_cons_succ, List.set_cons_zero, List.set_cons_succ]
  refine ⟨atI_go f0 trivial, c_token lx ?_⟩
  intro hp1 k1 L1
  rw [g1, ← told_C]
  rw [g3] at L1 g4
  have T1 := tb.kp k1 (by simp [Ne.symm ap.1, Ne.symm ap.2.2.1]) (by simp [Ne.symm ap.2.1, Ne.symm ap.2.2.2])
  simp only [sIf, bCmp, xBin, xCall, lCons, lNil, xVar, List.getElem?_cons_zero, List.getElem?_cons_succ]
  refine item_at (v := .d (.list (iI nums))) (iI_get hj) (by omega) rfl (fun _ e => by cases e) ?_
  refine c_told ?_
  rw [← ex]
  simp only [opNe, truthV, bne_self_eq_false]
  -- the place
  have hr : (rowsF (nums.take j)).length = 5 := by unfold rowsF; rw [List.length_map, (ord_five _).len]
  have hlow : ∀ q ∈ rowsF (nums.take j), (Txt.lower q.1).length ≤ sizeLine := by
    intro q hq
    unfold rowsF at hq
    obtain ⟨i, hi, rfl⟩ := List.mem_map.mp hq
    have hi5 := ord_lt _ i hi
    rw [item_lower hi5]
    have : ∀ i, i < 5 → (smallL.getD i default).length ≤ 1000 := by decide +kernel
    have := this i hi5
    rw [sizeLine_eq]; omega
  simp only [sNil, xMethL, xMethS, mLower, lCons, lNil, xVar, List.getElem?_cons_zero, List.getElem?_cons_succ]
  refine comp1 (m := false) (v := .d (.list ((rowsF (nums.take j)).map fun q : Str × Str => PyData.str q.1))) (xs := (rowsF (nums.take j)).map fun q : Str × Str => PyData.str q.1) (fun _ => true) (fun d => match d with | .str s => .str (Txt.lower s) | _ => .none) ?_ rfl ?_ ?_ (by rw [List.length_map, hr, sizeLine_eq]; decide) ?_
  · intro K' k'
    obtain ⟨ft, i0, i1⟩ := T1.ob
    simp only [xMeth, xVar, lNil, List.getElem?_cons_zero, List.getElem?_cons_succ]
    refine ⟨atI_go i0 trivial, c_keys T1 k'⟩
  · intro y hy l K' k'; exact k'
  · intro y hy _ l K' k'
    obtain ⟨q, hq, rfl⟩ := List.mem_map.mp hy
    exact ⟨hlow q hq, k'⟩
  have e2 : (((rowsF (nums.take j)).map fun q : Str × Str => PyData.str q.1).filter fun _ => true).map (fun d => match d with | .str s => PyData.str (Txt.lower s) | _ => .none) = (rowsF (nums.take j)).map fun q : Str × Str => PyData.str (Txt.lower q.1) := by
    rw [List.filter_eq_self.mpr (fun _ _ => rfl), List.map_map]; rfl
  dsimp only
  rw [e2]
  refine ⟨rfl, okS_le t5, rfl, ?_⟩
  have okm : okD (.list ((rowsF (nums.take j)).map fun q : Str × Str => PyData.str (Txt.lower q.1))) = true := by
    refine okD_strs ?_
    intro y hy
    obtain ⟨q, hq, rfl⟩ := List.mem_map.mp hy
    refine ⟨_, rfl, ?_⟩
    unfold rowsF at hq
    obtain ⟨i, hi, rfl⟩ := List.mem_map.mp hq
    rw [item_lower (ord_lt _ i hi)]
    have : ∀ i, i < 5 → PyData.strOk (smallL.getD i default) = true := by decide +kernel
    exact this i (ord_lt _ i hi)
  have oke : okD (.str (Txt.lower (told x))) = true := by
    rw [told_lower]
    have : ∀ i, i < 5 → okD (.str (smallL.getD i default)) = true := by decide +kernel
    exact this _ (rs_lt x)
  refine ⟨.str (Txt.lower (told x)), _, rfl, rfl, oke, okm, by rw [List.length_map, hr, sizeLine_eq]; decide, _, place_of _ x, ?_⟩
  generalize hp9 : (ordM (res (nums.take j))).findIdx (· == rs x) = pl
  -- stored anew
  have jf : kS j = kS (⟨j, by omega⟩ : Fin 20).val := rfl
  simp only [sExpr, xCall, lCons, lNil, xVar, List.getElem?_cons_zero, List.getElem?_cons_succ, List.set_cons_zero, List.set_cons_succ]
  refine ⟨log_ok (by omega), c_store T1 t5 t4 (kS_ok ⟨j, by omega⟩) hlow ?_⟩
  have lenj : (nums.take j).length = j := by rw [List.length_take]; omega
  have rows' : ((rowsF (nums.take j)).filter fun q => Txt.lower q.1 != Txt.lower (told x)) ++ [(told x, kS j)] = rowsF (nums.take (j + 1)) := by
    have := rows_snoc (nums.take j) x
    rw [lenj] at this
    rw [this, take_snoc hj, ← ex]
  rw [show kS j = Str.ofString (toString (j : Int)) from rfl] at rows'
  rw [rows']
  have hr' : (rowsF (nums.take (j + 1))).length = 5 := by unfold rowsF; rw [List.length_map, (ord_five _).len]
  have L2 : Lx (hp1.set ih (.lst ((rowsF (nums.take (j + 1))).map rowD))) il is (n + (gTok (pre ++ (writtenF (toldC x) x ++ textF (nums.drop (j + 1))))).2.2) (pre' ++ textF (nums.drop (j + 1))) := L1.keep (hp' := hp1) (Ne.symm ap.2.2.2) (Ne.symm ap.2.1)
  have T2 : Tb (hp1.set ih (.lst ((rowsF (nums.take (j + 1))).map rowD))) it ih (rowsF (nums.take (j + 1))) := by
    obtain ⟨a, ⟨ft, b, c⟩, d, e⟩ := T1
    exact ⟨a, ⟨ft, by rw [List.getElem?_set_ne (Nat.ne_of_lt a)]; exact b, c⟩, set_get d, by omega⟩
  revert L2 T2
  generalize hp1.set ih (.lst ((rowsF (nums.take (j + 1))).map rowD)) = hp2
  intro L2 T2
  -- the word and the rest
  have o' : ordM (res (nums.take (j + 1))) = act ((L "abcd").drop pl) (ordM (res (nums.take j))) := by
    rw [take_snoc hj, ← ex, res_snoc, mv_act (ord_five _) (rs_lt x), hp9]
  have len5 : ([0, 1, 2, 3, 4] : List Nat).length = 5 := rfl
  simp only [sAug, xSlice, cS, pSome, pNone, xVar, List.getElem?_cons_zero, List.getElem?_cons_succ]
  refine slice_abcd ?_
  have tl := tail_len pl
  refine ⟨by rw [mkS_len, mkS_len, sizeLine_eq]; omega, ?_⟩
  have mk2 : ∀ a b : List Nat, mkS a ++ mkS b = mkS (a ++ b) := by intro a b; show (⟨_ ++ _⟩ : Str) = _; simp
  rw [mk2]
  simp only [List.getElem?_cons_zero, List.getElem?_cons_succ, List.set_cons_zero, List.set_cons_succ]
  refine slice_abcd ?_
  refine ⟨by rw [mkS_len, mkS_len, sizeLine_eq]; omega, ?_⟩
  rw [mk2]
  refine c_rest (by rw [List.length_append]; omega) (ab_app r1 (tail_ab pl)) ?_
  intro r' s1 s2 s3 s4
  have s5 : act (r ++ (L "abcd").drop pl) [0, 1, 2, 3, 4] = ordM (res (nums.take (j + 1))) := by rw [act_app, r3, o']
  have s6 : r' = due (ordM (res (nums.take (j + 1)))) := due_of _ s1 s2 s3 s5
  -- what is due
  have lt' : (nums.take (j + 1)).length ≤ 8 := by rw [List.length_take]; omega
  have li : ∀ l : List Int, (iI l).length = l.length := fun l => by unfold iI; rw [List.length_map]
  refine comp1 (m := false) (v := .d (.list (iI (nums.take (j + 1))))) (xs := iI (nums.take (j + 1))) (fun _ => true) (fun d => match d with | .int i => .int (i.fmod 5) | _ => .none) ?_ rfl ?_ ?_ (by rw [li, sizeLine_eq]; omega) ?_
  · intro K' k'
    simp only [xSlice, pNone, pSome, xBin, xVar, cI, opAdd, List.getElem?_cons_zero, List.getElem?_cons_succ]
    refine ⟨iI nums, rfl, by rw [li, sizeLine_eq]; omega, ?_⟩
    rw [show ((j : Int) + 1) = ((j + 1 : Nat) : Int) from rfl, psl_take]
    have : (iI nums).take (j + 1) = iI (nums.take (j + 1)) := by unfold iI; rw [List.map_take]
    rw [this]; exact k'
  · intro y hy l K' k'; exact k'
  · intro y hy _ l K' k'
    obtain ⟨i, _, rfl⟩ := List.mem_map.mp hy
    exact ⟨by decide, k'⟩
  have e9 : (((iI (nums.take (j + 1))).filter fun _ => true).map fun d => match d with | .int i => PyData.int (i.fmod 5) | _ => .none) = iD (res (nums.take (j + 1))) := by
    rw [List.filter_eq_self.mpr (fun _ _ => rfl)]
    unfold iI iD res
    rw [List.map_map, List.map_map]
    apply List.map_congr_left
    intro y _
    show PyData.int (y.fmod 5) = PyData.int ((y.fmod 5).toNat : Int)
    have := fmod5 y
    congr 1; omega
  dsimp only
  rw [e9]
  refine c_order (res_lt _) (by unfold res; rw [List.length_map]; omega) ?_
  rw [order_eq (res_lt _)]
  refine c_due (ord_five _) ?_
  rw [← s6]
  simp only [opNe, truthV, bne_self_eq_false]
  refine hK _ _ _ _ _ _ _ ⟨L2, g2, ?_, T2, ab_app w1 (tail_ab pl), by rw [List.length_append]; omega, by rw [act_app, w3, o'], s2, by rw [List.length_append] at s4; omega, s3.trans s5, s6, ap⟩
  omega
end Mine

set_option autoImplicit false
set_option linter.unusedVariables false
set_option linter.unusedSimpArgs false
set_option maxRecDepth 100000
namespace Mine
open PySem
theorem for_range {tgt : XT} {body : XS} {Q : QS} {R : Nat → List (Option V) → List O → Prop} : ∀ (m i : Nat) (vs : List (Option V)) (hp : List O), R i vs hp →
    (∀ k vs hp, i ≤ k → k < i + m → R k vs hp → ∀ K : QS, (∀ vs' hp', R (k + 1) vs' hp' → K .next vs' hp') → tgt (.d (.int k)) vs (fun vs' hp' => body vs' K hp') hp) →
    (∀ vs hp, R (i + m) vs hp → Q .next vs hp) → forL none tgt body Q ((List.range' i m).map fun k : Nat => PyData.int (k : Int)) vs hp
  | 0, i, vs, hp, r, hb, hq => ⟨trivial, hq _ _ r⟩
  | m + 1, i, vs, hp, r, hb, hq => ⟨trivial, hb i vs hp (Nat.le_refl _) (by omega) r _ fun vs' hp' r' =>
      for_range m (i + 1) vs' hp' r' (fun k vs hp h1 h2 => hb k vs hp (by omega) (by omega)) (fun vs hp h => hq vs hp (by rw [show i + (m + 1) = i + 1 + m from by omega]; exact h))⟩
noncomputable def strG (r : Str × Str) : Prop := PyData.strOk r.1 = true ∧ PyData.strOk r.2 = true
theorem okD_rows {rows : List (Str × Str)} (h : ∀ r ∈ rows, strG r) : okD (.list (rows.map rowD)) = true := by
  have k : PyData.canLayAll0 (rows.map rowD) = true ∧ PyData.depthAll (rows.map rowD) ≤ 1 := by
    induction rows with
    | nil => exact ⟨rfl, Nat.zero_le _⟩
    | cons r rows ih =>
      obtain ⟨a, b⟩ := ih (fun q hq => h q (List.mem_cons_of_mem _ hq))
      obtain ⟨c, d⟩ := h r List.mem_cons_self
      refine ⟨?_, ?_⟩
      · simp only [List.map_cons, rowD, PyData.canLayAll0, PyData.canLay0, c, d, Bool.and_self, Bool.true_and, a]
      · simp only [List.map_cons, rowD, PyData.depthAll, PyData.depth]; omega
  unfold okD
  simp only [PyData.canLay0, PyData.depth, k.1]
  simp; omega
theorem eqv_rows : ∀ rows : List (Str × Str), PyData.eqv (.list (rows.map rowD)) (.list (rows.map rowD)) = true := by
  intro rows
  show PyData.eqvAll _ _ = true
  induction rows with
  | nil => rfl
  | cons r rows ih =>
    simp only [List.map_cons, PyData.eqvAll, rowD, PyData.eqv, beq_self_eq_true, Bool.and_self, Bool.true_and]
    exact ih
theorem item_ok {nums : List Int} (h : nums.length ≤ 8) {i : Nat} (hi : i < 5) : strG (itemF nums i) := by
  have all : ∀ s ∈ smallL ++ bigL, PyData.strOk s = true := by decide +kernel
  have dig : ∀ k : Fin 8, PyData.strOk (kS k.val) = true := by decide +kernel
  unfold itemF
  have : ∀ (l : List Nat) (it : Str × Str), (∀ k ∈ l, k < 8) → strG it → strG (l.foldl (fun it k => if ((nums.getD k 0).fmod 5 == (i : Int)) = true then (told (nums.getD k 0), kS k) else it) it) := by
    intro l
    induction l with
    | nil => intro it _ g; exact g
    | cons k l ih =>
      intro it hl g
      rw [List.foldl_cons]
      refine ih _ (fun k hk => hl k (List.mem_cons_of_mem _ hk)) ?_
      split
      · exact ⟨all _ (List.mem_append.mpr (told_mem _)), dig ⟨k, hl k List.mem_cons_self⟩⟩
      · exact g
  refine this _ _ (fun k hk => by have := List.mem_range.mp hk; omega) ⟨?_, show PyData.strOk ("-" : Str) = true by decide +kernel⟩
  have : ∀ i, i < 5 → PyData.strOk (smallL.getD i default) = true := by decide +kernel
  exact this i hi
theorem rows_ok {nums : List Int} (h : nums.length ≤ 8) : ∀ r ∈ rowsF nums, strG r := by
  intro r hr
  obtain ⟨i, hi, rfl⟩ := List.mem_map.mp hr
  exact item_ok h (ord_lt _ i hi)
noncomputable def p_tail : XS := sCons p_law3 (sCons p_law4 (sCons p_law5 (sCons p_law6 (sCons p_law7 (sCons p_law8 sNil)))))
theorem okDash : okS "-" := by unfold okS; decide +kernel
theorem rows0 : rowsF [] = smallL.map fun s => (s, ("-" : Str)) := by decide +kernel
theorem law_tail {nums : List Int} {o0 : Option V} {hp : List O} {Q : QS} (hl : hp.length = 2) (lx : Lx hp 1 0 1 (textF nums)) (hN : nums.length ≤ 8) (q : ∀ vs hp, Q (.ret (.d (.bool true))) vs hp) :
    p_tail [o0, some (.d (.list (iI nums))), some (.d (.str (mkS (textF nums)))), some (.r 1), none, none, none, none, none, none] Q hp := by
  unfold p_tail
  simp only [sCons, p_law3, p_law4, p_law5, sAssign, xCall, lCons, lNil, cS, List.set_cons_zero, List.set_cons_succ]
  have e3 : (((smallL.map PyData.str).filter fun _ => true).map fun d => PyData.tuple [d, .str "-"]) = (rowsF []).map rowD := by
    rw [rows0, List.filter_eq_self.mpr (fun _ _ => rfl), List.map_map, List.map_map]; rfl
  refine comp1 (m := true) (v := .d (.list (smallL.map .str))) (xs := smallL.map .str) (fun _ => true) (fun d => PyData.tuple [d, .str "-"]) (fun K k => c_small k) rfl ?_ ?_ (by decide) ?_
  · intro x hx l K k; exact k
  · intro x hx _ l K k
    exact ⟨by show 2 ≤ _; rw [sizeLine_eq]; decide, k⟩
  dsimp only
  rw [e3]
  refine c_headers get_last (by decide) ?_ ?_
  · intro r hr
    rw [rows0] at hr
    obtain ⟨s, hs, rfl⟩ := List.mem_map.mp hr
    obtain ⟨_, _, _, d, e, _⟩ := names_ok s (List.mem_append.mpr (.inl hs))
    exact ⟨⟨d, e⟩, okDash⟩
  intro hp' l' k' T
  simp only [List.length_append, List.length_singleton, hl] at l' T ⊢
  have lx' : Lx hp' 1 0 1 (textF nums) := by
    obtain ⟨ne, ⟨fs, a, b⟩, c, d⟩ := lx
    refine ⟨ne, ⟨fs, ?_, b⟩, ?_, d⟩
    · rw [k' 1 (by simp [hl])]; exact get_left a _
    · rw [k' 0 (by simp [hl])]; exact get_left c _
  have I0 : Inv nums 0 1 2 3 0 1 [] [] [] hp' := by
    have abn : ab [] := fun c hc => by cases hc
    exact ⟨lx', (fun c hc => by cases hc), rfl, T, abn, Nat.zero_le _, rfl, abn, Nat.zero_le _, rfl, (show [] = due (ordM (res [])) by decide), by decide⟩
  have hlen : (iI nums).length = nums.length := by unfold iI; rw [List.length_map]
  simp only [p_law6, sFor, xCall, lCons, lNil, xVar, fLen, fRange, lget, List.getElem?_cons_zero, List.getElem?_cons_succ]
  rw [hlen]
  refine ⟨by omega, ?_⟩
  refine ⟨small_a (by omega) (by decide) (by omega), ?_⟩
  rw [rangeL_0]
  unfold iD
  rw [List.range_eq_range']
  refine for_range (R := fun j vs h => ∃ n pre w r o7 o8 o9, Inv nums 0 1 2 3 j n pre w r h ∧ vs = [o0, some (.d (.list (iI nums))), some (.d (.str (mkS (textF nums)))), some (.r 1), some (.r 3), some (.d (.str (mkS w))), some (.d (.str (mkS r))), o7, o8, o9]) nums.length 0 _ _ ⟨1, [], [], [], none, none, none, I0, rfl⟩ ?_ ?_
  · rintro k vs h _ hk ⟨n, pre, w, r, o7, o8, o9, I, rfl⟩ K hK
    exact turn I (by omega) hN (fun n' pre' w' r' hp' o8 o9 I' => hK _ _ ⟨n', pre', w', r', _, o8, o9, I', rfl⟩)
  · rintro vs h ⟨n, pre, w, r, o7, o8, o9, I, rfl⟩
    rw [Nat.zero_add] at I
    obtain ⟨lx2, pw, ln, tb, w1, w2, w3, r1, r2, r3, r4, ap⟩ := I
    have ed : textF (nums.drop nums.length) = [] := by rw [List.drop_length]; rfl
    rw [ed, List.append_nil] at lx2 ln
    rw [List.take_length] at tb w3 r3 r4
    obtain ⟨g1, g2⟩ := end_read pw
    have g4 := gTok_nls pre
    rw [g2] at g4
    obtain ⟨fs, f0, f1, _⟩ := lx2.ob
    obtain ⟨ft, i0, i1⟩ := tb.ob
    simp only [p_law7, p_law8, sIf, bOr, bCmp, xCall, xMeth, lCons, lNil, sNil, sRet, xAnd, xBin, xVar, List.getElem?_cons_zero, List.getElem?_cons_succ]
    refine c_rest (by omega) w1 ?_
    intro r' s1 s2 s3 s4
    have s6 : r' = r := by rw [due_of nums s1 s2 s3 w3]; exact r4.symm
    rw [s6]
    have bn : (mkS r != mkS r) = false := bne_self_eq_false _
    simp only [xVar, opNe, truthV, bn, List.getElem?_cons_zero, List.getElem?_cons_succ]
    refine ⟨atI_go i0 trivial, c_items tb ?_⟩
    refine c_items' (by omega) ?_
    have ei : itemsF nums = rowsF nums := rfl
    rw [ei]
    have ok := okD_rows (rows_ok hN)
    refine ⟨_, _, rfl, rfl, ok, ok, ?_⟩
    rw [eqv_rows]
    simp only [Bool.not_true]
    refine ⟨atI_go f0 trivial, c_token lx2 ?_⟩
    intro hp1 k1 L1
    rw [g1]
    have eb : ((mkS []) == ("" : Str)) = true := by decide
    simp only [cS, opEq, truthV, eb]
    obtain ⟨fs', f0', f1', _⟩ := L1.ob
    simp only [xUn, xVar, cI, xMethS, lCons, lNil, cS, mCount, opAdd, List.getElem?_cons_zero, List.getElem?_cons_succ]
    refine getF_go f0' f1' ?_
    simp only [xVar, count_nl, opEq, List.getElem?_cons_zero, List.getElem?_cons_succ]
    have : n + (gTok pre).2.2 = 1 + nls (textF nums) := by
      have : nls ([] : List Nat) = 0 := rfl
      omega
    rw [this, beq_self_eq_true]
    exact q _ _
end Mine

set_option autoImplicit false
set_option linter.unusedVariables false
namespace Mine
open PySem PySem.Spec PySem.Calls PyProof.Rows
theorem f_go {K : KX} {mg mb : Str → Option Value} (G : KG K mg mb) {r : Nat} {a : Addr} {fd : FuncData} {body : List Stmt} (X : FnAt K a fd body) {ps rest : List Str} {n : Nat}
    (hbind : ∀ ras : List Value, ras.length = ps.length → bindArgs fd ⟨ras, []⟩ = pure (ps.zip ras)) (nd : ps.Nodup) (hkind : ∀ x ∈ ps, fd.scope.names.lookup x = some .local ∨ fd.scope.names.lookup x = some .cell) (hfree : ∀ x, fd.scope.names.lookup x ≠ some .free)
    {A : Around} (ok : OkA (r + 1) A) {ρ : Rho} {hp : List O} {s : Shared} {vas : List V} {ras : List Value} {E : Value → Shared → Prop} {Post : Value → Shared → Prop} (H : HRel K ρ hp s.heap) (R : VRs ρ s.heap vas ras) (hl : ras.length = ps.length)
    (hbody : ∀ h₂ t₂ A' E', OkA r A' → FRel K (callEnvC fd s.heap.objs.size a) (lk (ps ++ rest)) (vas.map some ++ List.replicate n none) ρ h₂ → HRel K ρ hp h₂ → Step K ρ s.heap ρ h₂ →
      (∀ b o, s.heap.get? b = some o → ¬ Place (callEnvC fd s.heap.objs.size a) b) →
      wpAny (model K.prog K.w) A' (execs body (callEnvC fd s.heap.objs.size a)) (fun fl s' => ∃ rv, fl = .ret rv ∧ Post rv s') E' { s with heap := h₂, toks := t₂ }) :
    codeAny (model K.prog K.w) A (.call (.ref a) ⟨ras, []⟩) (fun r s' => match r with | .ok (.ret v) => Post v s' | .ok _ => False | .error e => E e s') s := by
  obtain ⟨o, ho, hd⟩ := X.ob
  refine codeAny_call_function (fd := fd) (by have := ok.dp; omega) (H.keep _ _ ho X.tb) hd X.co X.gen X.bd ?_ ?_
  · obtain ⟨c, oc, vs, t, e1, e2, e3, e4, e5⟩ := X.code
    exact ⟨c, oc, vs, t, e1, H.keep _ _ e2 e5, e3, e4⟩
  rw [hbind ras hl]
  refine wpAny_pure ?_
  rw [X.clo]
  refine wpAny_newFunctionEnv_cells X.kd ?_ ?_
  · intro x hx
    obtain ⟨x1, x2⟩ := x
    have hm : x1 ∈ ps := (List.of_mem_zip hx).1
    rcases hkind x1 hm with e | e
    · exact .inl e
    · exact .inr ⟨e, cellsFrom_some _ _ _ _ (.inl (mem_of_lookup e))⟩
  intro env he s₂ I
  have he' : env = callEnvC fd s.heap.objs.size a := he
  have hs₂ : ∃ h₂ t₂, s₂ = { s with heap := h₂, toks := t₂ } := by
    obtain ⟨h₂, t₂, e⟩ := I.toInCall.same
    exact ⟨h₂, t₂, e⟩
  obtain ⟨h₂, t₂, rfl⟩ := hs₂
  have keep₂ : ∀ b o, s.heap.get? b = some o → h₂.get? b = some o := I.toInCall.keep
  have H₂ : HRel K ρ hp h₂ := H.grow keep₂
  have S₂ : Step K ρ s.heap ρ h₂ := Step.grow keep₂
  have R₂ := R.step S₂ H
  have hloc : env.locals = s.heap.objs.size := by rw [he']; rfl
  have hkof : ∀ x, env.kindOf x = fd.scope.names.lookup x := by intro x; rw [he']; rfl
  have hcell : env.cells = cellsFrom (s.heap.objs.size + 1) fd.scope.names [] := by rw [he']; rfl
  have hvs : ∀ (k : Nat) (v : V), (vas.map some ++ List.replicate n none)[k]? = some (some v) → vas[k]? = some v := by
    intro k v e
    by_cases hk : k < vas.length
    · rw [List.getElem?_append_left (by simpa using hk), List.getElem?_map] at e
      cases e' : vas[k]? with
      | none => rw [e'] at e; cases e
      | some w => rw [e'] at e; simpa using e
    · rw [List.getElem?_append_right (by simpa using hk), List.getElem?_replicate] at e
      split at e <;> cases e
  have hps : ∀ (x : Str) (k : Nat) (v : V), lk (ps ++ rest) x = some k → vas[k]? = some v → ps[k]? = some x := by
    intro x k v e e'
    have := lk_get e
    have hk : k < ps.length := by rw [← hl, ← R.length]; exact (List.getElem?_eq_some_iff.mp e').1
    rwa [List.getElem?_append_left hk] at this
  have newc : ∀ c, s.heap.objs.size ≤ c → K.New c ∧ Off ρ c := fun c hc => ⟨H.fresh (get?_beyond hc), H.off (get?_beyond hc)⟩
  have F : FRel K env (lk (ps ++ rest)) (vas.map some ++ List.replicate n none) ρ h₂ := by
    refine ⟨by rw [he']; exact X.kd, by rw [he']; exact X.gl, by rw [he']; exact X.bi, ?_, ?_, ?_, ?_, ?_, ?_⟩
    · rw [hloc]; exact (newc _ (Nat.le_refl _)).1
    · rw [hloc]; exact (newc _ (Nat.le_refl _)).2
    · refine ⟨_, I.toInCall.ns, fun x k v hx hl e => ?_⟩
      have e1 := hvs k v e
      obtain ⟨rv, e2, e3⟩ := R₂.get e1
      exact ⟨rv, bindL_get nd (hps x k v hl e1) e2 hx, e3⟩
    · intro x hx
      have hxc : fd.scope.names.lookup x = some .cell := by
        rcases hx with hx | hx
        · rw [← hkof]; exact hx
        · exact absurd (by rw [← hkof]; exact hx) (hfree x)
      have is : (env.cells.lookup x).isSome = true := by rw [hcell]; exact cellsFrom_some _ _ _ _ (.inl (mem_of_lookup hxc))
      obtain ⟨c, hc⟩ := Option.isSome_iff_exists.mp is
      have hab := I.above x c (mem_of_lookup hc)
      rw [hloc] at hab
      obtain ⟨oc, g1, g2⟩ := I.cell x c hc
      refine ⟨c, oc, _, hc, (newc c (Nat.le_of_lt hab)).1, (newc c (Nat.le_of_lt hab)).2, g1, g2, fun k v hl e => ?_⟩
      have e1 := hvs k v e
      obtain ⟨rv, e2, e3⟩ := R₂.get e1
      refine ⟨rv, bindC_get nd (hps x k v hl e1) e2 ?_, e3⟩
      rw [hkof, hxc]; simp
    · intro x y c h1 h2
      exact name_of_addr I.apart (mem_of_lookup h1) (mem_of_lookup h2)
    · intro x y k h1 h2
      have e1 := lk_get h1
      have e2 := lk_get h2
      rw [e1] at e2; cases e2; rfl
  refine ⟨H₂.limOf G, codeAny_func ?_⟩
  have ok' : OkA r (A.deeper env) := ⟨ok.hh, by have := ok.dp; show A.depth + 1 + r < _; omega, by have := ok.un; show A.units + 3 + _ + 200 < _; omega⟩
  have np : ∀ b o, s.heap.get? b = some o → ¬ Place env b := by
    intro b o e
    have hlt := Heap.lt_size e
    rintro (z | ⟨x, _, hc⟩)
    · rw [hloc] at z; exact absurd hlt (by rw [z]; exact Nat.lt_irrefl _)
    · have := I.above x b (mem_of_lookup hc); rw [hloc] at this; exact absurd hlt (Nat.not_lt.mpr (Nat.le_of_lt this))
  rw [he'] at F np ok' ⊢
  refine wpAny_mono (hbody h₂ t₂ _ _ ok' F H₂ S₂ np) ?_ (fun _ _ x => x)
  rintro fl s₃ ⟨rv, rfl, p⟩
  exact p
/-- whatever stands in the code table -/
noncomputable def KX.free (K : KX) : KX := { K with ok := fun _ => True }
theorem HRel.free {K : KX} {ρ : Rho} {hp : List O} {h : Heap} (H : HRel K ρ hp h) : HRel K.free ρ hp h :=
  ⟨H.tbd, H.keep, let ⟨ps, _, e⟩ := H.tab; ⟨ps, trivial, e⟩, H.len, H.nd, H.hi, H.fx, H.lt, fun i o p e q => by
    have := H.ob i o p e q
    cases o <;> exact this⟩
/-- the code table is written -/
theorem HRel.table {K : KX} {ρ : Rho} {hp : List O} {h h' : Heap} {ps : Array Value} (H : HRel K ρ hp h) (hx : Heap.ExtBut K.tb h h') (ht : h'.get? K.tb = some { cls := .none, data := .fields ps }) (hn : K.tb ∉ mu ρ) (hf : ∀ p ∈ ρ, K.tb ∉ p.f) : HRel K.free ρ hp h' := by
  have F := H.free
  refine ⟨H.tbd, fun b o e q => hx b o q (H.keep b o e q), ⟨ps, trivial, ht⟩, H.len, H.nd, H.hi, H.fx, ?_, ?_⟩
  · intro p hp
    have h1 : p.m ≠ K.tb := fun e => hn (e ▸ List.mem_map.mpr ⟨p, hp, rfl⟩)
    refine ⟨let ⟨o, e⟩ := (H.lt p hp).1; ⟨o, hx _ _ h1 e⟩, fun a ha => let ⟨o, e⟩ := (H.lt p hp).2 a ha; ⟨o, hx _ _ (fun q => hf p hp (q ▸ ha)) e⟩⟩
  · intro i o p e q
    have pm := List.mem_of_getElem? q
    refine (F.ob i o p e q).keeps F (fun b ob x y => hx b ob ?_ x) (fun b ob vs n e hq x => ⟨hx b ob ?_ e, x⟩) (List.prefix_refl _)
    · rintro rfl
      rcases y with y | y
      · exact hf p pm y
      · exact hn (y ▸ List.mem_map.mpr ⟨p, pm, rfl⟩)
    · rintro rfl
      exact H.seqTb e hq rfl
end Mine

set_option autoImplicit false
set_option linter.unusedVariables false
set_option maxRecDepth 100000
namespace Mine
open PySem PySem.Spec PySem.Calls PyProof.Rows
section
variable {M : Model} {A : Around} {E : Value → Shared → Prop} {s : Shared} {env : Env}
theorem exec_def {Q : Flow → Shared → Prop} {name : Str} {args : Arguments} {body : List Stmt} {scope : Scope} {pos : Pos} (hd : defaultsOf args env = ([], []))
    (hann : (match args with | ⟨po, a, va, ko, _, kwa, _⟩ => annotationsOf (a ++ po ++ va.toList ++ ko ++ kwa.toList) env) = [])
    (h : wpAny M A (makeFunction name (qualnameIn env name name) args (.stmts body) scope env [] [] [] pos pos.line) (fun f s' => wpAny M A (storeName env name f) (fun _ s'' => Q .next s'') E s') E s) :
    wpAny M A (exec (.FunctionDef name args body [] none [] scope none name pos) env) Q E s := by
  obtain ⟨po, a, va, ko, kd, kwa, df⟩ := args
  rw [arm_exec_FunctionDef]
  unfold defStmt
  rw [hd]
  show wpAny M A (evalAll [] >>= _) Q E s
  refine wpAny_bind (wpAny_pure ?_)
  refine wpAny_bind (wpAny_standAt ?_)
  refine wpAny_bind (wpAny_holding ?_)
  refine wpAny_bind (wpAny_pure ?_)
  refine wpAny_bind (wpAny_holding (wpAny_pure ?_))
  refine wpAny_holding ?_
  show wpAny M A (evalNamed _ >>= _) _ _ _
  dsimp only at hann ⊢
  rw [hann]
  refine wpAny_bind (wpAny_pure ?_)
  refine wpAny_mono h ?_ (fun _ _ x => x)
  intro f s' hf
  refine wpAny_bind (wpAny_pure (wpAny_bind (wpAny_standAt (wpAny_bind (wpAny_bindName ?_)))))
  exact wpAny_mono hf (fun _ _ x => wpAny_pure x) (fun _ _ x => x)
end
end Mine

set_option autoImplicit false
set_option linter.unusedVariables false
set_option maxRecDepth 100000
namespace Mine
open PySem PySem.Spec PySem.Calls PyProof.Rows
theorem Step.table {K : KX} {ρ : Rho} {h h' : Heap} {o : Obj} (hx : Heap.ExtBut K.tb h h') (ht : h'.get? K.tb = some o) : Step K ρ h ρ h' :=
  ⟨List.prefix_refl _, fun _ hp => .inl hp, fun b o e hb _ => hx b o hb e, fun b o' e => by
    by_cases hb : b = K.tb
    · rw [hb]; exact ⟨o, ht⟩
    · exact ⟨o', hx b o' hb e⟩⟩
theorem FRel.free {K : KX} {env : Env} {look : Str → Option Nat} {vs : List (Option V)} {ρ : Rho} {h : Heap} (F : FRel K env look vs ρ h) : FRel K.free env look vs ρ h := ⟨F.kd, F.gl, F.bi, F.lb, F.lo, F.ns, F.cl, F.ci, F.ij⟩
theorem Step.unfree {K : KX} {ρ ρ' : Rho} {h h' : Heap} (S : Step K.free ρ h ρ' h') : Step K ρ h ρ' h' := ⟨S.pre, S.new, S.keep, S.dom⟩
theorem StepS.unfree {K : KX} {env : Env} {ρ ρ' : Rho} {h h' : Heap} (S : StepS K.free env ρ h ρ' h') : StepS K env ρ h ρ' h' := ⟨S.pre, S.new, S.keep, S.dom⟩
/-- what _law_stream wants to stand -/
structure StreamFacts (K : KX) (mg mb : Str → Option Value) (st : Stmt) (a c : Addr) : Prop where
  G : KG K mg mb
  fn : ∃ fd, FnAt K a (fdOf st fd) (fBody st) ∧ fd.defaults = .none ∧ fd.kwdefaults = .none ∧ fd.code = .ref c
  hd : W.CodeHd K.h0 c K.tb
  bl : K.h0.BuiltinsAt mg K.tb
  emp : ∀ ps, K.ok ps → ps = #[]
section
variable {K : KX} {mg mb : Str → Option Value} {r : Nat} {fd : FuncData} {a L : Addr}
theorem w_st0 : SoundS K 0 (callEnvC (fdOf (stAt 11) fd) L a) (lk (([("text" : Str)] : List Str) ++ (["left", "read", "stream"] : List Str))) (((fBody (stAt 11))[0]?).getD (.Pass default)) (sAssign 1 (xComp true 1 (tName 0) (xVar 0) iNil (xVar 0))) := by
  conv => arg 5; whnf
  refine s_assign ?_ ?_ ?_ ?_
  · refine e_compB ["sign"] (m := true) ?_ ?_ ?_ ?_ ?_ ?_
    · refine e_var ?_ ?_ ?_ ?_
      · exact .inl rfl
      all_goals rfl
    · intro _ _; exact tl_name rfl rfl
    · intro _ _; exact i_nil
    · intro _ _
      refine e_var ?_ ?_ ?_ ?_
      · exact .inl rfl
      all_goals rfl
    · rfl
    · exact fun _ => rfl
  · exact .inr rfl
  · rfl
  · rfl
theorem w_st1 : SoundS K 0 (callEnvC (fdOf (stAt 11) fd) L a) (lk (([("text" : Str)] : List Str) ++ (["left", "read", "stream"] : List Str))) (((fBody (stAt 11))[1]?).getD (.Pass default)) (sExpr (xMethL mReverse (xVar 1) lNil)) := by
  conv => arg 5; whnf
  refine s_expr ?_ ?_ ?_
  · refine e_methL (id := "list.reverse") m_reverse ?_ l_nil PySem.F.slot_list_reverse PySem.F.type_list_reverse ?_ ?_ ?_
    · refine e_var ?_ ?_ ?_ ?_
      · exact .inr (.inl rfl)
      all_goals rfl
    all_goals rfl
  · rfl
  · rfl
end
end Mine

set_option autoImplicit false
set_option linter.unusedVariables false
set_option maxRecDepth 100000
namespace Mine
open PySem PySem.Spec PySem.Calls PyProof.Rows
noncomputable def stS (i : Nat) : Stmt := ((fBody (stAt 11))[i]?).getD (.Pass default)
noncomputable def sgn (l : List Nat) : List PyData := l.map fun c => .str ⟨#[c]⟩
inductive PostStream (K : KX) (ρ : Rho) (hp : List O) (s : Shared) (l : List Nat) (rv : Value) (s' : Shared) : Prop
  | mk (ρ' : Rho) (h' : Heap) (t' : Nat) (e : s' = { s with heap := h', toks := t' }) (H : HRel K.free ρ' (hp ++ [.stream l]) h') (S : Step K ρ s.heap ρ' h') (r : VR ρ' h' (.r hp.length) rv)
theorem body_eq : fBody (stAt 11) = [stS 0, stS 1, stS 2, stS 3, stS 4, stS 5] := rfl
theorem x_st0 {l : List Nat} {hp : List O} {QQ : QS} (hz : l.length ≤ 2 ^ 20) (q : QQ .next [some (.d (.str ⟨l.toArray⟩)), some (.r hp.length), none, none] (hp ++ [.lst (sgn l)])) :
    sAssign 1 (xComp true 1 (tName 0) (xVar 0) iNil (xVar 0)) [some (.d (.str ⟨l.toArray⟩)), none, none, none] QQ hp := by
  have e : signsOf ⟨l.toArray⟩ = sgn l := by unfold signsOf sgn; simp
  refine comp1 (m := true) (v := .d (.str ⟨l.toArray⟩)) (xs := signsOf ⟨l.toArray⟩) (fun _ => true) id (fun K k => k) rfl ?_ ?_ ?_ ?_
  · intro x hx l K k; exact k
  · intro x hx _ l K k; exact k
  · rw [e]; unfold sgn; rw [List.length_map, sizeLine_eq]; omega
  · dsimp only
    rw [List.filter_eq_self.mpr (fun _ _ => rfl), List.map_id, e]
    exact q
theorem x_st1 {l : List Nat} {hp : List O} {QQ : QS} (hz : l.length ≤ 2 ^ 20) (q : QQ .next [some (.d (.str ⟨l.toArray⟩)), some (.r hp.length), none, none] (hp ++ [.lst (sgn l).reverse])) :
    sExpr (xMethL mReverse (xVar 1) lNil) [some (.d (.str ⟨l.toArray⟩)), some (.r hp.length), none, none] QQ (hp ++ [.lst (sgn l)]) := by
  simp only [sExpr, xMethL, lNil, xVar, List.getElem?_cons_zero, List.getElem?_cons_succ]
  refine ⟨by rw [lget_last]; rfl, by rw [lget_last]; rfl, ?_⟩
  unfold mReverse
  dsimp only
  refine atL_last ⟨by unfold sgn; rw [List.length_map, sizeLine_eq]; omega, ?_⟩
  rw [set_last]
  exact q
theorem one_more {K : KX} {ρ ρ₁ : Rho} {hp : List O} {o : O} {h : Heap} (H : HRel K ρ₁ (hp ++ [o]) h) (hl : ρ.length = hp.length) (hpre : ρ <+: ρ₁) : ∃ p, ρ₁ = ρ ++ [p] := by
  obtain ⟨t, rfl⟩ := hpre
  have := H.len
  rw [List.length_append, List.length_append, List.length_singleton, hl] at this
  match t, (by omega : t.length = 1) with
  | [p], _ => exact ⟨p, rfl⟩
/-- the list of signs becomes the stream -/
theorem HRel.swap {K : KX} {ρ : Rho} {hp : List O} {h : Heap} {p : P} {o o' : O} {b : Addr} {f : List Addr} (H : HRel K (ρ ++ [p]) (hp ++ [o]) h) (hl : ρ.length = hp.length)
    (hf : ∀ x ∈ f, x ∉ mu (ρ ++ [p]) ∧ K.New x ∧ ∃ ob, h.get? x = some ob) (hob : OR K (ρ ++ [{ a := b, m := p.m, f := f }]) h hp.length { a := b, m := p.m, f := f } o') :
    HRel K (ρ ++ [{ a := b, m := p.m, f := f }]) (hp ++ [o']) h := by
  have em : mu (ρ ++ [({ a := b, m := p.m, f := f } : P)]) = mu (ρ ++ [p]) := by simp [mu]
  refine ⟨H.tbd, H.keep, H.tab, by simp [hl], by rw [em]; exact H.nd, ?_, ?_, ?_, ?_⟩
  · intro q hq
    rcases List.mem_append.mp hq with hq | hq
    · exact H.hi q (List.mem_append.mpr (.inl hq))
    · rw [List.mem_singleton.mp hq]; exact H.hi p (by simp)
  · intro q hq x hx
    rw [em]
    rcases List.mem_append.mp hq with hq | hq
    · exact H.fx q (List.mem_append.mpr (.inl hq)) x hx
    · rw [List.mem_singleton.mp hq] at hx; exact ⟨(hf x hx).1, (hf x hx).2.1⟩
  · intro q hq
    rcases List.mem_append.mp hq with hq | hq
    · exact H.lt q (List.mem_append.mpr (.inl hq))
    · rw [List.mem_singleton.mp hq]; exact ⟨(H.lt p (by simp)).1, fun x hx => (hf x hx).2.2⟩
  · intro i oi q e e'
    by_cases hi : i < hp.length
    · rw [List.getElem?_append_left hi] at e
      rw [List.getElem?_append_left (by omega)] at e'
      have r := H.ob i oi q (get_left e _) (by rw [List.getElem?_append_left (by omega)]; exact e')
      have get' : ∀ {j : Nat} {p' : P}, j < i → (ρ ++ [p])[j]? = some p' → (ρ ++ [({ a := b, m := p.m, f := f } : P)])[j]? = some p' := by
        intro j p' hj e
        rw [List.getElem?_append_left (by omega)] at e ⊢
        exact e
      cases oi with
      | lst l => obtain ⟨a, vs, n, h1, h4⟩ := r; exact ⟨a, vs, n, h1, by rw [em]; exact h4⟩
      | inst c fs =>
        obtain ⟨o, od, m, h1, h2, h3, h4, h5, h7, h8, h9, h10, h11⟩ := r
        refine ⟨o, od, m, h1, h2, h3, h4, h5, h7, h8, h9, ?_, h11⟩
        intro k x hx
        have q' := h10 k x hx
        revert q'
        cases fs.lookup k with
        | none => exact id
        | some v =>
          rintro ⟨⟨rv, q1, q2⟩, q3, q4⟩
          refine ⟨⟨rv, q1, ?_⟩, q3, q4⟩
          cases v with
          | d x => show DR h _ _ _; rw [em]; exact q2
          | r j => obtain ⟨p', e1, e2⟩ := q2; exact ⟨p', get' (q3 j rfl) e1, e2⟩
          | rng a b c => exact q4.elim
          | g v => exact q4.elim
      | stream l =>
        obtain ⟨d, X, f1, f4⟩ := r
        exact ⟨d, X, f1, by rw [em]; exact f4⟩
      | citer c =>
        obtain ⟨e, o, vs, h1, h2, h3, h4⟩ := r
        refine ⟨e, o, vs, h1, h2, h3, ?_⟩
        cases c with
        | none => exact h4
        | some j =>
          obtain ⟨hj, M, t', q', q1, q2, q4, q6⟩ := h4
          exact ⟨hj, M, t', q', q1, q2, q4, get' hj q6⟩
    · have hil : i = hp.length := by
        have := (List.getElem?_eq_some_iff.mp e).1
        simp at this; omega
      subst hil
      rw [List.getElem?_append_right (Nat.le_refl _)] at e
      rw [List.getElem?_append_right (by omega)] at e'
      simp [hl] at e e'
      subst e; subst e'
      exact hob
end Mine

set_option autoImplicit false
set_option linter.unusedVariables false
set_option maxRecDepth 100000
namespace Mine
open PySem PySem.Spec PySem.Calls PyProof.Rows
theorem CodeHd_at {h h' : Heap} {c P : Addr} (x : W.CodeHd h c P) (k : ∀ o, h.get? c = some o → h'.get? c = some o) : W.CodeHd h' c P := by
  obtain ⟨o, vs, file, tf, flags, tg, inF, text, tt, e, r⟩ := x
  exact ⟨o, vs, file, tf, flags, tg, inF, text, tt, k o e, r⟩
theorem BuiltinsAt_at {h h' : Heap} {mg : Str → Option Value} {P : Addr} (x : h.BuiltinsAt mg P) (k : ∀ b o, b ≠ P → h.get? b = some o → h'.get? b = some o) : h'.BuiltinsAt mg P := by
  obtain ⟨bm, o, a, b, c, d, e, r⟩ := x
  exact ⟨bm, o, a, b, c, d, k bm o d e, r⟩
noncomputable def pos2 : Pos := match stS 2 with | .FunctionDef _ _ _ _ _ _ _ _ _ p => p | _ => default
theorem st2_form : stS 2 = .FunctionDef "read" (fArgs (stS 2)) (fBody (stS 2)) [] none [] (fScope (stS 2)) none "read" pos2 := rfl
theorem st3_form : ∃ pn args body scope pl pos, stS 3 = .Assign [.Name "stream" pn] (.Lambda args body scope pl) pos ∧ (∀ env, defaultsOf args env = ([], [])) ∧ scope.names = [] ∧
    (∀ env, swapsWith (.Lambda args body scope pl) (some (.Name "stream" pn)) pos.line env = pure false) ∧ ∀ c' : Addr, PySem.codeAmong pl [rawInt pos2.line, rawInt pos2.col, .ref c'] = none :=
  ⟨_, _, _, _, _, _, rfl, fun _ => rfl, rfl, fun _ => rfl, fun _ => rfl⟩
theorem st4_form : ∃ p1 p2 p3 pos, stS 4 = .Assign [.Attribute (.Name "stream" p1) "read" p2] (.Name "read" p3) pos ∧ ∀ env, swapsWith (.Name "read" p3) (some (.Attribute (.Name "stream" p1) "read" p2)) pos.line env = pure false := ⟨_, _, _, _, rfl, fun _ => rfl⟩
theorem st5_form : ∃ p1 pos, stS 5 = .Return (some (.Name "stream" p1)) pos := ⟨_, _, rfl⟩
noncomputable abbrev KX.okd (K : KX) (o : Array Value → Prop) : KX := { K with ok := o }
theorem HRel.reok {K : KX} {ρ : Rho} {hp : List O} {h : Heap} {ps : Array Value} {o : Array Value → Prop} (H : HRel K ρ hp h) (e : h.get? K.tb = some { cls := .none, data := .fields ps }) (ho : o ps) : HRel (K.okd o) ρ hp h :=
  ⟨H.tbd, H.keep, ⟨ps, ho, e⟩, H.len, H.nd, H.hi, H.fx, H.lt, fun i o p e q => by
    have := H.ob i o p e q
    cases o <;> exact this⟩
theorem FRel.okd {K : KX} {env : Env} {look : Str → Option Nat} {vs : List (Option V)} {ρ : Rho} {h : Heap} {o : Array Value → Prop} (F : FRel K env look vs ρ h) : FRel (K.okd o) env look vs ρ h := ⟨F.kd, F.gl, F.bi, F.lb, F.lo, F.ns, F.cl, F.ci, F.ij⟩
theorem StepS.unokd {K : KX} {env : Env} {ρ ρ' : Rho} {h h' : Heap} {o : Array Value → Prop} (S : StepS (K.okd o) env ρ h ρ' h') : StepS K env ρ h ρ' h' := ⟨S.pre, S.new, S.keep, S.dom⟩
theorem st2_names : (fScope (stS 2)).names.all (fun x => x.2 != .free || x.1 == ("left" : Str)) = true := by decide +kernel
theorem HRel.tbNot {K : KX} {ρ : Rho} {hp : List O} {h : Heap} (H : HRel K ρ hp h) : K.tb ∉ mu ρ ∧ ∀ p ∈ ρ, K.tb ∉ p.f := by
  refine ⟨fun hm => ?_, fun p hp hf => H.newTb (H.fx p hp _ hf).2 rfl⟩
  obtain ⟨p, hp, e⟩ := List.mem_map.mp hm
  exact H.newTb (H.hi p hp) e
theorem stream_call {K : KX} {mg mb : Str → Option Value} {a c : Addr} (SF : StreamFacts K mg mb (stAt 11) a c) (h3 : mainGlobals = 3) (hb0 : builtinsNs = 0)
    (hrp : K.readFd.params = fArgs (stS 2)) (hrb : K.readFd.body = .stmts (fBody (stS 2))) (hrs : K.readFd.scope = fScope (stS 2))
    {A : Around} (ok : OkA 3 A) {ρ : Rho} {hp : List O} {s : Shared} {l : List Nat} {t : Tok} {E : Value → Shared → Prop} (H : HRel K ρ hp s.heap) (hz : l.length ≤ 2 ^ 20) :
    codeAny (model K.prog K.w) A (.call (.ref a) ⟨[.str ⟨l.toArray⟩ t], []⟩) (fun r s' => match r with | .ok (.ret v) => PostStream K ρ hp s l v s' | .ok _ => False | .error e => E e s') s := by
  obtain ⟨fd, X, hd, hk, hcode⟩ := SF.fn
  refine f_go (r := 2) (ps := ([("text" : Str)] : List Str)) (rest := (["left", "read", "stream"] : List Str)) (n := 3) (vas := [.d (.str ⟨l.toArray⟩)]) (Post := PostStream K ρ hp s l) SF.G X ?_ (by decide) (kindsOk rfl) (noFree rfl) ok H (.cons (.str _ _) .nil) rfl ?_
  · intro ras h
    obtain ⟨n1, n2, n3, n4, n5, n6, n7, n8, n9, n10, n11, n12, n13, n14, n15⟩ := fd
    subst hd; subst hk
    match ras, h with
    | [a0], _ => rfl
  intro h₂ t₂ A' E' ok' F H₂ S₂ np
  have ok0 : OkA 0 A' := ok'.le (Nat.zero_le _)
  rw [body_eq]
  -- left = [..]
  refine wpAny_execs_cons (wpAny_mono (w_st0 A' ok0 _ (fun fl vs' hp' => fl = .next ∧ vs' = [some (.d (.str ⟨l.toArray⟩)), some (.r hp.length), none, none] ∧ hp' = hp ++ [.lst (sgn l)]) hp ρ _ E' (x_st0 hz ⟨rfl, rfl, rfl⟩) F H₂) ?_ (fun _ _ x => x))
  rintro fl s₃ ⟨af, vs', hp', ρ₃, g₃, t₃, rfl, ⟨rfl, rfl, rfl⟩, F₃, H₃, S₃, fr⟩
  cases fl <;> first | exact fr.elim | skip
  -- left.reverse()
  refine wpAny_execs_cons (wpAny_mono (w_st1 A' ok0 _ (fun fl vs' hp' => fl = .next ∧ vs' = [some (.d (.str ⟨l.toArray⟩)), some (.r hp.length), none, none] ∧ hp' = hp ++ [.lst (sgn l).reverse]) _ ρ₃ _ E' (x_st1 hz ⟨rfl, rfl, rfl⟩) F₃ H₃) ?_ (fun _ _ x => x))
  rintro fl s₄ ⟨af, vs', hp', ρ₄, g₄, t₄, rfl, ⟨rfl, rfl, rfl⟩, F₄, H₄, S₄, fr⟩
  cases fl <;> first | exact fr.elim | skip
  dsimp only at F₄ H₄ S₄ S₃ ⊢
  have S24 := S₃.trans S₄
  obtain ⟨p, rfl⟩ := one_more H₄ H.len S24.pre
  -- the cell of left
  have kl : (callEnvC (fdOf (stAt 11) fd) s.heap.objs.size a).kindOf "left" = some .cell := rfl
  obtain ⟨cc, oc, ov, c1, c2, c3, c4, c5, c6⟩ := F₄.cl "left" (.inl kl)
  obtain ⟨rv, rfl, pr⟩ := c6 1 (.r hp.length) rfl rfl
  obtain ⟨p', ep, rfl⟩ := pr
  have pe : p' = p := by
    rw [List.getElem?_append_right (by rw [H.len]; exact Nat.le_refl _), H.len, Nat.sub_self] at ep
    simpa using ep.symm
  subst pe
  obtain ⟨pam, vs4, n4, L4, D4⟩ := H₄.ob hp.length (.lst (sgn l).reverse) p' (by simp) ep
  -- the code table
  obtain ⟨ps, okps, tb4⟩ := H₄.tab
  have := SF.emp ps okps
  subst this
  have g34 := H₄.nsOf SF.G.g SF.G.g'
  have hcne : c ≠ K.tb := by obtain ⟨o, vs, file, tf, flags, tg, inF, text, tt, _, _, _, _, _, _, _, _, _, e⟩ := SF.hd; exact e
  have C4 : W.CodeHd g₄ c K.tb := CodeHd_at SF.hd (fun o e => H₄.keep _ _ e hcne)
  have B4 : g₄.BuiltinsAt mg K.tb := BuiltinsAt_at SF.bl (fun b o hb e => H₄.keep _ _ e hb)
  -- def read
  have cn2 : PySem.codeAmong pos2 (#[] : Array Value).toList = none := rfl
  generalize hE : callEnvC (fdOf (stAt 11) fd) s.heap.objs.size a = env at *
  have envg : env.globals = mainGlobals := by rw [← hE, h3]; rfl
  have envc : env.code = .ref c := by rw [← hE]; exact hcode
  have kread : env.kindOf "read" = some .local := by rw [← hE]; rfl
  have kstream : env.kindOf "stream" = some .local := by rw [← hE]; rfl
  have hcl2 : closureFor (fScope (stS 2)) env = pure (clo env.cells (fScope (stS 2)).names []) := by
    refine closureFor_clo (fun x hx hf => ?_)
    have := List.all_eq_true.mp st2_names x hx
    rw [hf] at this
    have e : x.1 = "left" := by simpa using this
    rw [e, c1]; rfl
  rw [st2_form]
  refine wpAny_execs_cons (exec_def rfl rfl (W.makeFunction_K (P := K.tb) (ps := #[]) (mg := mg) hcl2 envg (by rw [h3]; exact g34) envc C4 tb4 trivial cn2 (by rw [h3]; exact SF.G.g') B4 ?_))
  intro c' ctv doc h5 tk hx5 hge5 hlt5 hrec5 htb5
  dsimp only at hx5 hge5 hlt5 ⊢
  generalize hfo : W.fnMade "read" (qualnameIn env "read" "read") (fArgs (stS 2)) (fBody (stS 2)) (fScope (stS 2)) (clo env.cells (fScope (stS 2)).names []) doc ((mg "__name__").getD .none) c' ctv = fo
  have hx6 : Heap.ExtBut K.tb g₄ (h5.push fo) := fun b o hb e => Heap.get?_push_of_some _ (hx5 b o hb e)
  have tb6 : (h5.push fo).get? K.tb = some { cls := .none, data := .fields (#[] ++ #[rawInt pos2.line, rawInt pos2.col, .ref c']) } := Heap.get?_push_of_some _ htb5
  generalize hps1 : (#[] ++ #[rawInt pos2.line, rawInt pos2.col, .ref c'] : Array Value) = ps1 at tb6 htb5
  have H₆ := (H₄.table hx6 tb6 H₄.tbNot.1 H₄.tbNot.2).reok (o := (· = ps1)) tb6 rfl
  have S46 : Step K (ρ ++ [p']) g₄ (ρ ++ [p']) (h5.push fo) := Step.table hx6 tb6
  have F₆ := (F₄.step H₄ S46).okd (o := (· = ps1))
  have R6 : (h5.push fo).get? h5.objs.size = some fo := Heap.get?_push_size _ (by rw [← hfo]; rfl)
  have K6 : K.free.okd (· = ps1) = K.okd (· = ps1) := rfl
  rw [K6] at H₆
  refine wpAny_mono (store_name (K := K.okd (· = ps1)) (k := 2) (v := .g (.ref h5.objs.size)) (s := { s with heap := h5.push fo, toks := tk }) (.inl kread) rfl F₆ H₆ ⟨rfl, trivial⟩) ?_ (fun _ _ x => x)
  rintro _ s7 ⟨h7, t7, rfl, F₇, H₇, S67⟩
  -- stream = lambda: None
  obtain ⟨pn, la, lb, lsc, pl, lpos, f3, ld, lnm, lsw, lcn⟩ := st3_form
  obtain ⟨ps7, rfl, tb7⟩ := H₇.tab
  have C7 : W.CodeHd h7 c K.tb := CodeHd_at SF.hd (fun o e => H₇.keep _ _ e hcne)
  have B7 : h7.BuiltinsAt mg K.tb := BuiltinsAt_at SF.bl (fun b o hb e => H₇.keep _ _ e hb)
  have g37 : h7.Ns 3 mg := by obtain ⟨o, es, ep, e, q⟩ := SF.G.g; exact ⟨o, es, ep, H₇.keep _ _ e SF.G.g', q⟩
  have hcl3 : closureFor lsc env = pure [] := by
    have := closureFor_clo (scope := lsc) (env := env) (fun x hx => by rw [lnm] at hx; cases hx)
    rw [lnm] at this; exact this
  rw [f3]
  refine wpAny_execs_cons (wpAny_Assign_Name (W.kla_eval (ld env) (W.kla_makeFunction (P := K.tb) (ps := ps7) (mg := mg) hcl3 envg (by rw [h3]; exact g37) envc C7 tb7 (by rw [← hps1]; exact trivial) (by rw [← hps1]; exact lcn c') (by rw [h3]; exact SF.G.g') B7 ?_)) (lsw env))
  intro c8 ctv8 h8 tk8 hx8 hge8 hlt8 hrec8 htb8
  dsimp only at hx8 hge8 hlt8 ⊢
  generalize hfl : W.kla_obj "<lambda>" (env.qual ++ "<lambda>") la lb lsc [] ((mg "__name__").getD .none) c8 ctv8 = fl8
  have hx9 : Heap.ExtBut K.tb h7 (h8.push fl8) := fun b o hb e => Heap.get?_push_of_some _ (hx8 b o hb e)
  have tb9 := Heap.get?_push_of_some fl8 htb8
  have H₉ : HRel K.free (ρ ++ [p']) (hp ++ [.lst (sgn l).reverse]) (h8.push fl8) := H₇.table hx9 tb9 H₇.tbNot.1 H₇.tbNot.2
  have S79 : Step K (ρ ++ [p']) h7 (ρ ++ [p']) (h8.push fl8) := Step.table hx9 tb9
  have S79' : Step (K.okd (· = ps7)) (ρ ++ [p']) h7 (ρ ++ [p']) (h8.push fl8) := Step.table hx9 tb9
  have F₉ : FRel K.free env _ _ _ _ := (F₇.step H₇ S79').free
  have L9 : (h8.push fl8).get? h8.objs.size = some fl8 := Heap.get?_push_size _ (by rw [← hfl]; rfl)
  refine wpAny_mono (store_name (K := K.free) (k := 3) (v := .g (.ref h8.objs.size)) (s := { s with heap := h8.push fl8, toks := tk8 }) (.inl kstream) rfl F₉ H₉ ⟨rfl, trivial⟩) ?_ (fun _ _ x => x)
  rintro _ s10 ⟨h10, t10, rfl, F₁₀, H₁₀, S910⟩
  -- the steps so far
  have T7 : StepS K env ρ h₂ (ρ ++ [p']) h7 := (S24.trans S46.toS).trans S67.unokd
  have T10 : StepS K env ρ h₂ (ρ ++ [p']) h10 := (T7.trans S79.toS).trans S910.unfree
  have S45 : Step K (ρ ++ [p']) g₄ (ρ ++ [p']) h5 := Step.table hx5 htb5
  have S78 : Step K (ρ ++ [p']) h7 (ρ ++ [p']) h8 := Step.table hx8 htb8
  have H5 := H₄.table hx5 htb5 H₄.tbNot.1 H₄.tbNot.2
  have H8 : HRel K.free (ρ ++ [p']) (hp ++ [.lst (sgn l).reverse]) h8 := H₇.table hx8 htb8 H₇.tbNot.1 H₇.tbNot.2
  have none5 : h5.get? h5.objs.size = none := get?_beyond (Nat.le_refl _)
  have none8 : h8.get? h8.objs.size = none := get?_beyond (Nat.le_refl _)
  have nonec : g₄.get? c' = none := get?_beyond hge5
  have RN : K.New h5.objs.size := H5.fresh none5
  have RO : Off (ρ ++ [p']) h5.objs.size := H5.off none5
  have FN : K.New h8.objs.size := H8.fresh none8
  have FO : Off (ρ ++ [p']) h8.objs.size := H8.off none8
  have CN : K.New c' := H₄.fresh nonec
  have CO : Off (ρ ++ [p']) c' := H₄.off nonec
  obtain ⟨cx, oc5, cvs5, tt5, hcx, hoc5, hcd5, hcq5⟩ := hrec5
  cases hcx
  -- what stands at h10
  have R7 : h7.get? h5.objs.size = some fo := S67.keep _ _ R6 (H₄.newTb RN) RO.mu (F₆.notPlace R6 (by rw [← hfo]; intro es n q; cases q) (by rw [← hfo]; intro v q; cases q))
  have R10 : h10.get? h5.objs.size = some fo := S910.keep _ _ (hx9 _ _ (H₄.newTb RN) R7) (H₄.newTb RN) RO.mu (F₉.notPlace (hx9 _ _ (H₄.newTb RN) R7) (by rw [← hfo]; intro es n q; cases q) (by rw [← hfo]; intro v q; cases q))
  have L10 : h10.get? h8.objs.size = some fl8 := S910.keep _ _ L9 (H₄.newTb FN) FO.mu (F₉.notPlace L9 (by rw [← hfl]; intro es n q; cases q) (by rw [← hfl]; intro v q; cases q))
  have C6 : (h5.push fo).get? c' = some oc5 := Heap.get?_push_of_some _ hoc5
  have C7' : h7.get? c' = some oc5 := S67.keep _ _ C6 (H₄.newTb CN) CO.mu (F₆.notPlace C6 (by rw [hcd5]; intro es n q; cases q) (by rw [hcd5]; intro v q; cases q))
  have C10 : h10.get? c' = some oc5 := S910.keep _ _ (hx9 _ _ (H₄.newTb CN) C7') (H₄.newTb CN) CO.mu (F₉.notPlace (hx9 _ _ (H₄.newTb CN) C7') (by rw [hcd5]; intro es n q; cases q) (by rw [hcd5]; intro v q; cases q))
  obtain ⟨cc2, oc2, ov2, d1, d2, d3, d4, d5, d6⟩ := F₁₀.cl "left" (.inl kl)
  have ecc : cc2 = cc := by rw [c1] at d1; cases d1; rfl
  subst ecc
  obtain ⟨rv2, rfl, pr2⟩ := d6 1 (.r hp.length) rfl rfl
  obtain ⟨p2, ep2, rfl⟩ := pr2
  have pe2 : p2 = p' := by
    have : (ρ ++ [p'])[hp.length]? = some p' := by rw [← H.len]; simp
    rw [this] at ep2; cases ep2; rfl
  subst pe2
  -- stream.read = read
  obtain ⟨q1, q2, q3, q4, f4, sw4⟩ := st4_form
  obtain ⟨q5, q6, f5⟩ := st5_form
  rw [f4]
  obtain ⟨mm, nn, ff⟩ := F₁₀.ns
  obtain ⟨rvr, er1, er2⟩ := ff "read" 2 (.g (.ref h5.objs.size)) kread rfl rfl
  obtain ⟨rvs, es1, es2⟩ := ff "stream" 3 (.g (.ref h8.objs.size)) kstream rfl rfl
  obtain ⟨rfl, _⟩ := er2
  obtain ⟨rfl, _⟩ := es2
  refine wpAny_execs_cons (plainObj_wpAny_Assign_Attribute (wpAny_Name (wpAny_loadName_local F₁₀.kd kread nn er1 ?_) rfl) (sw4 env))
  refine wpAny_Name (wpAny_loadName_local F₁₀.kd kstream nn es1 ?_) rfl
  refine fn_setAttr (o := fl8) (v := .ref h5.objs.size) L10 (by rw [← hfl]) (by rw [← hfl]) (by rw [← hfl]) ?_
  intro h12 D md tk12 dnone dF dNs dm1 dm2 dkeep
  rw [f5]
  -- the frame's names stand
  have hneL : env.locals ≠ h8.objs.size := by
    intro e
    have := F₁₀.lb
    obtain ⟨o, es, ep, e1, e2, _⟩ := nn
    rw [e, L10] at e1
    cases e1
    rw [← hfl] at e2; cases e2
  have nn12 : h12.Ns env.locals mm := by
    obtain ⟨o, es, ep, e1, e2⟩ := nn
    exact ⟨o, es, ep, dkeep _ _ hneL e1, e2⟩
  refine wpAny_execs_cons (wpAny_Return_some (wpAny_Name (wpAny_loadName_local F₁₀.kd kstream nn12 es1 ?_) rfl))
  refine ⟨_, rfl, ?_⟩
  -- the new objects were not there before
  have nofl : ∀ (vs : Array Value) (n : Nat), fl8.data ≠ .seq vs n := by rw [← hfl]; intro vs n q; cases q
  have hxF : Heap.ExtBut h8.objs.size h10 h12 := fun b o hb e => dkeep b o hb e
  have H₁₂ : HRel K.free (ρ ++ [p2]) (hp ++ [.lst (sgn l).reverse]) h12 := H₁₀.other FN FO hxF (fun o e => by rw [L10] at e; cases e; exact nofl)
  have DN : K.New D := H₁₀.fresh dnone
  have DO : Off (ρ ++ [p2]) D := H₁₀.off dnone
  have ndm := H₄.nd
  have mnew : h₂.get? p2.m = none ∧ ∀ x ∈ p2.f, h₂.get? x = none := by
    rcases S24.new p2 (by simp) with q | q
    · exfalso
      simp only [mu, List.map_append, List.map_cons, List.map_nil] at ndm
      exact (List.nodup_append.mp ndm).2.2 p2.m (List.mem_map.mpr ⟨p2, q, rfl⟩) p2.m (by simp) rfl
    · exact q
  have dom7 : ∀ b o, s.heap.get? b = some o → ∃ o', h7.get? b = some o' := fun b o e => by
    obtain ⟨o', e'⟩ := S₂.dom b o e
    exact T7.dom b o' e'
  have dom8 : ∀ b o, s.heap.get? b = some o → ∃ o', h8.get? b = some o' := fun b o e => by
    obtain ⟨o', e'⟩ := dom7 b o e
    exact S78.dom b o' e'
  have dom10 : ∀ b o, s.heap.get? b = some o → ∃ o', h10.get? b = some o' := fun b o e => by
    obtain ⟨o', e'⟩ := S₂.dom b o e
    exact T10.dom b o' e'
  have dom5 : ∀ b o, s.heap.get? b = some o → ∃ o', h5.get? b = some o' := fun b o e => by
    obtain ⟨o', e'⟩ := S₂.dom b o e
    obtain ⟨o'', e''⟩ := S24.dom b o' e'
    exact S45.dom b o'' e''
  have dom4 : ∀ b o, s.heap.get? b = some o → ∃ o', g₄.get? b = some o' := fun b o e => by
    obtain ⟨o', e'⟩ := S₂.dom b o e
    exact S24.dom b o' e'
  have nF : s.heap.get? h8.objs.size = none := none_of_dom dom8 none8
  have nR : s.heap.get? h5.objs.size = none := none_of_dom dom5 none5
  have nD : s.heap.get? D = none := none_of_dom dom10 dnone
  have nC : s.heap.get? c' = none := none_of_dom dom4 nonec
  have ncc : s.heap.get? cc2 = none := by
    cases e : s.heap.get? cc2 with
    | none => rfl
    | some o => exact absurd (.inr ⟨"left", kl, d1⟩) (np cc2 o e)
  have nm : s.heap.get? p2.m = none := none_of_dom S₂.dom mnew.1
  -- what stands at the end
  have ne1 : h5.objs.size ≠ h8.objs.size := fun e => by rw [e] at R10; rw [R10] at L10; cases L10; rw [← hfo] at hfl; cases hfl
  have R12 : h12.get? h5.objs.size = some fo := dkeep _ _ ne1 R10
  have ne2 : c' ≠ h8.objs.size := fun e => by rw [e, L10] at C10; cases C10; rw [← hfl] at hcd5; cases hcd5
  have C12 : h12.get? c' = some oc5 := dkeep _ _ ne2 C10
  have ne3 : cc2 ≠ h8.objs.size := fun e => by rw [e, L10] at d4; cases d4; rw [← hfl] at d5; cases d5
  have CC12 : h12.get? cc2 = some oc2 := dkeep _ _ ne3 d4
  obtain ⟨od, oes, oep, oD, oDr⟩ := dNs
  have hclo : clo env.cells (fScope (stS 2)).names [] = [(("left" : Str), cc2)] := by
    show [(("left" : Str), (env.cells.lookup ("left" : Str)).getD 0)] = _
    rw [c1]; rfl
  obtain ⟨pam12, vs12, n12, L12, D12⟩ := H₁₂.ob hp.length (.lst (sgn l).reverse) p2 (by simp) (by rw [← H.len]; simp)
  have em : mu (ρ ++ [({ a := h8.objs.size, m := p2.m, f := [h8.objs.size, D, h5.objs.size, cc2, c'] } : P)]) = mu (ρ ++ [p2]) := by simp [mu]
  refine ⟨ρ ++ [{ a := h8.objs.size, m := p2.m, f := [h8.objs.size, D, h5.objs.size, cc2, c'] }], h12, _, rfl, ?_, ?_, ?_⟩
  · refine H₁₂.swap H.len ?_ ?_
    · intro x hx
      simp only [List.mem_cons, List.not_mem_nil, or_false] at hx
      rcases hx with rfl | rfl | rfl | rfl | rfl
      · exact ⟨FO.mu, FN, _, dF⟩
      · exact ⟨DO.mu, DN, _, oD⟩
      · exact ⟨RO.mu, RN, _, R12⟩
      · exact ⟨d3.mu, d2, _, CC12⟩
      · exact ⟨CO.mu, CN, _, C12⟩
    · refine ⟨{ oF := _, fd := _, D := D, od := od, m := md, R := h5.objs.size, oR := fo, rfd := _, c := cc2, oc := oc2, vs := vs12, n := n12, cc := c', oc' := oc5, cvs := cvs5, t := tt5 },
        { a1 := dF, a2 := by rw [← hfl], a3 := rfl, a4 := by rw [← hfl], a5 := by simp, b1 := oD, b3 := ⟨od, oes, oep, oD, oDr⟩, b4 := by simp, b6 := dm1, b7 := dm2,
          c1 := R12, c2 := by rw [← hfo], c3 := by rw [← hfo], c4 := by rw [← hfo], c5 := by simp, c7 := hrp.symm, c8 := hrb.symm, c9 := hrs.symm, c10 := h3, c11 := hclo, c12 := rfl, c13 := rfl, c14 := hb0,
          d1 := rfl, d2 := C12, d3 := hcd5, d4 := hcq5, d5 := by simp, e1 := CC12, e2 := by rw [d5, pam12], e3 := by simp }, L12, ?_⟩
      · rw [em]
        unfold sgn at D12
        rw [← List.map_reverse] at D12
        exact D12
  · refine ⟨List.prefix_append _ _, ?_, ?_, ?_⟩
    · intro q hq
      rcases List.mem_append.mp hq with hq | hq
      · exact .inl hq
      · rw [List.mem_singleton.mp hq]
        refine .inr ⟨nm, fun x hx => ?_⟩
        simp only [List.mem_cons, List.not_mem_nil, or_false] at hx
        rcases hx with rfl | rfl | rfl | rfl | rfl
        · exact nF
        · exact nD
        · exact nR
        · exact ncc
        · exact nC
    · intro b o e hb hm
      have hne : b ≠ h8.objs.size := by rintro rfl; rw [nF] at e; cases e
      exact dkeep b o hne (T10.keep b o (S₂.keep b o e hb hm) hb hm (np b o e))
    · intro b o e
      have hne : b ≠ h8.objs.size := by rintro rfl; rw [nF] at e; cases e
      obtain ⟨o', e'⟩ := dom10 b o e
      exact ⟨o', dkeep b o' hne e'⟩
  · exact ⟨{ a := h8.objs.size, m := p2.m, f := [h8.objs.size, D, h5.objs.size, cc2, c'] }, by rw [← H.len]; simp, rfl⟩
end Mine

set_option autoImplicit false
set_option linter.unusedVariables false
set_option linter.unusedSimpArgs false
set_option maxRecDepth 100000
namespace Mine
open PySem PySem.Spec PySem.Calls PyProof.Rows
noncomputable def lawSt (i : Nat) : Stmt := (fBody (stAt 20)).getD i default
noncomputable def lawNm : List Str := ["script", "numbers", "text", "lexer", "table", "word", "rest", "k", "name", "place"]
theorem law2_form : ∃ p1 p2 p3 p4 p5 p6 pos, lawSt 2 = .Assign [.Name "lexer" p1] (.Call (.Name "_netrclex" p2) [.Call (.Name "_law_stream" p3) [.Name "text" p4] [] p5] [] p6) pos ∧
    (∀ env, swapsWith (.Call (.Name "_netrclex" p2) [.Call (.Name "_law_stream" p3) [.Name "text" p4] [] p5] [] p6) (some (.Name "lexer" p1)) pos.line env = pure false) := ⟨_, _, _, _, _, _, _, rfl, fun _ => rfl⟩
theorem law2_walk {K : KX} {Kf : W.Frag} {mg mb : Str → Option Value} (N : S3 K Kf mg mb) (N1 : S3 K.free Kf mg mb) (SF : StreamFacts K mg mb (stAt 11) 229 228) (hgs : mg "_law_stream" = some (.ref 229)) (h3 : mainGlobals = 3) (hb0 : builtinsNs = 0)
    (hrp : K.readFd.params = fArgs (stS 2)) (hrb : K.readFd.body = .stmts (fBody (stS 2))) (hrs : K.readFd.scope = fScope (stS 2))
    {fd : FuncData} {a L : Addr} {A : Around} (ok : OkA 8 A) {ρ : Rho} {hp : List O} {s : Shared} {E : Value → Shared → Prop} {o0 o1 : Option V} {l : List Nat} (ol : okl l)
    (F : FRel K (callEnvC (fdOf (stAt 20) fd) L a) (lk lawNm) [o0, o1, some (.d (.str (mkS l))), none, none, none, none, none, none, none] ρ s.heap) (H : HRel K ρ hp s.heap) :
    wpAny (model K.prog K.w) A (exec (lawSt 2) (callEnvC (fdOf (stAt 20) fd) L a)) (fun fl s' => fl = .next ∧ ∃ hp' ρ' h' t', s' = { s with heap := h', toks := t' } ∧ hp'.length = hp.length + 2 ∧ Lx hp' (hp.length + 1) hp.length 1 l ∧
      FRel K.free (callEnvC (fdOf (stAt 20) fd) L a) (lk lawNm) [o0, o1, some (.d (.str (mkS l))), some (.r (hp.length + 1)), none, none, none, none, none, none] ρ' h' ∧ HRel K.free ρ' hp' h' ∧ StepS K (callEnvC (fdOf (stAt 20) fd) L a) ρ s.heap ρ' h') E s := by
  obtain ⟨p1, p2, p3, p4, p5, p6, pos, f2, sw⟩ := law2_form
  rw [f2]
  generalize hE : callEnvC (fdOf (stAt 20) fd) L a = env at *
  have k1 : env.kindOf "_netrclex" = some .globalImplicit := by rw [← hE]; rfl
  have k2 : env.kindOf "_law_stream" = some .globalImplicit := by rw [← hE]; rfl
  have k3 : env.kindOf "text" = some .local := by rw [← hE]; rfl
  have k4 : env.kindOf "lexer" = some .local := by rw [← hE]; rfl
  refine wpAny_Assign_Name ?_ (sw env)
  refine wpAny_Call_Name_kw (Calls.Name_function_global F.kd k1 (Calls.loadGlobal_global (mg := mg) ?_ N.g__netrclex ?_) rfl)
  · rw [F.gl]; exact H.nsOf N.G.g N.G.g'
  refine W.callWith_K N.X.inn (cls_k N.c__netrclex) ?_ (se_cons rfl) rfl
  refine spliced_more ?_ (se_cons rfl)
  refine wpAny_Call_Name_kw (Calls.Name_function_global F.kd k2 (Calls.loadGlobal_global (mg := mg) ?_ hgs ?_) rfl)
  · rw [F.gl]; exact H.nsOf N.G.g N.G.g'
  obtain ⟨fds, Xs, _⟩ := SF.fn
  obtain ⟨os, hos, hds⟩ := Xs.ob
  refine callWith_function_kw (o := os) (fd := fdOf (stAt 11) fds) ?_
  have la : SoundL K 8 env (lk lawNm) [.Name "text" p4] (lCons (xVar 2) lNil) := l_c (e_var (.inl k3) rfl rfl rfl) l_nil rfl
  have base := la A ok p5 [o0, o1, some (.d (.str (mkS l))), none, none, none, none, none, none, none] (fun vs h => vs = [.d (.str (mkS l))] ∧ h = hp) hp ρ s E ⟨rfl, rfl⟩ F H
  rw [show backTo p5 (starEach [.Name "text" p4] env) = [(false, (backTo p5 (starEach [.Name "text" p4] env)).head!.2)] from rfl] at *
  refine Calls.evalArgs_plain (wpAny_mono base ?_ (fun _ _ x => x))
  rintro rvs s1 ⟨vl, hp1, ρ1, h1, t1, rfl, ⟨rfl, rfl⟩, H1, S1, R1⟩
  refine ⟨⟨H1.keep _ _ hos Xs.tb, hds⟩, ?_⟩
  cases R1 with
  | cons ra rb =>
    cases rb
    cases ra with
    | str _ tt =>
      have F1 := F.step H S1
      refine wpAny_call ?_
      refine codeAny_mono (stream_call SF h3 hb0 hrp hrb hrs (E := E) (ok.le (by decide)) (s := { s with heap := h1, toks := t1 }) (l := l) (t := tt) H1 ol.1) ?_
      intro r s2 h2
      cases r with
      | error e => exact h2
      | ok fl =>
        cases fl with
        | ret v =>
          obtain ⟨ρ3, h3', t3, rfl, H3, S3', V3⟩ := h2
          dsimp only
          have F3 := (F1.step H1 S3').free
          refine spliced_none ?_
          refine ⟨N1.X.now H3, ?_⟩
          refine wpAny_mono ((S__netrclex N1).call A (ok.le (by decide)) ρ3 (hp1 ++ [.stream l]) { s with heap := h3', toks := t3 } [.r hp1.length] [v] [] (fun v h => v = .r (hp1.length + 1) ∧ h.length = hp1.length + 2 ∧ Lx h (hp1.length + 1) hp1.length 1 l) E rfl ?_ H3 (.cons V3 .nil)) ?_ (fun _ _ x => x)
          · refine c_lexer (is := hp1.length) (l := l) (by simp) ol ?_
            intro hp' e1 _ L'
            simp only [List.length_append, List.length_singleton] at e1 L' ⊢
            exact ⟨trivial, e1, L'⟩
          rintro rv s4 ⟨v4, hp4, ρ4, h4, t4, rfl, ⟨rfl, e4, L4⟩, H4, S4, V4⟩
          have F4 := F3.step H3 S4
          refine wpAny_mono (store_name (K := K.free) (k := 3) (s := { s with heap := h4, toks := t4 }) (.inl k4) rfl F4 H4 V4) ?_ (fun _ _ x => x)
          rintro _ s5 ⟨h5, t5, rfl, F5, H5, S5⟩
          exact ⟨rfl, hp4, ρ4, h5, t5, rfl, e4, L4, F5, H5, (((S1.toS.trans S3'.toS).trans S4.unfree.toS).trans S5.unfree)⟩
        | _ => exact h2
end Mine

set_option autoImplicit false
set_option linter.unusedVariables false
set_option linter.unusedSimpArgs false
set_option maxRecDepth 100000
namespace Mine
open PySem PySem.Spec PySem.Calls PyProof.Rows
theorem writ_ok (nm : List Nat) (x : Int) (h : ∀ c ∈ nm, c < 128) (hz : nm.length ≤ 1000) : (writtenF nm x).length ≤ 3000 ∧ ∀ c ∈ writtenF nm x, c < 128 := by
  have fq : ∀ c, (quoteF c).length ≤ 2 := by intro c; unfold quoteF; split <;> simp
  have fb : ∀ c : Nat, [92, c].length ≤ 2 := by intro c; simp
  have sl : (sepF x).length ≤ 2 ∧ ∀ c ∈ sepF x, c < 128 := by
    unfold sepF
    rcases fmod3 (x.fdiv 20) with h | h | h <;> (rw [h]; decide)
  have l1 := flat_len fq nm
  have l2 := flat_len fb nm
  unfold writtenF
  refine ⟨?_, ?_⟩
  · rw [List.length_append]
    split
    · rw [List.length_append, List.length_cons, List.length_singleton]; omega
    · omega
  · intro c hc
    rcases List.mem_append.mp hc with hc | hc
    · split at hc
      · rcases List.mem_append.mp hc with hc | hc
        · rcases List.mem_cons.mp hc with rfl | hc
          · decide
          · obtain ⟨l, hl, hc⟩ := List.mem_flatten.mp hc
            obtain ⟨d, hd, rfl⟩ := List.mem_map.mp hl
            unfold quoteF at hc
            split at hc
            · have hc' : c = 92 ∨ c = d := by simpa using hc
              rcases hc' with e | e
              · rw [e]; decide
              · rw [e]; exact h _ hd
            · have hc' : c = d := by simpa using hc
              rw [hc']; exact h _ hd
        · rw [List.mem_singleton.mp hc]; decide
      · obtain ⟨l, hl, hc⟩ := List.mem_flatten.mp hc
        obtain ⟨d, hd, rfl⟩ := List.mem_map.mp hl
        have hc' : c = 92 ∨ c = d := by simpa using hc
        rcases hc' with e | e
        · rw [e]; decide
        · rw [e]; exact h _ hd
    · exact sl.2 c hc
theorem text_ok : ∀ (nums : List Int), (textF nums).length ≤ 3000 * nums.length ∧ ∀ c ∈ textF nums, c < 128
  | [] => ⟨Nat.le_refl _, fun c hc => by cases hc⟩
  | x :: nums => by
    obtain ⟨a, b⟩ := text_ok nums
    obtain ⟨t1, t2, t3, _⟩ := told_ok x
    obtain ⟨c, d⟩ := writ_ok (toldC x) x t2 t3
    have e : textF (x :: nums) = writtenF (toldC x) x ++ textF nums := rfl
    rw [e]
    refine ⟨by rw [List.length_append, List.length_cons]; omega, fun y hy => ?_⟩
    rcases List.mem_append.mp hy with hy | hy
    · exact d y hy
    · exact b y hy
noncomputable def numsF (script : List Int) : List Int := [0, 7] ++ script.take 6
theorem x_law0 {script : List Int} {vs : List (Option V)} {QQ : QS} {hp : List O} (hz : script.length ≤ 2 ^ 20) (q : QQ .next (some (.d (.list (iI script))) :: some (.d (.list (iI (numsF script)))) :: vs) hp) :
    p_law0 (some (.d (.list (iI script))) :: none :: vs) QQ hp := by
  have li : ∀ l : List Int, (iI l).length = l.length := fun l => by unfold iI; rw [List.length_map]
  simp only [p_law0, sAssign, xBin, xList, lCons, lNil, cI, datas, xSlice, pNone, pSome, xVar, mkL, List.getElem?_cons_zero, Option.map]
  refine ⟨by show 2 ≤ sizeLine; rw [sizeLine_eq]; decide, ?_⟩
  refine ⟨iI script, rfl, by rw [li, sizeLine_eq]; omega, ?_⟩
  have e6 : psl (iI script) none (some 6) = iI (script.take 6) := by
    have := psl_take (iI script) 6
    rw [show ((6 : Nat) : Int) = 6 from rfl] at this
    rw [this]; unfold iI; rw [List.map_take]
  rw [e6]
  refine ⟨[.int 0, .int 7], iI (script.take 6), rfl, rfl, ?_, ?_⟩
  · rw [li, List.length_take, sizeLine_eq]; show 2 + _ ≤ _; omega
  · exact q
theorem x_law1 {nums : List Int} {o0 : Option V} {vs : List (Option V)} {QQ : QS} {hp : List O} (hN : nums.length ≤ 8) (q : QQ .next (o0 :: some (.d (.list (iI nums))) :: some (.d (.str (mkS (textF nums)))) :: vs) hp) :
    p_law1 (o0 :: some (.d (.list (iI nums))) :: none :: vs) QQ hp := by
  have li : (iI nums).length = nums.length := by unfold iI; rw [List.length_map]
  simp only [p_law1, sAssign, cS, xMethS, lCons, lNil]
  refine comp1 (m := false) (v := .d (.list (iI nums))) (xs := iI nums) (fun _ => true) (fun d => match d with | .int x => .str (mkS (writtenF (toldC x) x)) | _ => .none) (fun K k => k) rfl ?_ ?_ (by rw [li, sizeLine_eq]; omega) ?_
  · intro x hx l K k; exact k
  · intro x hx _ l K k
    obtain ⟨i, _, rfl⟩ := List.mem_map.mp hx
    simp only [xCall, lCons, lNil, xVar, List.getElem?_cons_zero]
    refine c_told ?_
    rw [told_C]
    obtain ⟨t1, t2, t3, _⟩ := told_ok i
    exact c_written t2 t3 k
  · have e : (((iI nums).filter fun _ => true).map fun d => match d with | .int x => PyData.str (mkS (writtenF (toldC x) x)) | _ => .none) = (nums.map fun x => writtenF (toldC x) x).map fun l => .str (mkS l) := by
      rw [List.filter_eq_self.mpr (fun _ _ => rfl)]; unfold iI; rw [List.map_map, List.map_map]; rfl
    dsimp only
    rw [e]
    have := (text_ok nums).1
    exact join_go rfl (by show (textF nums).length ≤ _; omega) q
theorem law_body : fBody (stAt 20) = [lawSt 0, lawSt 1, lawSt 2, lawSt 3, lawSt 4, lawSt 5, lawSt 6, lawSt 7, lawSt 8] := rfl
inductive PostLaw (K : KX) (ρ : Rho) (s : Shared) (rv : Value) (s' : Shared) : Prop
  | mk (hp' : List O) (ρ' : Rho) (h' : Heap) (t' : Nat) (e : s' = { s with heap := h', toks := t' }) (ev : rv = .bool true) (H : HRel K.free ρ' hp' h') (S : Step K ρ s.heap ρ' h')
theorem law_call {K : KX} {Kf : W.Frag} {mg mb : Str → Option Value} (N : S3 K Kf mg mb) (N1 : S3 K.free Kf mg mb) (SF : StreamFacts K mg mb (stAt 11) 229 228) (hgs : mg "_law_stream" = some (.ref 229)) (h3 : mainGlobals = 3) (hb0 : builtinsNs = 0)
    (hrp : K.readFd.params = fArgs (stS 2)) (hrb : K.readFd.body = .stmts (fBody (stS 2))) (hrs : K.readFd.scope = fScope (stS 2)) (X : FnOk K 282 (stAt 20))
    {A : Around} (ok : OkA 9 A) {s : Shared} {script : List Int} {rv : Value} {E : Value → Shared → Prop} (hz : script.length ≤ 2 ^ 20) (H : HRel K [] [] s.heap) (hv : VR [] s.heap (.d (.list (iI script))) rv) :
    codeAny (model K.prog K.w) A (.call (.ref 282) ⟨[rv], []⟩) (fun r s' => match r with | .ok (.ret v) => PostLaw K [] s v s' | .ok _ => False | .error e => E e s') s := by
  obtain ⟨fd, X, hd, hk⟩ := X
  have hN : (numsF script).length ≤ 8 := by unfold numsF; rw [List.length_append, List.length_take]; show 2 + _ ≤ _; omega
  refine f_go (r := 8) (ps := ([("script" : Str)] : List Str)) (rest := (["numbers", "text", "lexer", "table", "word", "rest", "k", "name", "place"] : List Str)) (n := 9) (vas := [.d (.list (iI script))]) (Post := PostLaw K [] s) N.G X ?_ (by decide) (kindsOk rfl) (noFree rfl) ok H (.cons hv .nil) rfl ?_
  · intro ras h
    obtain ⟨n1, n2, n3, n4, n5, n6, n7, n8, n9, n10, n11, n12, n13, n14, n15⟩ := fd
    subst hd; subst hk
    match ras, h with
    | [a0], _ => rfl
  intro h₂ t₂ A' E' ok' F H₂ S₂ np
  rw [law_body]
  refine wpAny_execs_cons (wpAny_mono (w_law0 N fd A' ok' _ (fun fl vs' hp' => fl = .next ∧ vs' = [some (.d (.list (iI script))), some (.d (.list (iI (numsF script)))), none, none, none, none, none, none, none, none] ∧ hp' = []) [] [] _ E' (x_law0 hz ⟨rfl, rfl, rfl⟩) F H₂) ?_ (fun _ _ x => x))
  rintro fl s₃ ⟨af, vs', hp', ρ₃, g₃, t₃, rfl, ⟨rfl, rfl, rfl⟩, F₃, H₃, S₃, fr⟩
  cases fl <;> first | exact fr.elim | skip
  refine wpAny_execs_cons (wpAny_mono (w_law1 N fd A' ok' _ (fun fl vs' hp' => fl = .next ∧ vs' = [some (.d (.list (iI script))), some (.d (.list (iI (numsF script)))), some (.d (.str (mkS (textF (numsF script))))), none, none, none, none, none, none, none] ∧ hp' = []) [] ρ₃ _ E' (x_law1 hN ⟨rfl, rfl, rfl⟩) F₃ H₃) ?_ (fun _ _ x => x))
  rintro fl s₄ ⟨af, vs', hp', ρ₄, g₄, t₄, rfl, ⟨rfl, rfl, rfl⟩, F₄, H₄, S₄, fr⟩
  cases fl <;> first | exact fr.elim | skip
  have ol : okl (textF (numsF script)) := ⟨by have := (text_ok (numsF script)).1; omega, (text_ok (numsF script)).2⟩
  refine wpAny_execs_cons (wpAny_mono (law2_walk N N1 SF hgs h3 hb0 hrp hrb hrs ok' ol F₄ H₄) ?_ (fun _ _ x => x))
  rintro fl s₅ ⟨rfl, hp5, ρ₅, g₅, t₅, rfl, l5, L5, F₅, H₅, S₅⟩
  have tail := ss_cons (w_law3 N1 fd (a := 282) (L := s.heap.objs.size)) (ss_cons (w_law4 N1 fd) (ss_cons (w_law5 N1 fd) (ss_cons (w_law6 N1 fd) (ss_cons (w_law7 N1 fd) (ss_cons (w_law8 N1 fd) ss_nil)))))
  refine wpAny_mono (tail A' ok' [some (.d (.list (iI script))), some (.d (.list (iI (numsF script)))), some (.d (.str (mkS (textF (numsF script))))), some (.r 1), none, none, none, none, none, none] (fun fl vs hp => fl = .ret (.d (.bool true))) hp5 ρ₅ { s with heap := g₅, toks := t₅ } E' (law_tail (by simpa using l5) L5 hN (fun _ _ => rfl)) F₅ H₅) ?_ (fun _ _ x => x)
  rintro fl s₆ ⟨af, vs6, hp6, ρ₆, g₆, t₆, rfl, rfl, F₆, H₆, S₆, fr⟩
  cases fl <;> first | exact fr.elim | skip
  rename_i rv6
  have er : rv6 = .bool true := by cases fr; rfl
  refine ⟨rv6, rfl, hp6, ρ₆, g₆, t₆, rfl, er, H₆, ?_⟩
  have T := ((S₃.trans S₄).trans S₅).trans S₆.unfree
  refine ⟨T.pre, ?_, ?_, ?_⟩
  · intro q hq
    rcases T.new q hq with x | x
    · exact .inl x
    · exact .inr ⟨none_of_dom S₂.dom x.1, fun b hb => none_of_dom S₂.dom (x.2 b hb)⟩
  · intro b o e hb hm
    exact T.keep b o (S₂.keep b o e hb hm) hb hm (np b o e)
  · intro b o e
    obtain ⟨o', e'⟩ := S₂.dom b o e
    exact T.dom b o' e'
end Mine

set_option autoImplicit false
set_option linter.unusedVariables false
set_option maxRecDepth 100000
namespace Mine
open PySem PySem.Spec PySem.Calls PyProof.Rows
noncomputable def readFdK : FuncData := { (default : FuncData) with params := fArgs (stS 2), body := .stmts (fBody (stS 2)), scope := fScope (stS 2) }
noncomputable abbrev KK (prog : Program) (w : World) (h : Heap) : KX := { prog := prog, w := w, h0 := h, tb := 226, tc := 228, ok := (· = #[]), attrs := ["_headers", "lineno", "instream", "whitespace", "pushback"], readChar := 196, streamFn := default, readFd := readFdK }
noncomputable def Kcut (K : W.Frag) : W.Frag := K.filter (fun x => x.1 != 226)
theorem cut_look (K : W.Frag) : ∀ (a : Addr) (o : Obj), (Kcut K).lookup a = some o → K.lookup a = some o ∧ a ≠ 226 := by
  induction K with
  | nil => intro a o h; cases h
  | cons x K ih =>
    intro a o h
    obtain ⟨b, ob⟩ := x
    unfold Kcut at h
    rw [List.filter_cons] at h
    split at h
    · rename_i hb
      rw [List.lookup_cons] at h ⊢
      cases hab : a == b with
      | true =>
        rw [hab] at h
        have : a = b := beq_iff_eq.mp hab
        exact ⟨h, by rw [this]; simpa using hb⟩
      | false => rw [hab] at h; exact ih a o h
    · rename_i hb
      have hb' : b = 226 := by simpa using hb
      obtain ⟨h1, h2⟩ := ih a o h
      refine ⟨?_, h2⟩
      rw [List.lookup_cons]
      have : (a == b) = false := by rw [beq_eq_false_iff_ne, hb']; exact h2
      rw [this]; exact h1
theorem kf_of {prog : Program} {w : World} {h : Heap} {K : W.Frag} (X : K.In h) : KF (KK prog w h) (Kcut K) :=
  ⟨fun a o e => X a o (cut_look K a o e).1, fun a o e => (cut_look K a o e).2⟩
theorem ns_of {K : W.Frag} {h : Heap} {a : Addr} {m : Str → Option Value} {n : Str} {r : Option Value} (X : K.In h) (G : h.Ns a m) (e : W.nsIn K a n = some r) : m n = r := by
  obtain ⟨o, es, ep, ho, hd, _, hf⟩ := G
  unfold W.nsIn at e
  split at e
  · rename_i c d es' n' sl q
    have := X _ _ q
    rw [ho] at this
    cases this
    cases hd
    rw [← hf]
    unfold nsFind findBy
    split at e
    · rename_i en q2
      cases e
      rw [← Array.find?_toList, q2]; rfl
    · rename_i q2
      split at e
      · cases e
      · cases e
        rw [← Array.find?_toList, q2]; rfl
  · cases e
theorem fnok_of {K : W.Frag} {prog : Program} {w : World} {h : Heap} (X : K.In h) {st : Stmt} {a c : Addr} (fd : FuncData) {o oc : Obj} {vs : Array Value} {t : Tok} (ea : K.lookup a = some o) (ed : o.data = .func (fdOf st fd)) (ec : K.lookup c = some oc)
    (ecd : oc.data = .fields vs) (eq : vs[1]? = some (.str fd.qualname t)) (hc : fd.code = .ref c) (n1 : a ≠ 226) (n2 : c ≠ 226) (hd : fd.defaults = .none) (hk : fd.kwdefaults = .none)
    (co : (fScope st).isCoroutine = false) (gen : (fScope st).isGenerator = false) (kd : (fScope st).kind = .function) : FnOk (KK prog w h) a st :=
  ⟨fd, ⟨⟨o, X a o ea, ed⟩, n1, rfl, ⟨c, oc, vs, t, hc, X c oc ec, ecd, eq, n2⟩, rfl, rfl, rfl, co, gen, kd⟩, hd, hk⟩
noncomputable def fnOf (K : W.Frag) (a : Addr) : FuncData := match K.lookup a with | some o => (match o.data with | .func fd => fd | _ => default) | none => default
theorem fnokD_of {K : W.Frag} {prog : Program} {w : World} {h : Heap} (X : K.In h) {st : Stmt} {a c : Addr} (fd : FuncData) {o oc : Obj} {vs : Array Value} {t : Tok} {dv : Value} (ea : K.lookup a = some o) (ed : o.data = .func (fdOf st fd)) (ec : K.lookup c = some oc)
    (ecd : oc.data = .fields vs) (eq : vs[1]? = some (.str fd.qualname t)) (hc : fd.code = .ref c) (n1 : a ≠ 226) (n2 : c ≠ 226) (hd : fd.defaults = dv) (hk : fd.kwdefaults = .none)
    (co : (fScope st).isCoroutine = false) (gen : (fScope st).isGenerator = false) (kd : (fScope st).kind = .function) : FnOkD (KK prog w h) a st dv :=
  ⟨fd, ⟨⟨o, X a o ea, ed⟩, n1, rfl, ⟨c, oc, vs, t, hc, X c oc ec, ecd, eq, n2⟩, rfl, rfl, rfl, co, gen, kd⟩, hd, hk⟩
theorem read_text {prog : Program} {w : World} {h : Heap} : ReadText (KK prog w h) "size" readBody where
  bd := rfl
  form := ⟨_, _, _, _, _, _, _, _, _, _, _, rfl, rfl⟩
  co := rfl
  gen := rfl
  kd := rfl
  nc := by
    have h : (fScope (stS 2)).names.all (fun x => x.2 != .cell) = true := by decide +kernel
    intro x hx
    have := List.all_eq_true.mp h x hx
    intro e; rw [e] at this; cases this
  lf := rfl
  sz := rfl
  bind := by
    intro fd h1 h2 h3 v
    obtain ⟨n1, n2, n3, n4, n5, n6, n7, n8, n9, n10, n11, n12, n13, n14, n15⟩ := fd
    subst h1; subst h2; subst h3
    rfl
theorem well_vr {P : Params} {h : Heap} {a : Addr} {script : List Int} (W : PySem.W.Well P h (.ref a) (PySem.W.ofPy (.list (script.map PyData.int)))) : VR [] h (.d (.list (iI script))) (.ref a) := by
  have key : ∀ (xs : List Int) (vs : List Value), PySem.W.WellAll P h vs (PySem.W.ofPys (xs.map PyData.int)) → DRs h [] vs (iI xs) := by
    intro xs
    induction xs with
    | nil => intro vs w; cases w; exact .nil
    | cons x xs ih =>
      intro vs w
      cases w with
      | cons a b =>
        refine .cons ?_ (ih _ b)
        cases a
        exact .int _ _
  cases W with
  | list e w => exact DR.list (n := 0) e (by simp [mu]) (by simpa using key script _ w)
end Mine

set_option autoImplicit false
set_option linter.unusedVariables false
set_option maxRecDepth 100000
namespace Mine
open PySem PySem.Spec PySem.Calls PyProof.Rows
noncomputable def fragOf {K : W.Frag} {h : Heap} (X : K.In h) : W.Frag := K
theorem okCaller : OkA 9 callerA := ⟨rfl, by decide, by decide⟩
theorem S3.toFree {K : KX} {Kf : W.Frag} {mg mb : Str → Option Value} (N : S3 K Kf mg mb) : S3 K.free Kf mg mb := by
  have fo : ∀ {a : Addr} {st : Stmt}, FnOk K a st → FnOk K.free a st := fun ⟨fd, X, r⟩ => ⟨fd, ⟨X.ob, X.tb, X.bd, X.code, X.clo, X.gl, X.bi, X.co, X.gen, X.kd⟩, r⟩
  have fD : ∀ {a : Addr} {st : Stmt} {v : Value}, FnOkD K a st v → FnOkD K.free a st v := fun ⟨fd, X, r⟩ => ⟨fd, ⟨X.ob, X.tb, X.bd, X.code, X.clo, X.gl, X.bi, X.co, X.gen, X.kd⟩, r⟩
  have rr : ∀ {p : Addr}, ReAt K p → ReAt K.free p := fun R => ⟨R.ob, R.tb⟩
  constructor
  case G => exact ⟨N.G.g, N.G.g', N.G.b, N.G.b', N.G.lim, N.G.lim'⟩
  case X => exact ⟨N.X.inn, N.X.ntb⟩
  case rt => exact ⟨N.rt.bd, N.rt.form, N.rt.co, N.rt.gen, N.rt.kd, N.rt.nc, N.rt.lf, N.rt.sz, N.rt.bind⟩
  case re => exact fun p hp => ⟨rr (N.re p hp).1, (N.re p hp).2⟩
  all_goals first | exact fo (by first | exact N.x__law_small | exact N.x__law_told | exact N.x__law_written | exact N.x__netrclex___init__ | exact N.x_Headers__convert_string_type | exact N.x_Headers_keys | exact N.x__law_due | exact N.x__law_order | exact N.x_replace | exact N.x__law_rest | exact N.x_Headers___delitem__ | exact N.x_Headers___setitem__ | exact N.x__law_store | exact N.x__netrclex__read_char | exact N.x__netrclex_get_token | exact N.x_Headers_items | exact N.x__law_items) | exact fD N.x_Headers___init__ | skip
  all_goals first | exact N.attrs | exact N.rc | exact N.rcm | exact N.rc1 | exact N.rc2 | skip
  case bd_Headers___init__ => exact N.bd_Headers___init__
  all_goals (cases N; assumption)
theorem law3_end {prog : Program} {w : World} {s : Shared} {mg mb : Str → Option Value} {fr : W.Frag} {script : List Int} (X : fr.In s.heap) (N : S3 (KK prog w s.heap) (Kcut fr) mg mb)
    (SF : StreamFacts (KK prog w s.heap) mg mb (stAt 11) 229 228) (hgs : mg "_law_stream" = some (.ref 229)) (FX : FnOk (KK prog w s.heap) 282 (stAt 20)) (H : HRel (KK prog w s.heap) [] [] s.heap)
    (it : isCodeTable s.heap 226) (et : s.heap.get? 226 = some { cls := .none, data := .fields #[] }) (hz : script.length ≤ 2 ^ 20) (hv : VR [] s.heap (.d (.list (iI script))) (.ref 283)) {E : Value → Shared → Prop} :
    wpAny (model prog w) callerA (call (.ref 282) [.ref 283]) (fun v s' => v = .bool true ∧ OldK s.heap s'.heap ∧ s'.os = s.os ∧ s'.gens = s.gens) E s := by
  refine wpAny_call ?_
  refine codeAny_mono (law_call (E := E) N N.toFree SF hgs rfl rfl rfl rfl rfl FX okCaller hz H hv) ?_
  intro r s' h
  cases r with
  | error e => exact h
  | ok fl =>
    cases fl with
    | ret v =>
      obtain ⟨hp', ρ', h', t', rfl, rfl, H', S'⟩ := h
      refine ⟨rfl, ⟨fun b o e => ?_, fun b o e => S'.dom b o e⟩, rfl, rfl⟩
      by_cases hb : b = 226
      · subst hb
        rw [et] at e
        cases e
        obtain ⟨ps, _, e'⟩ := H'.tab
        refine .inr (.inl ⟨it, rfl, #[], ps, rfl, ?_⟩)
        rw [Array.empty_append]
        exact e'
      · exact .inl (S'.keep b o e hb (by simp [mu]))
    | _ => exact h
end Mine

set_option autoImplicit false
set_option linter.unusedVariables false
set_option Elab.async false
set_option maxRecDepth 100000
namespace Mine
open PySem PySem.Spec PySem.W PySem.W.X PyProof.Rows
noncomputable abbrev en (P : Params) (k : Str) (t : Tok) (v : Value) : DictEntry := ⟨PyData.keyHash P k, .str k t, v⟩
noncomputable def fdT (st : Stmt) (fd : FuncData) : FuncData := { fdOf st fd with globals := 0 }
noncomputable def ob0 (P : Params) : Obj := { cls := .type "dict", dict := none, data := .dict #[en P "__name__" 1 (.str "builtins" 160), en P "__doc__" 2 (.builtin "builtins.__doc__:str#opaque"), en P "__package__" 3 (.builtin "builtins.__package__:str#opaque"), en P "__loader__" 4 (.builtin "builtins.__loader__:shared#opaque"), en P "__spec__" 5 (.builtin "builtins.__spec__#opaque"), en P "__build_class__" 6 (.builtin "__build_class__"), en P ⟨⟨[95, 95, 105, 109, 112, 111, 114, 116, 95, 95]⟩⟩ 7 (.builtin "__import__"), en P "abs" 8 (.builtin "abs"), en P "all" 9 (.builtin "all"), en P "any" 10 (.builtin "any"), en P "ascii" 11 (.builtin "ascii"), en P "bin" 12 (.builtin "bin"), en P "breakpoint" 13 (.builtin "breakpoint"), en P "callable" 14 (.builtin "callable"), en P "chr" 15 (.builtin "chr"), en P "compile" 16 (.builtin "compile"), en P "delattr" 17 (.builtin "delattr"), en P "dir" 18 (.builtin "dir"), en P "divmod" 19 (.builtin "divmod"), en P "eval" 20 (.builtin "eval"), en P "exec" 21 (.builtin "exec"), en P "format" 22 (.builtin "format"), en P "getattr" 23 (.builtin "getattr"), en P "globals" 24 (.builtin "globals"), en P "hasattr" 25 (.builtin "hasattr"), en P "hash" 26 (.builtin "hash"), en P "hex" 27 (.builtin "hex"), en P "id" 28 (.builtin "id"), en P "input" 29 (.builtin "input"), en P "isinstance" 30 (.builtin "isinstance"), en P "issubclass" 31 (.builtin "issubclass"), en P "iter" 32 (.builtin "iter"), en P "aiter" 33 (.builtin "aiter"), en P "len" 34 (.builtin "len"), en P "locals" 35 (.builtin "locals"), en P "max" 36 (.builtin "max"), en P "min" 37 (.builtin "min"), en P "next" 38 (.builtin "next"), en P "anext" 39 (.builtin "anext"), en P "oct" 40 (.builtin "oct"), en P "ord" 41 (.builtin "ord"), en P "pow" 42 (.builtin "pow"), en P "print" 43 (.builtin "print"), en P "repr" 44 (.builtin "repr"), en P "round" 45 (.builtin "round"), en P "setattr" 46 (.builtin "setattr"), en P "sorted" 47 (.builtin "sorted"), en P "sum" 48 (.builtin "sum"), en P "vars" 49 (.builtin "vars"), en P "None" 50 (.none), en P "Ellipsis" 51 (.ellipsis), en P "NotImplemented" 52 (.notImplemented), en P "False" 53 (.bool false), en P "True" 54 (.bool true), en P "bool" 55 (.type "bool"), en P "memoryview" 56 (.type "memoryview"), en P "bytearray" 57 (.type "bytearray"), en P "bytes" 58 (.type "bytes"), en P "classmethod" 59 (.type "classmethod"), en P "complex" 60 (.type "complex"), en P "dict" 61 (.type "dict"), en P "enumerate" 62 (.type "enumerate"), en P "filter" 63 (.type "filter"), en P "float" 64 (.type "float"), en P "frozenset" 65 (.type "frozenset"), en P "property" 66 (.type "property"), en P "int" 67 (.type "int"), en P "list" 68 (.type "list"), en P "map" 69 (.type "map"), en P "object" 70 (.type "object"), en P "range" 71 (.type "range"), en P "reversed" 72 (.type "reversed"), en P "set" 73 (.type "set"), en P "slice" 74 (.type "slice"), en P "staticmethod" 75 (.type "staticmethod"), en P "str" 76 (.type "str"), en P "super" 77 (.type "super"), en P "tuple" 78 (.type "tuple"), en P "type" 79 (.type "type"), en P "zip" 80 (.type "zip"), en P "__debug__" 81 (.bool true), en P "BaseException" 82 (.type "BaseException"), en P "BaseExceptionGroup" 83 (.type "BaseExceptionGroup"), en P "Exception" 84 (.type "Exception"), en P "GeneratorExit" 85 (.type "GeneratorExit"), en P "KeyboardInterrupt" 86 (.type "KeyboardInterrupt"), en P "SystemExit" 87 (.type "SystemExit"), en P "ArithmeticError" 88 (.type "ArithmeticError"), en P "AssertionError" 89 (.type "AssertionError"), en P "AttributeError" 90 (.type "AttributeError"), en P "BufferError" 91 (.type "BufferError"), en P "EOFError" 92 (.type "EOFError"), en P "ImportError" 93 (.type "ImportError"), en P "LookupError" 94 (.type "LookupError"), en P "MemoryError" 95 (.type "MemoryError"), en P "NameError" 96 (.type "NameError"), en P "OSError" 97 (.type "OSError"), en P "ReferenceError" 98 (.type "ReferenceError"), en P "RuntimeError" 99 (.type "RuntimeError"), en P "StopAsyncIteration" 100 (.type "StopAsyncIteration"), en P "StopIteration" 101 (.type "StopIteration"), en P "SyntaxError" 102 (.type "SyntaxError"), en P "SystemError" 103 (.type "SystemError"), en P "TypeError" 104 (.type "TypeError"), en P "ValueError" 105 (.type "ValueError"), en P "Warning" 106 (.type "Warning"), en P "FloatingPointError" 107 (.type "FloatingPointError"), en P "OverflowError" 108 (.type "OverflowError"), en P "ZeroDivisionError" 109 (.type "ZeroDivisionError"), en P "BytesWarning" 110 (.type "BytesWarning"), en P "DeprecationWarning" 111 (.type "DeprecationWarning"), en P "EncodingWarning" 112 (.type "EncodingWarning"), en P "FutureWarning" 113 (.type "FutureWarning"), en P "ImportWarning" 114 (.type "ImportWarning"), en P "PendingDeprecationWarning" 115 (.type "PendingDeprecationWarning"), en P "ResourceWarning" 116 (.type "ResourceWarning"), en P "RuntimeWarning" 117 (.type "RuntimeWarning"), en P "SyntaxWarning" 118 (.type "SyntaxWarning"), en P "UnicodeWarning" 119 (.type "UnicodeWarning"), en P "UserWarning" 120 (.type "UserWarning"), en P "BlockingIOError" 121 (.type "BlockingIOError"), en P "ChildProcessError" 122 (.type "ChildProcessError"), en P "ConnectionError" 123 (.type "ConnectionError"), en P "FileExistsError" 124 (.type "FileExistsError"), en P "FileNotFoundError" 125 (.type "FileNotFoundError"), en P "InterruptedError" 126 (.type "InterruptedError"), en P "IsADirectoryError" 127 (.type "IsADirectoryError"), en P "NotADirectoryError" 128 (.type "NotADirectoryError"), en P "PermissionError" 129 (.type "PermissionError"), en P "ProcessLookupError" 130 (.type "ProcessLookupError"), en P "TimeoutError" 131 (.type "TimeoutError"), en P "IndentationError" 132 (.type "IndentationError"), en P "_IncompleteInputError" 133 (.type "_IncompleteInputError"), en P "IndexError" 134 (.type "IndexError"), en P "KeyError" 135 (.type "KeyError"), en P "ModuleNotFoundError" 136 (.type "ModuleNotFoundError"), en P "NotImplementedError" 137 (.type "NotImplementedError"), en P "PythonFinalizationError" 138 (.type "PythonFinalizationError"), en P "RecursionError" 139 (.type "RecursionError"), en P "UnboundLocalError" 140 (.type "UnboundLocalError"), en P "UnicodeError" 141 (.type "UnicodeError"), en P "BrokenPipeError" 142 (.type "BrokenPipeError"), en P "ConnectionAbortedError" 143 (.type "ConnectionAbortedError"), en P "ConnectionRefusedError" 144 (.type "ConnectionRefusedError"), en P "ConnectionResetError" 145 (.type "ConnectionResetError"), en P "TabError" 146 (.type "TabError"), en P "UnicodeDecodeError" 147 (.type "UnicodeDecodeError"), en P "UnicodeEncodeError" 148 (.type "UnicodeEncodeError"), en P "UnicodeTranslateError" 149 (.type "UnicodeTranslateError"), en P "ExceptionGroup" 150 (.type "ExceptionGroup"), en P "EnvironmentError" 151 (.type "OSError"), en P "IOError" 152 (.type "OSError"), en P "open" 153 (.builtin "open"), en P "quit" 154 (.builtin "builtins.quit#opaque"), en P "exit" 155 (.builtin "builtins.exit#opaque"), en P "copyright" 156 (.builtin "builtins.copyright#opaque"), en P "credits" 157 (.builtin "builtins.credits#opaque"), en P "license" 158 (.builtin "builtins.license#opaque"), en P "help" 159 (.builtin "builtins.help#opaque")] 159, slots := #[] }
noncomputable def ob1 (P : Params) : Obj := { cls := .type "dict", dict := none, data := .dict #[en P "builtins" 162 (.ref 4), en P "__main__" 163 (.ref 5), en P "_sre" 244 (.ref 12)] 3, slots := #[] }
noncomputable def ob2 (P : Params) : Obj := { cls := .none, dict := none, data := .dict #[en P ⟨⟨[105, 109, 112, 111, 114, 116, 46, 108, 111, 97, 100, 101, 100, 46, 95, 115, 114, 101]⟩⟩ 183 (.bool true), en P ⟨⟨[99, 108, 97, 115, 115, 46, 95, 102, 114, 111, 122, 101, 110, 95, 105, 109, 112, 111, 114, 116, 108, 105, 98, 46, 66, 117, 105, 108, 116, 105, 110, 73, 109, 112, 111, 114, 116, 101, 114]⟩⟩ 185 (.ref 14), en P ⟨⟨[119, 97, 116, 99, 104, 101, 100, 46, 105, 109, 112, 111, 114, 116]⟩⟩ 206 (.ref 18), en P ⟨⟨[99, 108, 97, 115, 115, 46, 95, 102, 114, 111, 122, 101, 110, 95, 105, 109, 112, 111, 114, 116, 108, 105, 98, 46, 77, 111, 100, 117, 108, 101, 83, 112, 101, 99]⟩⟩ 216 (.ref 22), en P "sys.modules.booked-epoch" 245 (.int 3 0), en P ⟨⟨[105, 109, 112, 111, 114, 116, 46, 108, 97, 116, 101, 114, 45, 108, 97, 105, 100, 46, 95, 115, 114, 101]⟩⟩ 270 (.bool true), en P "watched.library" 272 (.ref 27), en P "watched.library-objects" 0 (.str ⟨⟨[12]⟩⟩ 0), en P "watched.library-deep._sre" 273 (.str ⟨⟨[4, 0, 0, 11, 4, 0, 0, 11, 4, 0, 0, 3, 4, 0, 0, 11, 8, 4, 100, 105, 99, 116, 2]⟩⟩ 0)] 9, slots := #[] }
noncomputable def ob3 (P : Params) : Obj := { cls := .type "dict", dict := none, data := .dict #[en P "__name__" 165 (.str "__main__" 164), en P "__doc__" 166 (.none), en P "__package__" 167 (.none), en P "__loader__" 168 (.builtin "__main__.__loader__#opaque"), en P "__spec__" 169 (.none), en P "__annotations__" 170 (.ref 6), en P "__builtins__" 171 (.ref 4), en P "__file__" 173 (.str "/claim/cut.py" 172), en P "__cached__" 174 (.none), en P "_sre" 275 (.ref 12)] 10, slots := #[] }
noncomputable def ob4 (P : Params) : Obj := { cls := .type "module", dict := some (0), data := .plain, slots := #[] }
noncomputable def ob5 (P : Params) : Obj := { cls := .type "module", dict := some (3), data := .plain, slots := #[] }
noncomputable def ob6 (P : Params) : Obj := { cls := .type "dict", dict := none, data := .dict #[] 0, slots := #[] }
noncomputable def ob7 (P : Params) : Obj := { cls := .type "tuple", dict := none, data := .seq #[] 0, slots := #[] }
noncomputable def ob8 (P : Params) : Obj := { cls := .none, dict := none, data := .fields #[], slots := #[] }
noncomputable def ob9 (P : Params) : Obj := { cls := .type "code", dict := none, data := .fields #[.str "<module>" 176, .str "<module>" 177, .str "/claim/cut.py" 178, .int 1 0, .int 0 0, .int 0 0, .int 0 0, .int 0 0, .ref 7, .bool false, .int 175 0, .ref 8, .none, .none, .none, .none, .int 179 0, .int 1 0, .str "/claim/cut.py" 180], slots := #[] }
noncomputable def ob10 (P : Params) : Obj := { cls := .type "frame", dict := none, data := .plain, slots := #[some (.ref 9), some (.ref 3), some (.ref 3), none, some (.str "__main__" 164), none, some (.ref 0)] }
noncomputable def ob11 (P : Params) : Obj := { cls := .type "dict", dict := none, data := .dict #[en P "__name__" 247 (.str "_sre" 246), en P "__doc__" 248 (.none), en P "__package__" 250 (.str "" 249), en P "__loader__" 251 (.builtin "off-the-table:_sre.__loader__:shared#opaque"), en P "__spec__" 252 (.builtin "off-the-table:_sre.__spec__:shared#opaque"), en P "compile" 253 (.builtin "_sre.compile"), en P "template" 254 (.builtin "off-the-table:_sre.template:shared#opaque"), en P "getcodesize" 255 (.builtin "off-the-table:_sre.getcodesize:shared#opaque"), en P "ascii_iscased" 256 (.builtin "off-the-table:_sre.ascii_iscased:shared#opaque"), en P "unicode_iscased" 257 (.builtin "off-the-table:_sre.unicode_iscased:shared#opaque"), en P "ascii_tolower" 258 (.builtin "off-the-table:_sre.ascii_tolower:shared#opaque"), en P "unicode_tolower" 259 (.builtin "off-the-table:_sre.unicode_tolower:shared#opaque"), en P "MAGIC" 261 (.int 20230612 260), en P "CODESIZE" 263 (.int 4 262), en P "MAXREPEAT" 265 (.int 4294967295 264), en P "MAXGROUPS" 267 (.int 1073741823 266), en P "copyright" 269 (.str " SRE 2.2.2 Copyright (c) 1997-2002 by Secret Labs AB " 268)] 17, slots := #[] }
noncomputable def ob12 (P : Params) : Obj := { cls := .type "module", dict := some (11), data := .plain, slots := #[] }
noncomputable def ob13 (P : Params) : Obj := { cls := .type "dict", dict := none, data := .dict #[en P "__module__" 189 (.str ⟨⟨[95, 102, 114, 111, 122, 101, 110, 95, 105, 109, 112, 111, 114, 116, 108, 105, 98]⟩⟩ 186), en P "__firstlineno__" 190 (.int 971 187), en P "__doc__" 191 (.builtin "_frozen_importlib.BuiltinImporter.__doc__:str#opaque"), en P "_ORIGIN" 192 (.str "built-in" 188), en P "find_spec" 193 (.builtin "_frozen_importlib.BuiltinImporter.find_spec#opaque"), en P "create_module" 194 (.builtin "_frozen_importlib.BuiltinImporter.create_module#opaque"), en P "exec_module" 195 (.builtin "_frozen_importlib.BuiltinImporter.exec_module#opaque"), en P "get_code" 196 (.builtin "_frozen_importlib.BuiltinImporter.get_code#opaque"), en P "get_source" 197 (.builtin "_frozen_importlib.BuiltinImporter.get_source#opaque"), en P "is_package" 198 (.builtin "_frozen_importlib.BuiltinImporter.is_package#opaque"), en P "load_module" 199 (.builtin "_frozen_importlib.BuiltinImporter.load_module#opaque"), en P "__static_attributes__" 200 (.ref 15), en P "__dict__" 202 (.ref 16), en P "__weakref__" 204 (.ref 17)] 14, slots := #[] }
noncomputable def ob14 (P : Params) : Obj := { cls := .type "type", dict := none, data := .cls { name := "BuiltinImporter", bases := [.type "object"], mro := [.ref 14, .type "object"], ns := 13, qualname := "BuiltinImporter", hasDict := true, slotNames := [], subclasses := [], abstract := false, hasDel := false }, slots := #[] }
noncomputable def ob15 (P : Params) : Obj := { cls := .type "tuple", dict := none, data := .seq #[] 0, slots := #[] }
noncomputable def ob16 (P : Params) : Obj := { cls := .type "getset_descriptor", dict := none, data := .fields #[.str "__dict__" 201, .ref 14, .builtin "function.__dict__", .builtin "function.__dict__#set"], slots := #[] }
noncomputable def ob17 (P : Params) : Obj := { cls := .type "getset_descriptor", dict := none, data := .fields #[.str "__weakref__" 203, .ref 14, .builtin "ExceptionGroup.__weakref__", .none], slots := #[] }
noncomputable def ob18 (P : Params) : Obj := { cls := .none, dict := none, data := .seq #[.int 13 0, .str ⟨⟨[6, 189, 10, 95, 95, 109, 111, 100, 117, 108, 101, 95, 95, 6, 186, 17, 95, 102, 114, 111, 122, 101, 110, 95, 105, 109, 112, 111, 114, 116, 108, 105, 98, 6, 190, 15, 95, 95, 102, 105, 114, 115, 116, 108, 105, 110, 101, 110, 111, 95, 95, 4, 187, 0, 971, 6, 191, 7, 95, 95, 100, 111, 99, 95, 95, 9, 52, 95, 102, 114, 111, 122, 101, 110, 95, 105, 109, 112, 111, 114, 116, 108, 105, 98, 46, 66, 117, 105, 108, 116, 105, 110, 73, 109, 112, 111, 114, 116, 101, 114, 46, 95, 95, 100, 111, 99, 95, 95, 58, 115, 116, 114, 35, 111, 112, 97, 113, 117, 101, 6, 192, 7, 95, 79, 82, 73, 71, 73, 78, 6, 188, 8, 98, 117, 105, 108, 116, 45, 105, 110, 6, 193, 9, 102, 105, 110, 100, 95, 115, 112, 101, 99, 9, 50, 95, 102, 114, 111, 122, 101, 110, 95, 105, 109, 112, 111, 114, 116, 108, 105, 98, 46, 66, 117, 105, 108, 116, 105, 110, 73, 109, 112, 111, 114, 116, 101, 114, 46, 102, 105, 110, 100, 95, 115, 112, 101, 99, 35, 111, 112, 97, 113, 117, 101, 6, 194, 13, 99, 114, 101, 97, 116, 101, 95, 109, 111, 100, 117, 108, 101, 9, 54, 95, 102, 114, 111, 122, 101, 110, 95, 105, 109, 112, 111, 114, 116, 108, 105, 98, 46, 66, 117, 105, 108, 116, 105, 110, 73, 109, 112, 111, 114, 116, 101, 114, 46, 99, 114, 101, 97, 116, 101, 95, 109, 111, 100, 117, 108, 101, 35, 111, 112, 97, 113, 117, 101, 6, 195, 11, 101, 120, 101, 99, 95, 109, 111, 100, 117, 108, 101, 9, 52, 95, 102, 114, 111, 122, 101, 110, 95, 105, 109, 112, 111, 114, 116, 108, 105, 98, 46, 66, 117, 105, 108, 116, 105, 110, 73, 109, 112, 111, 114, 116, 101, 114, 46, 101, 120, 101, 99, 95, 109, 111, 100, 117, 108, 101, 35, 111, 112, 97, 113, 117, 101, 6, 196, 8, 103, 101, 116, 95, 99, 111, 100, 101, 9, 49, 95, 102, 114, 111, 122, 101, 110, 95, 105, 109, 112, 111, 114, 116, 108, 105, 98, 46, 66, 117, 105, 108, 116, 105, 110, 73, 109, 112, 111, 114, 116, 101, 114, 46, 103, 101, 116, 95, 99, 111, 100, 101, 35, 111, 112, 97, 113, 117, 101, 6, 197, 10, 103, 101, 116, 95, 115, 111, 117, 114, 99, 101, 9, 51, 95, 102, 114, 111, 122, 101, 110, 95, 105, 109, 112, 111, 114, 116, 108, 105, 98, 46, 66, 117, 105, 108, 116, 105, 110, 73, 109, 112, 111, 114, 116, 101, 114, 46, 103, 101, 116, 95, 115, 111, 117, 114, 99, 101, 35, 111, 112, 97, 113, 117, 101, 6, 198, 10, 105, 115, 95, 112, 97, 99, 107, 97, 103, 101, 9, 51, 95, 102, 114, 111, 122, 101, 110, 95, 105, 109, 112, 111, 114, 116, 108, 105, 98, 46, 66, 117, 105, 108, 116, 105, 110, 73, 109, 112, 111, 114, 116, 101, 114, 46, 105, 115, 95, 112, 97, 99, 107, 97, 103, 101, 35, 111, 112, 97, 113, 117, 101, 6, 199, 11, 108, 111, 97, 100, 95, 109, 111, 100, 117, 108, 101, 9, 52, 95, 102, 114, 111, 122, 101, 110, 95, 105, 109, 112, 111, 114, 116, 108, 105, 98, 46, 66, 117, 105, 108, 116, 105, 110, 73, 109, 112, 111, 114, 116, 101, 114, 46, 108, 111, 97, 100, 95, 109, 111, 100, 117, 108, 101, 35, 111, 112, 97, 113, 117, 101, 6, 200, 21, 95, 95, 115, 116, 97, 116, 105, 99, 95, 97, 116, 116, 114, 105, 98, 117, 116, 101, 115, 95, 95, 4, 0, 0, 15, 6, 202, 8, 95, 95, 100, 105, 99, 116, 95, 95, 4, 0, 0, 16, 6, 204, 11, 95, 95, 119, 101, 97, 107, 114, 101, 102, 95, 95, 4, 0, 0, 17]⟩⟩ 0, .bool true, .bool true, .str "" 205, .int 21 0, .str ⟨⟨[6, 227, 10, 95, 95, 109, 111, 100, 117, 108, 101, 95, 95, 6, 217, 17, 95, 102, 114, 111, 122, 101, 110, 95, 105, 109, 112, 111, 114, 116, 108, 105, 98, 6, 228, 15, 95, 95, 102, 105, 114, 115, 116, 108, 105, 110, 101, 110, 111, 95, 95, 4, 218, 0, 562, 6, 229, 7, 95, 95, 100, 111, 99, 95, 95, 9, 47, 95, 102, 114, 111, 122, 101, 110, 95, 105, 109, 112, 111, 114, 116, 108, 105, 98, 46, 77, 111, 100, 117, 108, 101, 83, 112, 101, 99, 46, 95, 95, 100, 111, 99, 95, 95, 58, 115, 116, 114, 35, 111, 112, 97, 113, 117, 101, 6, 230, 8, 95, 95, 105, 110, 105, 116, 95, 95, 9, 44, 95, 102, 114, 111, 122, 101, 110, 95, 105, 109, 112, 111, 114, 116, 108, 105, 98, 46, 77, 111, 100, 117, 108, 101, 83, 112, 101, 99, 46, 95, 95, 105, 110, 105, 116, 95, 95, 35, 111, 112, 97, 113, 117, 101, 6, 231, 8, 95, 95, 114, 101, 112, 114, 95, 95, 9, 44, 95, 102, 114, 111, 122, 101, 110, 95, 105, 109, 112, 111, 114, 116, 108, 105, 98, 46, 77, 111, 100, 117, 108, 101, 83, 112, 101, 99, 46, 95, 95, 114, 101, 112, 114, 95, 95, 35, 111, 112, 97, 113, 117, 101, 6, 232, 6, 95, 95, 101, 113, 95, 95, 9, 42, 95, 102, 114, 111, 122, 101, 110, 95, 105, 109, 112, 111, 114, 116, 108, 105, 98, 46, 77, 111, 100, 117, 108, 101, 83, 112, 101, 99, 46, 95, 95, 101, 113, 95, 95, 35, 111, 112, 97, 113, 117, 101, 6, 233, 6, 99, 97, 99, 104, 101, 100, 9, 42, 95, 102, 114, 111, 122, 101, 110, 95, 105, 109, 112, 111, 114, 116, 108, 105, 98, 46, 77, 111, 100, 117, 108, 101, 83, 112, 101, 99, 46, 99, 97, 99, 104, 101, 100, 35, 111, 112, 97, 113, 117, 101, 6, 234, 6, 112, 97, 114, 101, 110, 116, 9, 42, 95, 102, 114, 111, 122, 101, 110, 95, 105, 109, 112, 111, 114, 116, 108, 105, 98, 46, 77, 111, 100, 117, 108, 101, 83, 112, 101, 99, 46, 112, 97, 114, 101, 110, 116, 35, 111, 112, 97, 113, 117, 101, 6, 235, 12, 104, 97, 115, 95, 108, 111, 99, 97, 116, 105, 111, 110, 9, 48, 95, 102, 114, 111, 122, 101, 110, 95, 105, 109, 112, 111, 114, 116, 108, 105, 98, 46, 77, 111, 100, 117, 108, 101, 83, 112, 101, 99, 46, 104, 97, 115, 95, 108, 111, 99, 97, 116, 105, 111, 110, 35, 111, 112, 97, 113, 117, 101, 6, 236, 21, 95, 95, 115, 116, 97, 116, 105, 99, 95, 97, 116, 116, 114, 105, 98, 117, 116, 101, 115, 95, 95, 4, 0, 0, 23, 6, 238, 8, 95, 95, 100, 105, 99, 116, 95, 95, 4, 0, 0, 24, 6, 240, 11, 95, 95, 119, 101, 97, 107, 114, 101, 102, 95, 95, 4, 0, 0, 25, 6, 241, 8, 95, 95, 104, 97, 115, 104, 95, 95, 0]⟩⟩ 0, .bool true, .bool true, .str "" 242] 1, slots := #[] }
noncomputable def ob19 (P : Params) : Obj := { cls := .type "list", dict := none, data := .seq #[] 0, slots := #[] }
noncomputable def ob20 (P : Params) : Obj := { cls := .type "dict", dict := none, data := .dict #[en P "name" 208 (.str "_sre" 207), en P "loader" 209 (.ref 14), en P "origin" 210 (.str "built-in" 184), en P "loader_state" 211 (.none), en P "submodule_search_locations" 212 (.none), en P "_uninitialized_submodules" 213 (.ref 19), en P "_set_fileattr" 214 (.bool false), en P "_cached" 215 (.none), en P "_initializing" 243 (.bool false)] 9, slots := #[] }
noncomputable def ob21 (P : Params) : Obj := { cls := .type "dict", dict := none, data := .dict #[en P "__module__" 227 (.str ⟨⟨[95, 102, 114, 111, 122, 101, 110, 95, 105, 109, 112, 111, 114, 116, 108, 105, 98]⟩⟩ 217), en P "__firstlineno__" 228 (.int 562 218), en P "__doc__" 229 (.builtin "_frozen_importlib.ModuleSpec.__doc__:str#opaque"), en P "__init__" 230 (.builtin "_frozen_importlib.ModuleSpec.__init__#opaque"), en P "__repr__" 231 (.builtin "_frozen_importlib.ModuleSpec.__repr__#opaque"), en P "__eq__" 232 (.builtin "_frozen_importlib.ModuleSpec.__eq__#opaque"), en P "cached" 233 (.builtin "_frozen_importlib.ModuleSpec.cached#opaque"), en P "parent" 234 (.builtin "_frozen_importlib.ModuleSpec.parent#opaque"), en P "has_location" 235 (.builtin "_frozen_importlib.ModuleSpec.has_location#opaque"), en P "__static_attributes__" 236 (.ref 23), en P "__dict__" 238 (.ref 24), en P "__weakref__" 240 (.ref 25), en P "__hash__" 241 (.none)] 13, slots := #[] }
noncomputable def ob22 (P : Params) : Obj := { cls := .type "type", dict := none, data := .cls { name := "ModuleSpec", bases := [.type "object"], mro := [.ref 22, .type "object"], ns := 21, qualname := "ModuleSpec", hasDict := true, slotNames := [], subclasses := [], abstract := false, hasDel := false }, slots := #[] }
noncomputable def ob23 (P : Params) : Obj := { cls := .type "tuple", dict := none, data := .seq #[.str "_cached" 219, .str "_set_fileattr" 220, .str "_uninitialized_submodules" 221, .str "loader" 222, .str "loader_state" 223, .str "name" 224, .str "origin" 225, .str "submodule_search_locations" 226] 0, slots := #[] }
noncomputable def ob24 (P : Params) : Obj := { cls := .type "getset_descriptor", dict := none, data := .fields #[.str "__dict__" 237, .ref 22, .builtin "function.__dict__", .builtin "function.__dict__#set"], slots := #[] }
noncomputable def ob25 (P : Params) : Obj := { cls := .type "getset_descriptor", dict := none, data := .fields #[.str "__weakref__" 239, .ref 22, .builtin "ExceptionGroup.__weakref__", .none], slots := #[] }
noncomputable def ob26 (P : Params) : Obj := { cls := .ref 22, dict := some (20), data := .plain, slots := #[] }
noncomputable def ob27 (P : Params) : Obj := { cls := .none, dict := none, data := .seq #[.int 11 0, .str ⟨⟨[6, 247, 8, 95, 95, 110, 97, 109, 101, 95, 95, 6, 246, 4, 95, 115, 114, 101, 6, 248, 7, 95, 95, 100, 111, 99, 95, 95, 0, 6, 250, 11, 95, 95, 112, 97, 99, 107, 97, 103, 101, 95, 95, 6, 249, 0, 6, 251, 10, 95, 95, 108, 111, 97, 100, 101, 114, 95, 95, 4, 0, 0, 14, 6, 252, 8, 95, 95, 115, 112, 101, 99, 95, 95, 4, 0, 0, 26, 6, 253, 7, 99, 111, 109, 112, 105, 108, 101, 9, 12, 95, 115, 114, 101, 46, 99, 111, 109, 112, 105, 108, 101, 6, 254, 8, 116, 101, 109, 112, 108, 97, 116, 101, 9, 13, 95, 115, 114, 101, 46, 116, 101, 109, 112, 108, 97, 116, 101, 6, 255, 11, 103, 101, 116, 99, 111, 100, 101, 115, 105, 122, 101, 9, 16, 95, 115, 114, 101, 46, 103, 101, 116, 99, 111, 100, 101, 115, 105, 122, 101, 6, 256, 13, 97, 115, 99, 105, 105, 95, 105, 115, 99, 97, 115, 101, 100, 9, 18, 95, 115, 114, 101, 46, 97, 115, 99, 105, 105, 95, 105, 115, 99, 97, 115, 101, 100, 6, 257, 15, 117, 110, 105, 99, 111, 100, 101, 95, 105, 115, 99, 97, 115, 101, 100, 9, 20, 95, 115, 114, 101, 46, 117, 110, 105, 99, 111, 100, 101, 95, 105, 115, 99, 97, 115, 101, 100, 6, 258, 13, 97, 115, 99, 105, 105, 95, 116, 111, 108, 111, 119, 101, 114, 9, 18, 95, 115, 114, 101, 46, 97, 115, 99, 105, 105, 95, 116, 111, 108, 111, 119, 101, 114, 6, 259, 15, 117, 110, 105, 99, 111, 100, 101, 95, 116, 111, 108, 111, 119, 101, 114, 9, 20, 95, 115, 114, 101, 46, 117, 110, 105, 99, 111, 100, 101, 95, 116, 111, 108, 111, 119, 101, 114, 6, 261, 5, 77, 65, 71, 73, 67, 4, 260, 0, 20230612, 6, 263, 8, 67, 79, 68, 69, 83, 73, 90, 69, 4, 262, 0, 4, 6, 265, 9, 77, 65, 88, 82, 69, 80, 69, 65, 84, 4, 264, 0, 4294967295, 6, 267, 9, 77, 65, 88, 71, 82, 79, 85, 80, 83, 4, 266, 0, 1073741823, 6, 269, 9, 99, 111, 112, 121, 114, 105, 103, 104, 116, 6, 268, 53, 32, 83, 82, 69, 32, 50, 46, 50, 46, 50, 32, 67, 111, 112, 121, 114, 105, 103, 104, 116, 32, 40, 99, 41, 32, 49, 57, 57, 55, 45, 50, 48, 48, 50, 32, 98, 121, 32, 83, 101, 99, 114, 101, 116, 32, 76, 97, 98, 115, 32, 65, 66, 32]⟩⟩ 0, .bool true, .bool false, .str "_sre" 271] 0, slots := #[] }
noncomputable def obheap_a (P : Params) : Heap := { objs := #[ob0 P, ob1 P, ob2 P, ob3 P, ob4 P, ob5 P, ob6 P, ob7 P, ob8 P, ob9 P, ob10 P, ob11 P, ob12 P, ob13 P, ob14 P, ob15 P, ob16 P, ob17 P, ob18 P, ob19 P, ob20 P, ob21 P, ob22 P, ob23 P, ob24 P, ob25 P, ob26 P, ob27 P], life := { registered := [], finalised := [], alive := [], known := 0, ids := [], orphanDicts := [], counting := false, cnt := #[] } }
noncomputable def ob28 (P : Params) : Obj := { cls := .type "tuple", dict := none, data := .seq #[] 0, slots := #[] }
noncomputable def ob29 (P : Params) : Obj := { cls := .none, dict := none, data := .fields #[], slots := #[] }
noncomputable def ob30 (P : Params) : Obj := { cls := .type "code", dict := none, data := .fields #[.str "<module>" 277, .str "<module>" 278, .str "/claim/cut.py" 279, .int 1 0, .int 0 0, .int 0 0, .int 0 0, .int 0 0, .ref 28, .bool false, .int 276 0, .ref 29, .none, .none, .none, .none, .int 280 0, .int 1 0, .str "/claim/cut.py" 281], slots := #[] }
noncomputable def ob31 (P : Params) : Obj := { cls := .type "frame", dict := none, data := .plain, slots := #[some (.ref 30), some (.ref 3), some (.ref 3), none, some (.str "__main__" 164), none, some (.ref 0)] }
noncomputable def obheap_b (P : Params) : Heap := { objs := #[ob0 P, ob1 P, ob2 P, ob3 P, ob4 P, ob5 P, ob6 P, ob7 P, ob8 P, ob9 P, ob10 P, ob11 P, ob12 P, ob13 P, ob14 P, ob15 P, ob16 P, ob17 P, ob18 P, ob19 P, ob20 P, ob21 P, ob22 P, ob23 P, ob24 P, ob25 P, ob26 P, ob27 P, ob28 P, ob29 P, ob30 P, ob31 P], life := { registered := [], finalised := [], alive := [], known := 0, ids := [], orphanDicts := [], counting := false, cnt := #[] } }
noncomputable def obd33 (P : Params) : Obj := { cls := .type "dict", dict := none, data := .dict #[en P "__name__" 165 (.str "cpy313.wsgiref.headers" 289), en P "__doc__" 166 (.none), en P "__package__" 167 (.none), en P "__loader__" 168 (.builtin "__main__.__loader__#opaque"), en P "__spec__" 169 (.none), en P "__annotations__" 170 (.ref 6), en P "__builtins__" 171 (.ref 4), en P "__file__" 173 (.str "/claim/cut.py" 172), en P "__cached__" 174 (.none), en P "_sre" 275 (.ref 12), en P "_wall" 288 (.ref 38), en P "_name_disallowed_re" 316 (.ref 43), en P "_value_disallowed_re" 350 (.ref 48)] 13, slots := #[] }
noncomputable def obd329 (P : Params) : Obj := { cls := .none, dict := none, data := .fields #[.int 2 0, .int 0 0, .ref 37], slots := #[] }
noncomputable def ob32 (P : Params) : Obj := { cls := .type "tuple", dict := none, data := .seq #[] 0, slots := #[] }
noncomputable def ob33 (P : Params) : Obj := { cls := .none, dict := none, data := .fields #[], slots := #[] }
noncomputable def ob34 (P : Params) : Obj := { cls := .type "tuple", dict := none, data := .seq #[.str "k" 285] 0, slots := #[] }
noncomputable def ob35 (P : Params) : Obj := { cls := .type "tuple", dict := none, data := .seq #[] 0, slots := #[] }
noncomputable def ob36 (P : Params) : Obj := { cls := .none, dict := none, data := .func (fdT (stAt 1) { name := "_wall", qualname := "_wall", params := default, body := .stmts [], scope := default, globals := 3, closure := [], defaults := .none, kwdefaults := .none, doc := .none, pyModule := .none, annotations := none, code := .none, closureTuple := .none, builtins := 0 }), slots := #[] }
noncomputable def ob37 (P : Params) : Obj := { cls := .type "code", dict := none, data := .fields #[.str "_wall" 282, .str "_wall" 283, .str "/claim/cut.py" 284, .int 2 0, .int 1 0, .int 0 0, .int 0 0, .int 3 0, .ref 32, .bool true, .int 276 0, .ref 33, .none, .ref 34, .ref 35, .ref 36, .int 286 0, .int 2 0, .str "/claim/cut.py" 287], slots := #[] }
noncomputable def ob38 (P : Params) : Obj := { cls := .type "function", dict := none, data := .func (fdOf (stAt 1) { name := "_wall", qualname := "_wall", params := default, body := .stmts [], scope := default, globals := 3, closure := [], defaults := .none, kwdefaults := .none, doc := .none, pyModule := .str "__main__" 164, annotations := none, code := .ref 37, closureTuple := .none, builtins := 0 }), slots := #[] }
noncomputable def ob39 (P : Params) : Obj := { cls := .type "list", dict := none, data := .seq #[.int 14 294, .int 10 295, .int 4 296, .int 1 297, .int 1 298, .int 22 299, .int 0 300, .int 31 301, .int 16 302, .int 127 303, .int 0 304, .int 13 305, .int 7 306, .int 22 307, .int 0 308, .int 31 309, .int 16 310, .int 127 311, .int 0 312, .int 1 313] 0, slots := #[] }
noncomputable def ob40 (P : Params) : Obj := { cls := .type "dict", dict := none, data := .dict #[] 0, slots := #[] }
noncomputable def ob41 (P : Params) : Obj := { cls := .type "tuple", dict := none, data := .seq #[.none] 0, slots := #[] }
noncomputable def ob42 (P : Params) : Obj := { cls := .type "tuple", dict := none, data := .seq #[.int 14 0, .int 10 0, .int 4 0, .int 1 0, .int 1 0, .int 22 0, .int 0 0, .int 31 0, .int 16 0, .int 127 0, .int 0 0, .int 13 0, .int 7 0, .int 22 0, .int 0 0, .int 31 0, .int 16 0, .int 127 0, .int 0 0, .int 1 0] 0, slots := #[] }
noncomputable def ob43 (P : Params) : Obj := { cls := .type "re.Pattern", dict := none, data := .fields #[.str "[\\x00-\\x1F\\x7F]" 292, .int 32 315, .int 0 0, .none, .none, .ref 42, .int 0 0], slots := #[] }
noncomputable def ob44 (P : Params) : Obj := { cls := .type "list", dict := none, data := .seq #[.int 14 320, .int 14 321, .int 4 322, .int 1 323, .int 1 324, .int 9 325, .int 4294966783 326, .int 0 327, .int 0 328, .int 2147483648 329, .int 0 330, .int 0 331, .int 0 332, .int 0 333, .int 0 334, .int 13 335, .int 11 336, .int 9 337, .int 4294966783 338, .int 0 339, .int 0 340, .int 2147483648 341, .int 0 342, .int 0 343, .int 0 344, .int 0 345, .int 0 346, .int 1 347] 0, slots := #[] }
noncomputable def ob45 (P : Params) : Obj := { cls := .type "dict", dict := none, data := .dict #[] 0, slots := #[] }
noncomputable def ob46 (P : Params) : Obj := { cls := .type "tuple", dict := none, data := .seq #[.none] 0, slots := #[] }
noncomputable def ob47 (P : Params) : Obj := { cls := .type "tuple", dict := none, data := .seq #[.int 14 0, .int 14 0, .int 4 0, .int 1 0, .int 1 0, .int 9 0, .int 4294966783 0, .int 0 0, .int 0 0, .int 2147483648 0, .int 0 0, .int 0 0, .int 0 0, .int 0 0, .int 0 0, .int 13 0, .int 11 0, .int 9 0, .int 4294966783 0, .int 0 0, .int 0 0, .int 2147483648 0, .int 0 0, .int 0 0, .int 0 0, .int 0 0, .int 0 0, .int 1 0] 0, slots := #[] }
noncomputable def ob48 (P : Params) : Obj := { cls := .type "re.Pattern", dict := none, data := .fields #[.str "[\\x00-\\x08\\x0A-\\x1F\\x7F]" 318, .int 32 349, .int 0 0, .none, .none, .ref 47, .int 0 0], slots := #[] }
noncomputable def obheap_d3 (P : Params) : Heap := { objs := #[ob0 P, ob1 P, ob2 P, obd33 P, ob4 P, ob5 P, ob6 P, ob7 P, ob8 P, ob9 P, ob10 P, ob11 P, ob12 P, ob13 P, ob14 P, ob15 P, ob16 P, ob17 P, ob18 P, ob19 P, ob20 P, ob21 P, ob22 P, ob23 P, ob24 P, ob25 P, ob26 P, ob27 P, ob28 P, obd329 P, ob30 P, ob31 P, ob32 P, ob33 P, ob34 P, ob35 P, ob36 P, ob37 P, ob38 P, ob39 P, ob40 P, ob41 P, ob42 P, ob43 P, ob44 P, ob45 P, ob46 P, ob47 P, ob48 P], life := { registered := [], finalised := [], alive := [], known := 0, ids := [], orphanDicts := [], counting := false, cnt := #[] } }
noncomputable def obd43 (P : Params) : Obj := { cls := .type "dict", dict := none, data := .dict #[en P "__name__" 165 (.str "cpy313.wsgiref.headers" 289), en P "__doc__" 166 (.none), en P "__package__" 167 (.none), en P "__loader__" 168 (.builtin "__main__.__loader__#opaque"), en P "__spec__" 169 (.none), en P "__annotations__" 170 (.ref 6), en P "__builtins__" 171 (.ref 4), en P "__file__" 173 (.str "/claim/cut.py" 172), en P "__cached__" 174 (.none), en P "_sre" 275 (.ref 12), en P "_wall" 288 (.ref 38), en P "_name_disallowed_re" 316 (.ref 43), en P "_value_disallowed_re" 350 (.ref 48), en P "Headers" 506 (.ref 171)] 14, slots := #[] }
noncomputable def obd429 (P : Params) : Obj := { cls := .none, dict := none, data := .fields #[.int 2 0, .int 0 0, .ref 37, .int 8 0, .int 0 0, .ref 54], slots := #[] }
noncomputable def ob49 (P : Params) : Obj := { cls := .type "tuple", dict := none, data := .seq #[] 0, slots := #[] }
noncomputable def ob50 (P : Params) : Obj := { cls := .type "builtin_function_or_method", dict := none, data := .fields #[.builtin "type.__prepare__", .type "type"], slots := #[] }
noncomputable def ob51 (P : Params) : Obj := { cls := .type "dict", dict := none, data := .dict #[en P "__module__" 358 (.str "cpy313.wsgiref.headers" 289), en P "__qualname__" 360 (.str "Headers" 359), en P "__firstlineno__" 362 (.int 8 361), en P "__init__" 372 (.ref 63), en P "_convert_string_type" 382 (.ref 70), en P "__len__" 389 (.ref 77), en P "__setitem__" 398 (.ref 84), en P "__delitem__" 404 (.ref 89), en P "__getitem__" 412 (.ref 96), en P "__contains__" 420 (.ref 103), en P "get_all" 428 (.ref 110), en P "get" 439 (.ref 118), en P "keys" 445 (.ref 123), en P "values" 451 (.ref 128), en P "items" 458 (.ref 135), en P "__repr__" 465 (.ref 142), en P "__str__" 471 (.ref 147), en P "__bytes__" 478 (.ref 154), en P "setdefault" 487 (.ref 161), en P "add_header" 497 (.ref 168), en P "__static_attributes__" 499 (.ref 169)] 21, slots := #[] }
noncomputable def ob52 (P : Params) : Obj := { cls := .type "tuple", dict := none, data := .seq #[] 0, slots := #[] }
noncomputable def ob53 (P : Params) : Obj := { cls := .none, dict := none, data := .fields #[.int 10 0, .int 4 0, .ref 62, .int 20 0, .int 4 0, .ref 69, .int 28 0, .int 4 0, .ref 76, .int 31 0, .int 4 0, .ref 83, .int 35 0, .int 4 0, .ref 88, .int 39 0, .int 4 0, .ref 95, .int 42 0, .int 4 0, .ref 102, .int 45 0, .int 4 0, .ref 109, .int 48 0, .int 4 0, .ref 117, .int 55 0, .int 4 0, .ref 122, .int 58 0, .int 4 0, .ref 127, .int 61 0, .int 4 0, .ref 134, .int 64 0, .int 4 0, .ref 141, .int 67 0, .int 4 0, .ref 146, .int 70 0, .int 4 0, .ref 153, .int 73 0, .int 4 0, .ref 160, .int 76 0, .int 4 0, .ref 167], slots := #[] }
noncomputable def ob54 (P : Params) : Obj := { cls := .type "code", dict := none, data := .fields #[.str "Headers" 353, .str "Headers" 354, .str "/claim/cut.py" 355, .int 8 0, .int 0 0, .int 0 0, .int 0 0, .int 0 0, .ref 52, .bool false, .int 276 0, .ref 53, .none, .none, .none, .none, .int 356 0, .int 8 0, .str "/claim/cut.py" 357], slots := #[] }
noncomputable def ob55 (P : Params) : Obj := { cls := .type "frame", dict := none, data := .plain, slots := #[some (.ref 54), some (.ref 3), some (.ref 51), none, some (.str "cpy313.wsgiref.headers" 289), none, some (.ref 0)] }
noncomputable def ob56 (P : Params) : Obj := { cls := .type "tuple", dict := none, data := .seq #[.none] 0, slots := #[] }
noncomputable def ob57 (P : Params) : Obj := { cls := .type "tuple", dict := none, data := .seq #[] 0, slots := #[] }
noncomputable def ob58 (P : Params) : Obj := { cls := .none, dict := none, data := .fields #[], slots := #[] }
noncomputable def ob59 (P : Params) : Obj := { cls := .type "tuple", dict := none, data := .seq #[.str "self" 366, .str "headers" 367, .str "k" 368, .str "v" 369] 0, slots := #[] }
noncomputable def ob60 (P : Params) : Obj := { cls := .type "tuple", dict := none, data := .seq #[] 0, slots := #[] }
noncomputable def ob61 (P : Params) : Obj := { cls := .none, dict := none, data := .func (fdT (clAt 5 0) { name := "__init__", qualname := "Headers.__init__", params := default, body := .stmts [], scope := default, globals := 3, closure := [], defaults := .none, kwdefaults := .none, doc := .none, pyModule := .none, annotations := none, code := .none, closureTuple := .none, builtins := 0 }), slots := #[] }
noncomputable def ob62 (P : Params) : Obj := { cls := .type "code", dict := none, data := .fields #[.str "__init__" 363, .str "Headers.__init__" 364, .str "/claim/cut.py" 365, .int 10 0, .int 2 0, .int 0 0, .int 0 0, .int 3 0, .ref 57, .bool true, .int 276 0, .ref 58, .none, .ref 59, .ref 60, .ref 61, .int 370 0, .int 10 0, .str "/claim/cut.py" 371], slots := #[] }
noncomputable def ob63 (P : Params) : Obj := { cls := .type "function", dict := none, data := .func (fdOf (clAt 5 0) { name := "__init__", qualname := "Headers.__init__", params := default, body := .stmts [], scope := default, globals := 3, closure := [], defaults := .ref 56, kwdefaults := .none, doc := .none, pyModule := .str "cpy313.wsgiref.headers" 289, annotations := none, code := .ref 62, closureTuple := .none, builtins := 0 }), slots := #[] }
noncomputable def ob64 (P : Params) : Obj := { cls := .type "tuple", dict := none, data := .seq #[] 0, slots := #[] }
noncomputable def ob65 (P : Params) : Obj := { cls := .none, dict := none, data := .fields #[], slots := #[] }
noncomputable def ob66 (P : Params) : Obj := { cls := .type "tuple", dict := none, data := .seq #[.str "self" 376, .str "value" 377, .str "name" 378, .str "regex" 379] 0, slots := #[] }
noncomputable def ob67 (P : Params) : Obj := { cls := .type "tuple", dict := none, data := .seq #[] 0, slots := #[] }
noncomputable def ob68 (P : Params) : Obj := { cls := .none, dict := none, data := .func (fdT (clAt 5 1) { name := "_convert_string_type", qualname := "Headers._convert_string_type", params := default, body := .stmts [], scope := default, globals := 3, closure := [], defaults := .none, kwdefaults := .none, doc := .none, pyModule := .none, annotations := none, code := .none, closureTuple := .none, builtins := 0 }), slots := #[] }
noncomputable def ob69 (P : Params) : Obj := { cls := .type "code", dict := none, data := .fields #[.str "_convert_string_type" 373, .str "Headers._convert_string_type" 374, .str "/claim/cut.py" 375, .int 20 0, .int 2 0, .int 0 0, .int 1 0, .int 3 0, .ref 64, .bool true, .int 276 0, .ref 65, .none, .ref 66, .ref 67, .ref 68, .int 380 0, .int 20 0, .str "/claim/cut.py" 381], slots := #[] }
noncomputable def ob70 (P : Params) : Obj := { cls := .type "function", dict := none, data := .func (fdOf (clAt 5 1) { name := "_convert_string_type", qualname := "Headers._convert_string_type", params := default, body := .stmts [], scope := default, globals := 3, closure := [], defaults := .none, kwdefaults := .none, doc := .none, pyModule := .str "cpy313.wsgiref.headers" 289, annotations := none, code := .ref 69, closureTuple := .none, builtins := 0 }), slots := #[] }
noncomputable def ob71 (P : Params) : Obj := { cls := .type "tuple", dict := none, data := .seq #[] 0, slots := #[] }
noncomputable def ob72 (P : Params) : Obj := { cls := .none, dict := none, data := .fields #[], slots := #[] }
noncomputable def ob73 (P : Params) : Obj := { cls := .type "tuple", dict := none, data := .seq #[.str "self" 386] 0, slots := #[] }
noncomputable def ob74 (P : Params) : Obj := { cls := .type "tuple", dict := none, data := .seq #[] 0, slots := #[] }
noncomputable def ob75 (P : Params) : Obj := { cls := .none, dict := none, data := .func (fdT (clAt 5 2) { name := "__len__", qualname := "Headers.__len__", params := default, body := .stmts [], scope := default, globals := 3, closure := [], defaults := .none, kwdefaults := .none, doc := .none, pyModule := .none, annotations := none, code := .none, closureTuple := .none, builtins := 0 }), slots := #[] }
noncomputable def ob76 (P : Params) : Obj := { cls := .type "code", dict := none, data := .fields #[.str "__len__" 383, .str "Headers.__len__" 384, .str "/claim/cut.py" 385, .int 28 0, .int 1 0, .int 0 0, .int 0 0, .int 3 0, .ref 71, .bool true, .int 276 0, .ref 72, .none, .ref 73, .ref 74, .ref 75, .int 387 0, .int 28 0, .str "/claim/cut.py" 388], slots := #[] }
noncomputable def ob77 (P : Params) : Obj := { cls := .type "function", dict := none, data := .func (fdOf (clAt 5 2) { name := "__len__", qualname := "Headers.__len__", params := default, body := .stmts [], scope := default, globals := 3, closure := [], defaults := .none, kwdefaults := .none, doc := .none, pyModule := .str "cpy313.wsgiref.headers" 289, annotations := none, code := .ref 76, closureTuple := .none, builtins := 0 }), slots := #[] }
noncomputable def ob78 (P : Params) : Obj := { cls := .type "tuple", dict := none, data := .seq #[] 0, slots := #[] }
noncomputable def ob79 (P : Params) : Obj := { cls := .none, dict := none, data := .fields #[], slots := #[] }
noncomputable def ob80 (P : Params) : Obj := { cls := .type "tuple", dict := none, data := .seq #[.str "self" 393, .str "name" 394, .str "val" 395] 0, slots := #[] }
noncomputable def ob81 (P : Params) : Obj := { cls := .type "tuple", dict := none, data := .seq #[] 0, slots := #[] }
noncomputable def ob82 (P : Params) : Obj := { cls := .none, dict := none, data := .func (fdT (clAt 5 3) { name := "__setitem__", qualname := "Headers.__setitem__", params := default, body := .stmts [], scope := default, globals := 3, closure := [], defaults := .none, kwdefaults := .none, doc := .none, pyModule := .none, annotations := none, code := .none, closureTuple := .none, builtins := 0 }), slots := #[] }
noncomputable def ob83 (P : Params) : Obj := { cls := .type "code", dict := none, data := .fields #[.str "__setitem__" 390, .str "Headers.__setitem__" 391, .str "/claim/cut.py" 392, .int 31 0, .int 3 0, .int 0 0, .int 0 0, .int 3 0, .ref 78, .bool true, .int 276 0, .ref 79, .none, .ref 80, .ref 81, .ref 82, .int 396 0, .int 31 0, .str "/claim/cut.py" 397], slots := #[] }
noncomputable def ob84 (P : Params) : Obj := { cls := .type "function", dict := none, data := .func (fdOf (clAt 5 3) { name := "__setitem__", qualname := "Headers.__setitem__", params := default, body := .stmts [], scope := default, globals := 3, closure := [], defaults := .none, kwdefaults := .none, doc := .none, pyModule := .str "cpy313.wsgiref.headers" 289, annotations := none, code := .ref 83, closureTuple := .none, builtins := 0 }), slots := #[] }
noncomputable def ob85 (P : Params) : Obj := { cls := .type "tuple", dict := none, data := .seq #[] 0, slots := #[] }
noncomputable def ob86 (P : Params) : Obj := { cls := .none, dict := none, data := .fields #[], slots := #[] }
noncomputable def ob87 (P : Params) : Obj := { cls := .none, dict := none, data := .func (fdT (clAt 5 4) { name := "__delitem__", qualname := "Headers.__delitem__", params := default, body := .stmts [], scope := default, globals := 3, closure := [], defaults := .none, kwdefaults := .none, doc := .none, pyModule := .none, annotations := none, code := .none, closureTuple := .none, builtins := 0 }), slots := #[] }
noncomputable def ob88 (P : Params) : Obj := { cls := .type "code", dict := none, data := .fields #[.str "__delitem__" 399, .str "Headers.__delitem__" 400, .str "/claim/cut.py" 401, .int 35 0, .int 2 0, .int 0 0, .int 0 0, .int 3 0, .ref 85, .bool true, .int 276 0, .ref 86, .none, .none, .none, .ref 87, .int 402 0, .int 35 0, .str "/claim/cut.py" 403], slots := #[] }
noncomputable def ob89 (P : Params) : Obj := { cls := .type "function", dict := none, data := .func (fdOf (clAt 5 4) { name := "__delitem__", qualname := "Headers.__delitem__", params := default, body := .stmts [], scope := default, globals := 3, closure := [], defaults := .none, kwdefaults := .none, doc := .none, pyModule := .str "cpy313.wsgiref.headers" 289, annotations := none, code := .ref 88, closureTuple := .none, builtins := 0 }), slots := #[] }
noncomputable def ob90 (P : Params) : Obj := { cls := .type "tuple", dict := none, data := .seq #[] 0, slots := #[] }
noncomputable def ob91 (P : Params) : Obj := { cls := .none, dict := none, data := .fields #[], slots := #[] }
noncomputable def ob92 (P : Params) : Obj := { cls := .type "tuple", dict := none, data := .seq #[.str "self" 408, .str "name" 409] 0, slots := #[] }
noncomputable def ob93 (P : Params) : Obj := { cls := .type "tuple", dict := none, data := .seq #[] 0, slots := #[] }
noncomputable def ob94 (P : Params) : Obj := { cls := .none, dict := none, data := .func (fdT (clAt 5 5) { name := "__getitem__", qualname := "Headers.__getitem__", params := default, body := .stmts [], scope := default, globals := 3, closure := [], defaults := .none, kwdefaults := .none, doc := .none, pyModule := .none, annotations := none, code := .none, closureTuple := .none, builtins := 0 }), slots := #[] }
noncomputable def ob95 (P : Params) : Obj := { cls := .type "code", dict := none, data := .fields #[.str "__getitem__" 405, .str "Headers.__getitem__" 406, .str "/claim/cut.py" 407, .int 39 0, .int 2 0, .int 0 0, .int 0 0, .int 3 0, .ref 90, .bool true, .int 276 0, .ref 91, .none, .ref 92, .ref 93, .ref 94, .int 410 0, .int 39 0, .str "/claim/cut.py" 411], slots := #[] }
noncomputable def ob96 (P : Params) : Obj := { cls := .type "function", dict := none, data := .func (fdOf (clAt 5 5) { name := "__getitem__", qualname := "Headers.__getitem__", params := default, body := .stmts [], scope := default, globals := 3, closure := [], defaults := .none, kwdefaults := .none, doc := .none, pyModule := .str "cpy313.wsgiref.headers" 289, annotations := none, code := .ref 95, closureTuple := .none, builtins := 0 }), slots := #[] }
noncomputable def ob97 (P : Params) : Obj := { cls := .type "tuple", dict := none, data := .seq #[] 0, slots := #[] }
noncomputable def ob98 (P : Params) : Obj := { cls := .none, dict := none, data := .fields #[], slots := #[] }
noncomputable def ob99 (P : Params) : Obj := { cls := .type "tuple", dict := none, data := .seq #[.str "self" 416, .str "name" 417] 0, slots := #[] }
noncomputable def ob100 (P : Params) : Obj := { cls := .type "tuple", dict := none, data := .seq #[] 0, slots := #[] }
noncomputable def ob101 (P : Params) : Obj := { cls := .none, dict := none, data := .func (fdT (clAt 5 6) { name := "__contains__", qualname := "Headers.__contains__", params := default, body := .stmts [], scope := default, globals := 3, closure := [], defaults := .none, kwdefaults := .none, doc := .none, pyModule := .none, annotations := none, code := .none, closureTuple := .none, builtins := 0 }), slots := #[] }
noncomputable def ob102 (P : Params) : Obj := { cls := .type "code", dict := none, data := .fields #[.str "__contains__" 413, .str "Headers.__contains__" 414, .str "/claim/cut.py" 415, .int 42 0, .int 2 0, .int 0 0, .int 0 0, .int 3 0, .ref 97, .bool true, .int 276 0, .ref 98, .none, .ref 99, .ref 100, .ref 101, .int 418 0, .int 42 0, .str "/claim/cut.py" 419], slots := #[] }
noncomputable def ob103 (P : Params) : Obj := { cls := .type "function", dict := none, data := .func (fdOf (clAt 5 6) { name := "__contains__", qualname := "Headers.__contains__", params := default, body := .stmts [], scope := default, globals := 3, closure := [], defaults := .none, kwdefaults := .none, doc := .none, pyModule := .str "cpy313.wsgiref.headers" 289, annotations := none, code := .ref 102, closureTuple := .none, builtins := 0 }), slots := #[] }
noncomputable def ob104 (P : Params) : Obj := { cls := .type "tuple", dict := none, data := .seq #[] 0, slots := #[] }
noncomputable def ob105 (P : Params) : Obj := { cls := .none, dict := none, data := .fields #[], slots := #[] }
noncomputable def ob106 (P : Params) : Obj := { cls := .type "tuple", dict := none, data := .seq #[.str "self" 424, .str "name" 425] 0, slots := #[] }
noncomputable def ob107 (P : Params) : Obj := { cls := .type "tuple", dict := none, data := .seq #[] 0, slots := #[] }
noncomputable def ob108 (P : Params) : Obj := { cls := .none, dict := none, data := .func (fdT (clAt 5 7) { name := "get_all", qualname := "Headers.get_all", params := default, body := .stmts [], scope := default, globals := 3, closure := [], defaults := .none, kwdefaults := .none, doc := .none, pyModule := .none, annotations := none, code := .none, closureTuple := .none, builtins := 0 }), slots := #[] }
noncomputable def ob109 (P : Params) : Obj := { cls := .type "code", dict := none, data := .fields #[.str "get_all" 421, .str "Headers.get_all" 422, .str "/claim/cut.py" 423, .int 45 0, .int 2 0, .int 0 0, .int 0 0, .int 3 0, .ref 104, .bool true, .int 276 0, .ref 105, .none, .ref 106, .ref 107, .ref 108, .int 426 0, .int 45 0, .str "/claim/cut.py" 427], slots := #[] }
noncomputable def ob110 (P : Params) : Obj := { cls := .type "function", dict := none, data := .func (fdOf (clAt 5 7) { name := "get_all", qualname := "Headers.get_all", params := default, body := .stmts [], scope := default, globals := 3, closure := [], defaults := .none, kwdefaults := .none, doc := .none, pyModule := .str "cpy313.wsgiref.headers" 289, annotations := none, code := .ref 109, closureTuple := .none, builtins := 0 }), slots := #[] }
noncomputable def ob111 (P : Params) : Obj := { cls := .type "tuple", dict := none, data := .seq #[.none] 0, slots := #[] }
noncomputable def ob112 (P : Params) : Obj := { cls := .type "tuple", dict := none, data := .seq #[] 0, slots := #[] }
noncomputable def ob113 (P : Params) : Obj := { cls := .none, dict := none, data := .fields #[], slots := #[] }
noncomputable def ob114 (P : Params) : Obj := { cls := .type "tuple", dict := none, data := .seq #[.str "self" 432, .str "name" 433, .str "default" 434, .str "k" 435, .str "v" 436] 0, slots := #[] }
noncomputable def ob115 (P : Params) : Obj := { cls := .type "tuple", dict := none, data := .seq #[] 0, slots := #[] }
noncomputable def ob116 (P : Params) : Obj := { cls := .none, dict := none, data := .func (fdT (clAt 5 8) { name := "get", qualname := "Headers.get", params := default, body := .stmts [], scope := default, globals := 3, closure := [], defaults := .none, kwdefaults := .none, doc := .none, pyModule := .none, annotations := none, code := .none, closureTuple := .none, builtins := 0 }), slots := #[] }
noncomputable def ob117 (P : Params) : Obj := { cls := .type "code", dict := none, data := .fields #[.str "get" 429, .str "Headers.get" 430, .str "/claim/cut.py" 431, .int 48 0, .int 3 0, .int 0 0, .int 0 0, .int 3 0, .ref 112, .bool true, .int 276 0, .ref 113, .none, .ref 114, .ref 115, .ref 116, .int 437 0, .int 48 0, .str "/claim/cut.py" 438], slots := #[] }
noncomputable def ob118 (P : Params) : Obj := { cls := .type "function", dict := none, data := .func (fdOf (clAt 5 8) { name := "get", qualname := "Headers.get", params := default, body := .stmts [], scope := default, globals := 3, closure := [], defaults := .ref 111, kwdefaults := .none, doc := .none, pyModule := .str "cpy313.wsgiref.headers" 289, annotations := none, code := .ref 117, closureTuple := .none, builtins := 0 }), slots := #[] }
noncomputable def ob119 (P : Params) : Obj := { cls := .type "tuple", dict := none, data := .seq #[] 0, slots := #[] }
noncomputable def ob120 (P : Params) : Obj := { cls := .none, dict := none, data := .fields #[], slots := #[] }
noncomputable def ob121 (P : Params) : Obj := { cls := .none, dict := none, data := .func (fdT (clAt 5 9) { name := "keys", qualname := "Headers.keys", params := default, body := .stmts [], scope := default, globals := 3, closure := [], defaults := .none, kwdefaults := .none, doc := .none, pyModule := .none, annotations := none, code := .none, closureTuple := .none, builtins := 0 }), slots := #[] }
noncomputable def ob122 (P : Params) : Obj := { cls := .type "code", dict := none, data := .fields #[.str "keys" 440, .str "Headers.keys" 441, .str "/claim/cut.py" 442, .int 55 0, .int 1 0, .int 0 0, .int 0 0, .int 3 0, .ref 119, .bool true, .int 276 0, .ref 120, .none, .none, .none, .ref 121, .int 443 0, .int 55 0, .str "/claim/cut.py" 444], slots := #[] }
noncomputable def ob123 (P : Params) : Obj := { cls := .type "function", dict := none, data := .func (fdOf (clAt 5 9) { name := "keys", qualname := "Headers.keys", params := default, body := .stmts [], scope := default, globals := 3, closure := [], defaults := .none, kwdefaults := .none, doc := .none, pyModule := .str "cpy313.wsgiref.headers" 289, annotations := none, code := .ref 122, closureTuple := .none, builtins := 0 }), slots := #[] }
noncomputable def ob124 (P : Params) : Obj := { cls := .type "tuple", dict := none, data := .seq #[] 0, slots := #[] }
noncomputable def ob125 (P : Params) : Obj := { cls := .none, dict := none, data := .fields #[], slots := #[] }
noncomputable def ob126 (P : Params) : Obj := { cls := .none, dict := none, data := .func (fdT (clAt 5 10) { name := "values", qualname := "Headers.values", params := default, body := .stmts [], scope := default, globals := 3, closure := [], defaults := .none, kwdefaults := .none, doc := .none, pyModule := .none, annotations := none, code := .none, closureTuple := .none, builtins := 0 }), slots := #[] }
noncomputable def ob127 (P : Params) : Obj := { cls := .type "code", dict := none, data := .fields #[.str "values" 446, .str "Headers.values" 447, .str "/claim/cut.py" 448, .int 58 0, .int 1 0, .int 0 0, .int 0 0, .int 3 0, .ref 124, .bool true, .int 276 0, .ref 125, .none, .none, .none, .ref 126, .int 449 0, .int 58 0, .str "/claim/cut.py" 450], slots := #[] }
noncomputable def ob128 (P : Params) : Obj := { cls := .type "function", dict := none, data := .func (fdOf (clAt 5 10) { name := "values", qualname := "Headers.values", params := default, body := .stmts [], scope := default, globals := 3, closure := [], defaults := .none, kwdefaults := .none, doc := .none, pyModule := .str "cpy313.wsgiref.headers" 289, annotations := none, code := .ref 127, closureTuple := .none, builtins := 0 }), slots := #[] }
noncomputable def ob129 (P : Params) : Obj := { cls := .type "tuple", dict := none, data := .seq #[] 0, slots := #[] }
noncomputable def ob130 (P : Params) : Obj := { cls := .none, dict := none, data := .fields #[], slots := #[] }
noncomputable def ob131 (P : Params) : Obj := { cls := .type "tuple", dict := none, data := .seq #[.str "self" 455] 0, slots := #[] }
noncomputable def ob132 (P : Params) : Obj := { cls := .type "tuple", dict := none, data := .seq #[] 0, slots := #[] }
noncomputable def ob133 (P : Params) : Obj := { cls := .none, dict := none, data := .func (fdT (clAt 5 11) { name := "items", qualname := "Headers.items", params := default, body := .stmts [], scope := default, globals := 3, closure := [], defaults := .none, kwdefaults := .none, doc := .none, pyModule := .none, annotations := none, code := .none, closureTuple := .none, builtins := 0 }), slots := #[] }
noncomputable def ob134 (P : Params) : Obj := { cls := .type "code", dict := none, data := .fields #[.str "items" 452, .str "Headers.items" 453, .str "/claim/cut.py" 454, .int 61 0, .int 1 0, .int 0 0, .int 0 0, .int 3 0, .ref 129, .bool true, .int 276 0, .ref 130, .none, .ref 131, .ref 132, .ref 133, .int 456 0, .int 61 0, .str "/claim/cut.py" 457], slots := #[] }
noncomputable def ob135 (P : Params) : Obj := { cls := .type "function", dict := none, data := .func (fdOf (clAt 5 11) { name := "items", qualname := "Headers.items", params := default, body := .stmts [], scope := default, globals := 3, closure := [], defaults := .none, kwdefaults := .none, doc := .none, pyModule := .str "cpy313.wsgiref.headers" 289, annotations := none, code := .ref 134, closureTuple := .none, builtins := 0 }), slots := #[] }
noncomputable def ob136 (P : Params) : Obj := { cls := .type "tuple", dict := none, data := .seq #[] 0, slots := #[] }
noncomputable def ob137 (P : Params) : Obj := { cls := .none, dict := none, data := .fields #[], slots := #[] }
noncomputable def ob138 (P : Params) : Obj := { cls := .type "tuple", dict := none, data := .seq #[.str "self" 462] 0, slots := #[] }
noncomputable def ob139 (P : Params) : Obj := { cls := .type "tuple", dict := none, data := .seq #[] 0, slots := #[] }
noncomputable def ob140 (P : Params) : Obj := { cls := .none, dict := none, data := .func (fdT (clAt 5 12) { name := "__repr__", qualname := "Headers.__repr__", params := default, body := .stmts [], scope := default, globals := 3, closure := [], defaults := .none, kwdefaults := .none, doc := .none, pyModule := .none, annotations := none, code := .none, closureTuple := .none, builtins := 0 }), slots := #[] }
noncomputable def ob141 (P : Params) : Obj := { cls := .type "code", dict := none, data := .fields #[.str "__repr__" 459, .str "Headers.__repr__" 460, .str "/claim/cut.py" 461, .int 64 0, .int 1 0, .int 0 0, .int 0 0, .int 3 0, .ref 136, .bool true, .int 276 0, .ref 137, .none, .ref 138, .ref 139, .ref 140, .int 463 0, .int 64 0, .str "/claim/cut.py" 464], slots := #[] }
noncomputable def ob142 (P : Params) : Obj := { cls := .type "function", dict := none, data := .func (fdOf (clAt 5 12) { name := "__repr__", qualname := "Headers.__repr__", params := default, body := .stmts [], scope := default, globals := 3, closure := [], defaults := .none, kwdefaults := .none, doc := .none, pyModule := .str "cpy313.wsgiref.headers" 289, annotations := none, code := .ref 141, closureTuple := .none, builtins := 0 }), slots := #[] }
noncomputable def ob143 (P : Params) : Obj := { cls := .type "tuple", dict := none, data := .seq #[] 0, slots := #[] }
noncomputable def ob144 (P : Params) : Obj := { cls := .none, dict := none, data := .fields #[], slots := #[] }
noncomputable def ob145 (P : Params) : Obj := { cls := .none, dict := none, data := .func (fdT (clAt 5 13) { name := "__str__", qualname := "Headers.__str__", params := default, body := .stmts [], scope := default, globals := 3, closure := [], defaults := .none, kwdefaults := .none, doc := .none, pyModule := .none, annotations := none, code := .none, closureTuple := .none, builtins := 0 }), slots := #[] }
noncomputable def ob146 (P : Params) : Obj := { cls := .type "code", dict := none, data := .fields #[.str "__str__" 466, .str "Headers.__str__" 467, .str "/claim/cut.py" 468, .int 67 0, .int 1 0, .int 0 0, .int 0 0, .int 3 0, .ref 143, .bool true, .int 276 0, .ref 144, .none, .none, .none, .ref 145, .int 469 0, .int 67 0, .str "/claim/cut.py" 470], slots := #[] }
noncomputable def ob147 (P : Params) : Obj := { cls := .type "function", dict := none, data := .func (fdOf (clAt 5 13) { name := "__str__", qualname := "Headers.__str__", params := default, body := .stmts [], scope := default, globals := 3, closure := [], defaults := .none, kwdefaults := .none, doc := .none, pyModule := .str "cpy313.wsgiref.headers" 289, annotations := none, code := .ref 146, closureTuple := .none, builtins := 0 }), slots := #[] }
noncomputable def ob148 (P : Params) : Obj := { cls := .type "tuple", dict := none, data := .seq #[] 0, slots := #[] }
noncomputable def ob149 (P : Params) : Obj := { cls := .none, dict := none, data := .fields #[], slots := #[] }
noncomputable def ob150 (P : Params) : Obj := { cls := .type "tuple", dict := none, data := .seq #[.str "self" 475] 0, slots := #[] }
noncomputable def ob151 (P : Params) : Obj := { cls := .type "tuple", dict := none, data := .seq #[] 0, slots := #[] }
noncomputable def ob152 (P : Params) : Obj := { cls := .none, dict := none, data := .func (fdT (clAt 5 14) { name := "__bytes__", qualname := "Headers.__bytes__", params := default, body := .stmts [], scope := default, globals := 3, closure := [], defaults := .none, kwdefaults := .none, doc := .none, pyModule := .none, annotations := none, code := .none, closureTuple := .none, builtins := 0 }), slots := #[] }
noncomputable def ob153 (P : Params) : Obj := { cls := .type "code", dict := none, data := .fields #[.str "__bytes__" 472, .str "Headers.__bytes__" 473, .str "/claim/cut.py" 474, .int 70 0, .int 1 0, .int 0 0, .int 0 0, .int 3 0, .ref 148, .bool true, .int 276 0, .ref 149, .none, .ref 150, .ref 151, .ref 152, .int 476 0, .int 70 0, .str "/claim/cut.py" 477], slots := #[] }
noncomputable def ob154 (P : Params) : Obj := { cls := .type "function", dict := none, data := .func (fdOf (clAt 5 14) { name := "__bytes__", qualname := "Headers.__bytes__", params := default, body := .stmts [], scope := default, globals := 3, closure := [], defaults := .none, kwdefaults := .none, doc := .none, pyModule := .str "cpy313.wsgiref.headers" 289, annotations := none, code := .ref 153, closureTuple := .none, builtins := 0 }), slots := #[] }
noncomputable def ob155 (P : Params) : Obj := { cls := .type "tuple", dict := none, data := .seq #[] 0, slots := #[] }
noncomputable def ob156 (P : Params) : Obj := { cls := .none, dict := none, data := .fields #[], slots := #[] }
noncomputable def ob157 (P : Params) : Obj := { cls := .type "tuple", dict := none, data := .seq #[.str "self" 482, .str "name" 483, .str "value" 484] 0, slots := #[] }
noncomputable def ob158 (P : Params) : Obj := { cls := .type "tuple", dict := none, data := .seq #[] 0, slots := #[] }
noncomputable def ob159 (P : Params) : Obj := { cls := .none, dict := none, data := .func (fdT (clAt 5 15) { name := "setdefault", qualname := "Headers.setdefault", params := default, body := .stmts [], scope := default, globals := 3, closure := [], defaults := .none, kwdefaults := .none, doc := .none, pyModule := .none, annotations := none, code := .none, closureTuple := .none, builtins := 0 }), slots := #[] }
noncomputable def ob160 (P : Params) : Obj := { cls := .type "code", dict := none, data := .fields #[.str "setdefault" 479, .str "Headers.setdefault" 480, .str "/claim/cut.py" 481, .int 73 0, .int 3 0, .int 0 0, .int 0 0, .int 3 0, .ref 155, .bool true, .int 276 0, .ref 156, .none, .ref 157, .ref 158, .ref 159, .int 485 0, .int 73 0, .str "/claim/cut.py" 486], slots := #[] }
noncomputable def ob161 (P : Params) : Obj := { cls := .type "function", dict := none, data := .func (fdOf (clAt 5 15) { name := "setdefault", qualname := "Headers.setdefault", params := default, body := .stmts [], scope := default, globals := 3, closure := [], defaults := .none, kwdefaults := .none, doc := .none, pyModule := .str "cpy313.wsgiref.headers" 289, annotations := none, code := .ref 160, closureTuple := .none, builtins := 0 }), slots := #[] }
noncomputable def ob162 (P : Params) : Obj := { cls := .type "tuple", dict := none, data := .seq #[] 0, slots := #[] }
noncomputable def ob163 (P : Params) : Obj := { cls := .none, dict := none, data := .fields #[], slots := #[] }
noncomputable def ob164 (P : Params) : Obj := { cls := .type "tuple", dict := none, data := .seq #[.str "self" 491, .str "_name" 492, .str "_value" 493, .str "_params" 494] 0, slots := #[] }
noncomputable def ob165 (P : Params) : Obj := { cls := .type "tuple", dict := none, data := .seq #[] 0, slots := #[] }
noncomputable def ob166 (P : Params) : Obj := { cls := .none, dict := none, data := .func (fdT (clAt 5 16) { name := "add_header", qualname := "Headers.add_header", params := default, body := .stmts [], scope := default, globals := 3, closure := [], defaults := .none, kwdefaults := .none, doc := .none, pyModule := .none, annotations := none, code := .none, closureTuple := .none, builtins := 0 }), slots := #[] }
noncomputable def ob167 (P : Params) : Obj := { cls := .type "code", dict := none, data := .fields #[.str "add_header" 488, .str "Headers.add_header" 489, .str "/claim/cut.py" 490, .int 76 0, .int 3 0, .int 0 0, .int 0 0, .int 11 0, .ref 162, .bool true, .int 276 0, .ref 163, .none, .ref 164, .ref 165, .ref 166, .int 495 0, .int 76 0, .str "/claim/cut.py" 496], slots := #[] }
noncomputable def ob168 (P : Params) : Obj := { cls := .type "function", dict := none, data := .func (fdOf (clAt 5 16) { name := "add_header", qualname := "Headers.add_header", params := default, body := .stmts [], scope := default, globals := 3, closure := [], defaults := .none, kwdefaults := .none, doc := .none, pyModule := .str "cpy313.wsgiref.headers" 289, annotations := none, code := .ref 167, closureTuple := .none, builtins := 0 }), slots := #[] }
noncomputable def ob169 (P : Params) : Obj := { cls := .type "tuple", dict := none, data := .seq #[.str "_headers" 498] 0, slots := #[] }
noncomputable def ob170 (P : Params) : Obj := { cls := .type "dict", dict := none, data := .dict #[en P "__module__" 358 (.str "cpy313.wsgiref.headers" 289), en P "__firstlineno__" 362 (.int 8 361), en P "__init__" 372 (.ref 63), en P "_convert_string_type" 382 (.ref 70), en P "__len__" 389 (.ref 77), en P "__setitem__" 398 (.ref 84), en P "__delitem__" 404 (.ref 89), en P "__getitem__" 412 (.ref 96), en P "__contains__" 420 (.ref 103), en P "get_all" 428 (.ref 110), en P "get" 439 (.ref 118), en P "keys" 445 (.ref 123), en P "values" 451 (.ref 128), en P "items" 458 (.ref 135), en P "__repr__" 465 (.ref 142), en P "__str__" 471 (.ref 147), en P "__bytes__" 478 (.ref 154), en P "setdefault" 487 (.ref 161), en P "add_header" 497 (.ref 168), en P "__static_attributes__" 499 (.ref 169), en P "__dict__" 501 (.ref 172), en P "__weakref__" 503 (.ref 173), en P "__doc__" 504 (.none)] 4, slots := #[] }
noncomputable def ob171 (P : Params) : Obj := { cls := .type "type", dict := none, data := .cls { name := "Headers", bases := [.type "object"], mro := [.ref 171, .type "object"], ns := 170, qualname := "Headers", hasDict := true, slotNames := [], subclasses := [], abstract := false, hasDel := false }, slots := #[none, none, some (.str "Headers" 351), some (.str "Headers" 359), some (.builtin "object.__new__"), some (.bool true)] }
noncomputable def ob172 (P : Params) : Obj := { cls := .type "getset_descriptor", dict := none, data := .fields #[.str "__dict__" 500, .ref 171, .builtin "function.__dict__", .builtin "function.__dict__#set"], slots := #[] }
noncomputable def ob173 (P : Params) : Obj := { cls := .type "getset_descriptor", dict := none, data := .fields #[.str "__weakref__" 502, .ref 171, .builtin "ExceptionGroup.__weakref__", .none], slots := #[] }
noncomputable def ob174 (P : Params) : Obj := { cls := .type "super", dict := none, data := .fields #[.ref 171, .ref 171, .ref 171], slots := #[] }
noncomputable def ob175 (P : Params) : Obj := { cls := .type "builtin_function_or_method", dict := none, data := .fields #[.builtin "object.__init_subclass__", .ref 171], slots := #[] }
noncomputable def obheap_d4 (P : Params) : Heap := { objs := #[ob0 P, ob1 P, ob2 P, obd43 P, ob4 P, ob5 P, ob6 P, ob7 P, ob8 P, ob9 P, ob10 P, ob11 P, ob12 P, ob13 P, ob14 P, ob15 P, ob16 P, ob17 P, ob18 P, ob19 P, ob20 P, ob21 P, ob22 P, ob23 P, ob24 P, ob25 P, ob26 P, ob27 P, ob28 P, obd429 P, ob30 P, ob31 P, ob32 P, ob33 P, ob34 P, ob35 P, ob36 P, ob37 P, ob38 P, ob39 P, ob40 P, ob41 P, ob42 P, ob43 P, ob44 P, ob45 P, ob46 P, ob47 P, ob48 P, ob49 P, ob50 P, ob51 P, ob52 P, ob53 P, ob54 P, ob55 P, ob56 P, ob57 P, ob58 P, ob59 P, ob60 P, ob61 P, ob62 P, ob63 P, ob64 P, ob65 P, ob66 P, ob67 P, ob68 P, ob69 P, ob70 P, ob71 P, ob72 P, ob73 P, ob74 P, ob75 P, ob76 P, ob77 P, ob78 P, ob79 P, ob80 P, ob81 P, ob82 P, ob83 P, ob84 P, ob85 P, ob86 P, ob87 P, ob88 P, ob89 P, ob90 P, ob91 P, ob92 P, ob93 P, ob94 P, ob95 P, ob96 P, ob97 P, ob98 P, ob99 P, ob100 P, ob101 P, ob102 P, ob103 P, ob104 P, ob105 P, ob106 P, ob107 P, ob108 P, ob109 P, ob110 P, ob111 P, ob112 P, ob113 P, ob114 P, ob115 P, ob116 P, ob117 P, ob118 P, ob119 P, ob120 P, ob121 P, ob122 P, ob123 P, ob124 P, ob125 P, ob126 P, ob127 P, ob128 P, ob129 P, ob130 P, ob131 P, ob132 P, ob133 P, ob134 P, ob135 P, ob136 P, ob137 P, ob138 P, ob139 P, ob140 P, ob141 P, ob142 P, ob143 P, ob144 P, ob145 P, ob146 P, ob147 P, ob148 P, ob149 P, ob150 P, ob151 P, ob152 P, ob153 P, ob154 P, ob155 P, ob156 P, ob157 P, ob158 P, ob159 P, ob160 P, ob161 P, ob162 P, ob163 P, ob164 P, ob165 P, ob166 P, ob167 P, ob168 P, ob169 P, ob170 P, ob171 P, ob172 P, ob173 P, ob174 P, ob175 P], life := { registered := [], finalised := [], alive := [], known := 0, ids := [], orphanDicts := [], counting := false, cnt := #[] } }
noncomputable def obd83 (P : Params) : Obj := { cls := .type "dict", dict := none, data := .dict #[en P "__name__" 165 (.str "cpy313.pydoc" 567), en P "__doc__" 166 (.none), en P "__package__" 167 (.none), en P "__loader__" 168 (.builtin "__main__.__loader__#opaque"), en P "__spec__" 169 (.none), en P "__annotations__" 170 (.ref 6), en P "__builtins__" 171 (.ref 4), en P "__file__" 173 (.str "/claim/cut.py" 172), en P "__cached__" 174 (.none), en P "_sre" 275 (.ref 12), en P "_wall" 288 (.ref 38), en P "_name_disallowed_re" 316 (.ref 43), en P "_value_disallowed_re" 350 (.ref 48), en P "Headers" 506 (.ref 171), en P "_netrclex" 566 (.ref 213), en P "replace" 576 (.ref 224)] 16, slots := #[] }
noncomputable def obd829 (P : Params) : Obj := { cls := .none, dict := none, data := .fields #[.int 2 0, .int 0 0, .ref 37, .int 8 0, .int 0 0, .ref 54, .int 79 0, .int 0 0, .ref 181, .int 123 0, .int 0 0, .ref 223], slots := #[] }
noncomputable def ob176 (P : Params) : Obj := { cls := .type "tuple", dict := none, data := .seq #[] 0, slots := #[] }
noncomputable def ob177 (P : Params) : Obj := { cls := .type "builtin_function_or_method", dict := none, data := .fields #[.builtin "type.__prepare__", .type "type"], slots := #[] }
noncomputable def ob178 (P : Params) : Obj := { cls := .type "dict", dict := none, data := .dict #[en P "__module__" 516 (.str "cpy313.netrc" 507), en P "__qualname__" 518 (.str "_netrclex" 517), en P "__firstlineno__" 520 (.int 79 519), en P "__init__" 528 (.ref 189), en P "_read_char" 536 (.ref 196), en P "get_token" 546 (.ref 203), en P "push_token" 554 (.ref 210), en P "__static_attributes__" 559 (.ref 211)] 8, slots := #[] }
noncomputable def ob179 (P : Params) : Obj := { cls := .type "tuple", dict := none, data := .seq #[] 0, slots := #[] }
noncomputable def ob180 (P : Params) : Obj := { cls := .none, dict := none, data := .fields #[.int 81 0, .int 4 0, .ref 188, .int 87 0, .int 4 0, .ref 195, .int 93 0, .int 4 0, .ref 202, .int 120 0, .int 4 0, .ref 209], slots := #[] }
noncomputable def ob181 (P : Params) : Obj := { cls := .type "code", dict := none, data := .fields #[.str "_netrclex" 511, .str "_netrclex" 512, .str "/claim/cut.py" 513, .int 79 0, .int 0 0, .int 0 0, .int 0 0, .int 0 0, .ref 179, .bool false, .int 276 0, .ref 180, .none, .none, .none, .none, .int 514 0, .int 79 0, .str "/claim/cut.py" 515], slots := #[] }
noncomputable def ob182 (P : Params) : Obj := { cls := .type "frame", dict := none, data := .plain, slots := #[some (.ref 181), some (.ref 3), some (.ref 178), none, some (.str "cpy313.netrc" 507), none, some (.ref 0)] }
noncomputable def ob183 (P : Params) : Obj := { cls := .type "tuple", dict := none, data := .seq #[] 0, slots := #[] }
noncomputable def ob184 (P : Params) : Obj := { cls := .none, dict := none, data := .fields #[], slots := #[] }
noncomputable def ob185 (P : Params) : Obj := { cls := .type "tuple", dict := none, data := .seq #[.str "self" 524, .str "fp" 525] 0, slots := #[] }
noncomputable def ob186 (P : Params) : Obj := { cls := .type "tuple", dict := none, data := .seq #[] 0, slots := #[] }
noncomputable def ob187 (P : Params) : Obj := { cls := .none, dict := none, data := .func (fdT (clAt 7 0) { name := "__init__", qualname := "_netrclex.__init__", params := default, body := .stmts [], scope := default, globals := 3, closure := [], defaults := .none, kwdefaults := .none, doc := .none, pyModule := .none, annotations := none, code := .none, closureTuple := .none, builtins := 0 }), slots := #[] }
noncomputable def ob188 (P : Params) : Obj := { cls := .type "code", dict := none, data := .fields #[.str "__init__" 521, .str "_netrclex.__init__" 522, .str "/claim/cut.py" 523, .int 81 0, .int 2 0, .int 0 0, .int 0 0, .int 3 0, .ref 183, .bool true, .int 276 0, .ref 184, .none, .ref 185, .ref 186, .ref 187, .int 526 0, .int 81 0, .str "/claim/cut.py" 527], slots := #[] }
noncomputable def ob189 (P : Params) : Obj := { cls := .type "function", dict := none, data := .func (fdOf (clAt 7 0) { name := "__init__", qualname := "_netrclex.__init__", params := default, body := .stmts [], scope := default, globals := 3, closure := [], defaults := .none, kwdefaults := .none, doc := .none, pyModule := .str "cpy313.netrc" 507, annotations := none, code := .ref 188, closureTuple := .none, builtins := 0 }), slots := #[] }
noncomputable def ob190 (P : Params) : Obj := { cls := .type "tuple", dict := none, data := .seq #[] 0, slots := #[] }
noncomputable def ob191 (P : Params) : Obj := { cls := .none, dict := none, data := .fields #[], slots := #[] }
noncomputable def ob192 (P : Params) : Obj := { cls := .type "tuple", dict := none, data := .seq #[.str "self" 532, .str "ch" 533] 0, slots := #[] }
noncomputable def ob193 (P : Params) : Obj := { cls := .type "tuple", dict := none, data := .seq #[] 0, slots := #[] }
noncomputable def ob194 (P : Params) : Obj := { cls := .none, dict := none, data := .func (fdT (clAt 7 1) { name := "_read_char", qualname := "_netrclex._read_char", params := default, body := .stmts [], scope := default, globals := 3, closure := [], defaults := .none, kwdefaults := .none, doc := .none, pyModule := .none, annotations := none, code := .none, closureTuple := .none, builtins := 0 }), slots := #[] }
noncomputable def ob195 (P : Params) : Obj := { cls := .type "code", dict := none, data := .fields #[.str "_read_char" 529, .str "_netrclex._read_char" 530, .str "/claim/cut.py" 531, .int 87 0, .int 1 0, .int 0 0, .int 0 0, .int 3 0, .ref 190, .bool true, .int 276 0, .ref 191, .none, .ref 192, .ref 193, .ref 194, .int 534 0, .int 87 0, .str "/claim/cut.py" 535], slots := #[] }
noncomputable def ob196 (P : Params) : Obj := { cls := .type "function", dict := none, data := .func (fdOf (clAt 7 1) { name := "_read_char", qualname := "_netrclex._read_char", params := default, body := .stmts [], scope := default, globals := 3, closure := [], defaults := .none, kwdefaults := .none, doc := .none, pyModule := .str "cpy313.netrc" 507, annotations := none, code := .ref 195, closureTuple := .none, builtins := 0 }), slots := #[] }
noncomputable def ob197 (P : Params) : Obj := { cls := .type "tuple", dict := none, data := .seq #[] 0, slots := #[] }
noncomputable def ob198 (P : Params) : Obj := { cls := .none, dict := none, data := .fields #[], slots := #[] }
noncomputable def ob199 (P : Params) : Obj := { cls := .type "tuple", dict := none, data := .seq #[.str "self" 540, .str "token" 541, .str "fiter" 542, .str "ch" 543] 0, slots := #[] }
noncomputable def ob200 (P : Params) : Obj := { cls := .type "tuple", dict := none, data := .seq #[] 0, slots := #[] }
noncomputable def ob201 (P : Params) : Obj := { cls := .none, dict := none, data := .func (fdT (clAt 7 2) { name := "get_token", qualname := "_netrclex.get_token", params := default, body := .stmts [], scope := default, globals := 3, closure := [], defaults := .none, kwdefaults := .none, doc := .none, pyModule := .none, annotations := none, code := .none, closureTuple := .none, builtins := 0 }), slots := #[] }
noncomputable def ob202 (P : Params) : Obj := { cls := .type "code", dict := none, data := .fields #[.str "get_token" 537, .str "_netrclex.get_token" 538, .str "/claim/cut.py" 539, .int 93 0, .int 1 0, .int 0 0, .int 0 0, .int 3 0, .ref 197, .bool true, .int 276 0, .ref 198, .none, .ref 199, .ref 200, .ref 201, .int 544 0, .int 93 0, .str "/claim/cut.py" 545], slots := #[] }
noncomputable def ob203 (P : Params) : Obj := { cls := .type "function", dict := none, data := .func (fdOf (clAt 7 2) { name := "get_token", qualname := "_netrclex.get_token", params := default, body := .stmts [], scope := default, globals := 3, closure := [], defaults := .none, kwdefaults := .none, doc := .none, pyModule := .str "cpy313.netrc" 507, annotations := none, code := .ref 202, closureTuple := .none, builtins := 0 }), slots := #[] }
noncomputable def ob204 (P : Params) : Obj := { cls := .type "tuple", dict := none, data := .seq #[] 0, slots := #[] }
noncomputable def ob205 (P : Params) : Obj := { cls := .none, dict := none, data := .fields #[], slots := #[] }
noncomputable def ob206 (P : Params) : Obj := { cls := .type "tuple", dict := none, data := .seq #[.str "self" 550, .str "token" 551] 0, slots := #[] }
noncomputable def ob207 (P : Params) : Obj := { cls := .type "tuple", dict := none, data := .seq #[] 0, slots := #[] }
noncomputable def ob208 (P : Params) : Obj := { cls := .none, dict := none, data := .func (fdT (clAt 7 3) { name := "push_token", qualname := "_netrclex.push_token", params := default, body := .stmts [], scope := default, globals := 3, closure := [], defaults := .none, kwdefaults := .none, doc := .none, pyModule := .none, annotations := none, code := .none, closureTuple := .none, builtins := 0 }), slots := #[] }
noncomputable def ob209 (P : Params) : Obj := { cls := .type "code", dict := none, data := .fields #[.str "push_token" 547, .str "_netrclex.push_token" 548, .str "/claim/cut.py" 549, .int 120 0, .int 2 0, .int 0 0, .int 0 0, .int 3 0, .ref 204, .bool true, .int 276 0, .ref 205, .none, .ref 206, .ref 207, .ref 208, .int 552 0, .int 120 0, .str "/claim/cut.py" 553], slots := #[] }
noncomputable def ob210 (P : Params) : Obj := { cls := .type "function", dict := none, data := .func (fdOf (clAt 7 3) { name := "push_token", qualname := "_netrclex.push_token", params := default, body := .stmts [], scope := default, globals := 3, closure := [], defaults := .none, kwdefaults := .none, doc := .none, pyModule := .str "cpy313.netrc" 507, annotations := none, code := .ref 209, closureTuple := .none, builtins := 0 }), slots := #[] }
noncomputable def ob211 (P : Params) : Obj := { cls := .type "tuple", dict := none, data := .seq #[.str "instream" 555, .str "lineno" 556, .str "pushback" 557, .str "whitespace" 558] 0, slots := #[] }
noncomputable def ob212 (P : Params) : Obj := { cls := .type "dict", dict := none, data := .dict #[en P "__module__" 516 (.str "cpy313.netrc" 507), en P "__firstlineno__" 520 (.int 79 519), en P "__init__" 528 (.ref 189), en P "_read_char" 536 (.ref 196), en P "get_token" 546 (.ref 203), en P "push_token" 554 (.ref 210), en P "__static_attributes__" 559 (.ref 211), en P "__dict__" 561 (.ref 214), en P "__weakref__" 563 (.ref 215), en P "__doc__" 564 (.none)] 4, slots := #[] }
noncomputable def ob213 (P : Params) : Obj := { cls := .type "type", dict := none, data := .cls { name := "_netrclex", bases := [.type "object"], mro := [.ref 213, .type "object"], ns := 212, qualname := "_netrclex", hasDict := true, slotNames := [], subclasses := [], abstract := false, hasDel := false }, slots := #[none, none, some (.str "_netrclex" 509), some (.str "_netrclex" 517), some (.builtin "object.__new__"), some (.bool true)] }
noncomputable def ob214 (P : Params) : Obj := { cls := .type "getset_descriptor", dict := none, data := .fields #[.str "__dict__" 560, .ref 213, .builtin "function.__dict__", .builtin "function.__dict__#set"], slots := #[] }
noncomputable def ob215 (P : Params) : Obj := { cls := .type "getset_descriptor", dict := none, data := .fields #[.str "__weakref__" 562, .ref 213, .builtin "ExceptionGroup.__weakref__", .none], slots := #[] }
noncomputable def ob216 (P : Params) : Obj := { cls := .type "super", dict := none, data := .fields #[.ref 213, .ref 213, .ref 213], slots := #[] }
noncomputable def ob217 (P : Params) : Obj := { cls := .type "builtin_function_or_method", dict := none, data := .fields #[.builtin "object.__init_subclass__", .ref 213], slots := #[] }
noncomputable def ob218 (P : Params) : Obj := { cls := .type "tuple", dict := none, data := .seq #[] 0, slots := #[] }
noncomputable def ob219 (P : Params) : Obj := { cls := .none, dict := none, data := .fields #[], slots := #[] }
noncomputable def ob220 (P : Params) : Obj := { cls := .type "tuple", dict := none, data := .seq #[.str "text" 572, .str "pairs" 573] 0, slots := #[] }
noncomputable def ob221 (P : Params) : Obj := { cls := .type "tuple", dict := none, data := .seq #[] 0, slots := #[] }
noncomputable def ob222 (P : Params) : Obj := { cls := .none, dict := none, data := .func (fdT (stAt 9) { name := "replace", qualname := "replace", params := default, body := .stmts [], scope := default, globals := 3, closure := [], defaults := .none, kwdefaults := .none, doc := .none, pyModule := .none, annotations := none, code := .none, closureTuple := .none, builtins := 0 }), slots := #[] }
noncomputable def ob223 (P : Params) : Obj := { cls := .type "code", dict := none, data := .fields #[.str "replace" 569, .str "replace" 570, .str "/claim/cut.py" 571, .int 123 0, .int 1 0, .int 0 0, .int 0 0, .int 7 0, .ref 218, .bool true, .int 276 0, .ref 219, .none, .ref 220, .ref 221, .ref 222, .int 574 0, .int 123 0, .str "/claim/cut.py" 575], slots := #[] }
noncomputable def ob224 (P : Params) : Obj := { cls := .type "function", dict := none, data := .func (fdOf (stAt 9) { name := "replace", qualname := "replace", params := default, body := .stmts [], scope := default, globals := 3, closure := [], defaults := .none, kwdefaults := .none, doc := .none, pyModule := .str "cpy313.pydoc" 567, annotations := none, code := .ref 223, closureTuple := .none, builtins := 0 }), slots := #[] }
noncomputable def obheap_d8 (P : Params) : Heap := { objs := #[ob0 P, ob1 P, ob2 P, obd83 P, ob4 P, ob5 P, ob6 P, ob7 P, ob8 P, ob9 P, ob10 P, ob11 P, ob12 P, ob13 P, ob14 P, ob15 P, ob16 P, ob17 P, ob18 P, ob19 P, ob20 P, ob21 P, ob22 P, ob23 P, ob24 P, ob25 P, ob26 P, ob27 P, ob28 P, obd829 P, ob30 P, ob31 P, ob32 P, ob33 P, ob34 P, ob35 P, ob36 P, ob37 P, ob38 P, ob39 P, ob40 P, ob41 P, ob42 P, ob43 P, ob44 P, ob45 P, ob46 P, ob47 P, ob48 P, ob49 P, ob50 P, ob51 P, ob52 P, ob53 P, ob54 P, ob55 P, ob56 P, ob57 P, ob58 P, ob59 P, ob60 P, ob61 P, ob62 P, ob63 P, ob64 P, ob65 P, ob66 P, ob67 P, ob68 P, ob69 P, ob70 P, ob71 P, ob72 P, ob73 P, ob74 P, ob75 P, ob76 P, ob77 P, ob78 P, ob79 P, ob80 P, ob81 P, ob82 P, ob83 P, ob84 P, ob85 P, ob86 P, ob87 P, ob88 P, ob89 P, ob90 P, ob91 P, ob92 P, ob93 P, ob94 P, ob95 P, ob96 P, ob97 P, ob98 P, ob99 P, ob100 P, ob101 P, ob102 P, ob103 P, ob104 P, ob105 P, ob106 P, ob107 P, ob108 P, ob109 P, ob110 P, ob111 P, ob112 P, ob113 P, ob114 P, ob115 P, ob116 P, ob117 P, ob118 P, ob119 P, ob120 P, ob121 P, ob122 P, ob123 P, ob124 P, ob125 P, ob126 P, ob127 P, ob128 P, ob129 P, ob130 P, ob131 P, ob132 P, ob133 P, ob134 P, ob135 P, ob136 P, ob137 P, ob138 P, ob139 P, ob140 P, ob141 P, ob142 P, ob143 P, ob144 P, ob145 P, ob146 P, ob147 P, ob148 P, ob149 P, ob150 P, ob151 P, ob152 P, ob153 P, ob154 P, ob155 P, ob156 P, ob157 P, ob158 P, ob159 P, ob160 P, ob161 P, ob162 P, ob163 P, ob164 P, ob165 P, ob166 P, ob167 P, ob168 P, ob169 P, ob170 P, ob171 P, ob172 P, ob173 P, ob174 P, ob175 P, ob176 P, ob177 P, ob178 P, ob179 P, ob180 P, ob181 P, ob182 P, ob183 P, ob184 P, ob185 P, ob186 P, ob187 P, ob188 P, ob189 P, ob190 P, ob191 P, ob192 P, ob193 P, ob194 P, ob195 P, ob196 P, ob197 P, ob198 P, ob199 P, ob200 P, ob201 P, ob202 P, ob203 P, ob204 P, ob205 P, ob206 P, ob207 P, ob208 P, ob209 P, ob210 P, ob211 P, ob212 P, ob213 P, ob214 P, ob215 P, ob216 P, ob217 P, ob218 P, ob219 P, ob220 P, ob221 P, ob222 P, ob223 P, ob224 P], life := { registered := [], finalised := [], alive := [], known := 0, ids := [], orphanDicts := [], counting := false, cnt := #[] } }
noncomputable def obe3 (P : Params) : Obj := { cls := .type "dict", dict := none, data := .dict #[en P "__name__" 165 (.str "law_pu0047_03" 577), en P "__doc__" 166 (.none), en P "__package__" 167 (.none), en P "__loader__" 168 (.builtin "__main__.__loader__#opaque"), en P "__spec__" 169 (.none), en P "__annotations__" 170 (.ref 6), en P "__builtins__" 171 (.ref 4), en P "__file__" 173 (.str "/claim/cut.py" 172), en P "__cached__" 174 (.none), en P "_sre" 275 (.ref 12), en P "_wall" 288 (.ref 38), en P "_name_disallowed_re" 316 (.ref 43), en P "_value_disallowed_re" 350 (.ref 48), en P "Headers" 506 (.ref 171), en P "_netrclex" 566 (.ref 213), en P "replace" 576 (.ref 224), en P "_law_stream" 584 (.ref 229), en P "_law_small" 590 (.ref 236), en P "_law_told" 597 (.ref 243), en P "_law_written" 603 (.ref 248), en P "_law_store" 612 (.ref 255), en P "_law_rest" 620 (.ref 262), en P "_law_order" 626 (.ref 267), en P "_law_due" 632 (.ref 272), en P "_law_items" 638 (.ref 277), en P "law" 644 (.ref 282)] 26, slots := #[] }
noncomputable def obe29 (P : Params) : Obj := { cls := .none, dict := none, data := .fields #[.int 2 0, .int 0 0, .ref 37, .int 8 0, .int 0 0, .ref 54, .int 79 0, .int 0 0, .ref 181, .int 123 0, .int 0 0, .ref 223, .int 129 0, .int 0 0, .ref 228, .int 140 0, .int 0 0, .ref 235, .int 142 0, .int 0 0, .ref 242, .int 146 0, .int 0 0, .ref 247, .int 152 0, .int 0 0, .ref 254, .int 154 0, .int 0 0, .ref 261, .int 160 0, .int 0 0, .ref 266, .int 168 0, .int 0 0, .ref 271, .int 175 0, .int 0 0, .ref 276, .int 184 0, .int 0 0, .ref 281], slots := #[] }
noncomputable def ob225 (P : Params) : Obj := { cls := .type "tuple", dict := none, data := .seq #[] 0, slots := #[] }
noncomputable def ob226 (P : Params) : Obj := { cls := .none, dict := none, data := .fields #[], slots := #[] }
noncomputable def ob227 (P : Params) : Obj := { cls := .none, dict := none, data := .func (fdT (stAt 11) { name := "_law_stream", qualname := "_law_stream", params := default, body := .stmts [], scope := default, globals := 3, closure := [], defaults := .none, kwdefaults := .none, doc := .none, pyModule := .none, annotations := none, code := .none, closureTuple := .none, builtins := 0 }), slots := #[] }
noncomputable def ob228 (P : Params) : Obj := { cls := .type "code", dict := none, data := .fields #[.str "_law_stream" 579, .str "_law_stream" 580, .str "/claim/cut.py" 581, .int 129 0, .int 1 0, .int 0 0, .int 0 0, .int 3 0, .ref 225, .bool true, .int 276 0, .ref 226, .none, .none, .none, .ref 227, .int 582 0, .int 129 0, .str "/claim/cut.py" 583], slots := #[] }
noncomputable def ob229 (P : Params) : Obj := { cls := .type "function", dict := none, data := .func (fdOf (stAt 11) { name := "_law_stream", qualname := "_law_stream", params := default, body := .stmts [], scope := default, globals := 3, closure := [], defaults := .none, kwdefaults := .none, doc := .none, pyModule := .str "law_pu0047_03" 577, annotations := none, code := .ref 228, closureTuple := .none, builtins := 0 }), slots := #[] }
noncomputable def ob230 (P : Params) : Obj := { cls := .type "tuple", dict := none, data := .seq #[] 0, slots := #[] }
noncomputable def ob231 (P : Params) : Obj := { cls := .none, dict := none, data := .fields #[], slots := #[] }
noncomputable def ob232 (P : Params) : Obj := { cls := .type "tuple", dict := none, data := .seq #[] 0, slots := #[] }
noncomputable def ob233 (P : Params) : Obj := { cls := .type "tuple", dict := none, data := .seq #[] 0, slots := #[] }
noncomputable def ob234 (P : Params) : Obj := { cls := .none, dict := none, data := .func (fdT (stAt 12) { name := "_law_small", qualname := "_law_small", params := default, body := .stmts [], scope := default, globals := 3, closure := [], defaults := .none, kwdefaults := .none, doc := .none, pyModule := .none, annotations := none, code := .none, closureTuple := .none, builtins := 0 }), slots := #[] }
noncomputable def ob235 (P : Params) : Obj := { cls := .type "code", dict := none, data := .fields #[.str "_law_small" 585, .str "_law_small" 586, .str "/claim/cut.py" 587, .int 140 0, .int 0 0, .int 0 0, .int 0 0, .int 3 0, .ref 230, .bool true, .int 276 0, .ref 231, .none, .ref 232, .ref 233, .ref 234, .int 588 0, .int 140 0, .str "/claim/cut.py" 589], slots := #[] }
noncomputable def ob236 (P : Params) : Obj := { cls := .type "function", dict := none, data := .func (fdOf (stAt 12) { name := "_law_small", qualname := "_law_small", params := default, body := .stmts [], scope := default, globals := 3, closure := [], defaults := .none, kwdefaults := .none, doc := .none, pyModule := .str "law_pu0047_03" 577, annotations := none, code := .ref 235, closureTuple := .none, builtins := 0 }), slots := #[] }
noncomputable def ob237 (P : Params) : Obj := { cls := .type "tuple", dict := none, data := .seq #[] 0, slots := #[] }
noncomputable def ob238 (P : Params) : Obj := { cls := .none, dict := none, data := .fields #[], slots := #[] }
noncomputable def ob239 (P : Params) : Obj := { cls := .type "tuple", dict := none, data := .seq #[.str "x" 594] 0, slots := #[] }
noncomputable def ob240 (P : Params) : Obj := { cls := .type "tuple", dict := none, data := .seq #[] 0, slots := #[] }
noncomputable def ob241 (P : Params) : Obj := { cls := .none, dict := none, data := .func (fdT (stAt 13) { name := "_law_told", qualname := "_law_told", params := default, body := .stmts [], scope := default, globals := 3, closure := [], defaults := .none, kwdefaults := .none, doc := .none, pyModule := .none, annotations := none, code := .none, closureTuple := .none, builtins := 0 }), slots := #[] }
noncomputable def ob242 (P : Params) : Obj := { cls := .type "code", dict := none, data := .fields #[.str "_law_told" 591, .str "_law_told" 592, .str "/claim/cut.py" 593, .int 142 0, .int 1 0, .int 0 0, .int 0 0, .int 3 0, .ref 237, .bool true, .int 276 0, .ref 238, .none, .ref 239, .ref 240, .ref 241, .int 595 0, .int 142 0, .str "/claim/cut.py" 596], slots := #[] }
noncomputable def ob243 (P : Params) : Obj := { cls := .type "function", dict := none, data := .func (fdOf (stAt 13) { name := "_law_told", qualname := "_law_told", params := default, body := .stmts [], scope := default, globals := 3, closure := [], defaults := .none, kwdefaults := .none, doc := .none, pyModule := .str "law_pu0047_03" 577, annotations := none, code := .ref 242, closureTuple := .none, builtins := 0 }), slots := #[] }
noncomputable def ob244 (P : Params) : Obj := { cls := .type "tuple", dict := none, data := .seq #[] 0, slots := #[] }
noncomputable def ob245 (P : Params) : Obj := { cls := .none, dict := none, data := .fields #[], slots := #[] }
noncomputable def ob246 (P : Params) : Obj := { cls := .none, dict := none, data := .func (fdT (stAt 14) { name := "_law_written", qualname := "_law_written", params := default, body := .stmts [], scope := default, globals := 3, closure := [], defaults := .none, kwdefaults := .none, doc := .none, pyModule := .none, annotations := none, code := .none, closureTuple := .none, builtins := 0 }), slots := #[] }
noncomputable def ob247 (P : Params) : Obj := { cls := .type "code", dict := none, data := .fields #[.str "_law_written" 598, .str "_law_written" 599, .str "/claim/cut.py" 600, .int 146 0, .int 2 0, .int 0 0, .int 0 0, .int 3 0, .ref 244, .bool true, .int 276 0, .ref 245, .none, .none, .none, .ref 246, .int 601 0, .int 146 0, .str "/claim/cut.py" 602], slots := #[] }
noncomputable def ob248 (P : Params) : Obj := { cls := .type "function", dict := none, data := .func (fdOf (stAt 14) { name := "_law_written", qualname := "_law_written", params := default, body := .stmts [], scope := default, globals := 3, closure := [], defaults := .none, kwdefaults := .none, doc := .none, pyModule := .str "law_pu0047_03" 577, annotations := none, code := .ref 247, closureTuple := .none, builtins := 0 }), slots := #[] }
noncomputable def ob249 (P : Params) : Obj := { cls := .type "tuple", dict := none, data := .seq #[] 0, slots := #[] }
noncomputable def ob250 (P : Params) : Obj := { cls := .none, dict := none, data := .fields #[], slots := #[] }
noncomputable def ob251 (P : Params) : Obj := { cls := .type "tuple", dict := none, data := .seq #[.str "table" 607, .str "name" 608, .str "value" 609] 0, slots := #[] }
noncomputable def ob252 (P : Params) : Obj := { cls := .type "tuple", dict := none, data := .seq #[] 0, slots := #[] }
noncomputable def ob253 (P : Params) : Obj := { cls := .none, dict := none, data := .func (fdT (stAt 15) { name := "_law_store", qualname := "_law_store", params := default, body := .stmts [], scope := default, globals := 3, closure := [], defaults := .none, kwdefaults := .none, doc := .none, pyModule := .none, annotations := none, code := .none, closureTuple := .none, builtins := 0 }), slots := #[] }
noncomputable def ob254 (P : Params) : Obj := { cls := .type "code", dict := none, data := .fields #[.str "_law_store" 604, .str "_law_store" 605, .str "/claim/cut.py" 606, .int 152 0, .int 3 0, .int 0 0, .int 0 0, .int 3 0, .ref 249, .bool true, .int 276 0, .ref 250, .none, .ref 251, .ref 252, .ref 253, .int 610 0, .int 152 0, .str "/claim/cut.py" 611], slots := #[] }
noncomputable def ob255 (P : Params) : Obj := { cls := .type "function", dict := none, data := .func (fdOf (stAt 15) { name := "_law_store", qualname := "_law_store", params := default, body := .stmts [], scope := default, globals := 3, closure := [], defaults := .none, kwdefaults := .none, doc := .none, pyModule := .str "law_pu0047_03" 577, annotations := none, code := .ref 254, closureTuple := .none, builtins := 0 }), slots := #[] }
noncomputable def ob256 (P : Params) : Obj := { cls := .type "tuple", dict := none, data := .seq #[] 0, slots := #[] }
noncomputable def ob257 (P : Params) : Obj := { cls := .none, dict := none, data := .fields #[], slots := #[] }
noncomputable def ob258 (P : Params) : Obj := { cls := .type "tuple", dict := none, data := .seq #[.str "word" 616, .str "less" 617] 0, slots := #[] }
noncomputable def ob259 (P : Params) : Obj := { cls := .type "tuple", dict := none, data := .seq #[] 0, slots := #[] }
noncomputable def ob260 (P : Params) : Obj := { cls := .none, dict := none, data := .func (fdT (stAt 16) { name := "_law_rest", qualname := "_law_rest", params := default, body := .stmts [], scope := default, globals := 3, closure := [], defaults := .none, kwdefaults := .none, doc := .none, pyModule := .none, annotations := none, code := .none, closureTuple := .none, builtins := 0 }), slots := #[] }
noncomputable def ob261 (P : Params) : Obj := { cls := .type "code", dict := none, data := .fields #[.str "_law_rest" 613, .str "_law_rest" 614, .str "/claim/cut.py" 615, .int 154 0, .int 1 0, .int 0 0, .int 0 0, .int 3 0, .ref 256, .bool true, .int 276 0, .ref 257, .none, .ref 258, .ref 259, .ref 260, .int 618 0, .int 154 0, .str "/claim/cut.py" 619], slots := #[] }
noncomputable def ob262 (P : Params) : Obj := { cls := .type "function", dict := none, data := .func (fdOf (stAt 16) { name := "_law_rest", qualname := "_law_rest", params := default, body := .stmts [], scope := default, globals := 3, closure := [], defaults := .none, kwdefaults := .none, doc := .none, pyModule := .str "law_pu0047_03" 577, annotations := none, code := .ref 261, closureTuple := .none, builtins := 0 }), slots := #[] }
noncomputable def ob263 (P : Params) : Obj := { cls := .type "tuple", dict := none, data := .seq #[] 0, slots := #[] }
noncomputable def ob264 (P : Params) : Obj := { cls := .none, dict := none, data := .fields #[], slots := #[] }
noncomputable def ob265 (P : Params) : Obj := { cls := .none, dict := none, data := .func (fdT (stAt 17) { name := "_law_order", qualname := "_law_order", params := default, body := .stmts [], scope := default, globals := 3, closure := [], defaults := .none, kwdefaults := .none, doc := .none, pyModule := .none, annotations := none, code := .none, closureTuple := .none, builtins := 0 }), slots := #[] }
noncomputable def ob266 (P : Params) : Obj := { cls := .type "code", dict := none, data := .fields #[.str "_law_order" 621, .str "_law_order" 622, .str "/claim/cut.py" 623, .int 160 0, .int 1 0, .int 0 0, .int 0 0, .int 3 0, .ref 263, .bool true, .int 276 0, .ref 264, .none, .none, .none, .ref 265, .int 624 0, .int 160 0, .str "/claim/cut.py" 625], slots := #[] }
noncomputable def ob267 (P : Params) : Obj := { cls := .type "function", dict := none, data := .func (fdOf (stAt 17) { name := "_law_order", qualname := "_law_order", params := default, body := .stmts [], scope := default, globals := 3, closure := [], defaults := .none, kwdefaults := .none, doc := .none, pyModule := .str "law_pu0047_03" 577, annotations := none, code := .ref 266, closureTuple := .none, builtins := 0 }), slots := #[] }
noncomputable def ob268 (P : Params) : Obj := { cls := .type "tuple", dict := none, data := .seq #[] 0, slots := #[] }
noncomputable def ob269 (P : Params) : Obj := { cls := .none, dict := none, data := .fields #[], slots := #[] }
noncomputable def ob270 (P : Params) : Obj := { cls := .none, dict := none, data := .func (fdT (stAt 18) { name := "_law_due", qualname := "_law_due", params := default, body := .stmts [], scope := default, globals := 3, closure := [], defaults := .none, kwdefaults := .none, doc := .none, pyModule := .none, annotations := none, code := .none, closureTuple := .none, builtins := 0 }), slots := #[] }
noncomputable def ob271 (P : Params) : Obj := { cls := .type "code", dict := none, data := .fields #[.str "_law_due" 627, .str "_law_due" 628, .str "/claim/cut.py" 629, .int 168 0, .int 1 0, .int 0 0, .int 0 0, .int 3 0, .ref 268, .bool true, .int 276 0, .ref 269, .none, .none, .none, .ref 270, .int 630 0, .int 168 0, .str "/claim/cut.py" 631], slots := #[] }
noncomputable def ob272 (P : Params) : Obj := { cls := .type "function", dict := none, data := .func (fdOf (stAt 18) { name := "_law_due", qualname := "_law_due", params := default, body := .stmts [], scope := default, globals := 3, closure := [], defaults := .none, kwdefaults := .none, doc := .none, pyModule := .str "law_pu0047_03" 577, annotations := none, code := .ref 271, closureTuple := .none, builtins := 0 }), slots := #[] }
noncomputable def ob273 (P : Params) : Obj := { cls := .type "tuple", dict := none, data := .seq #[] 0, slots := #[] }
noncomputable def ob274 (P : Params) : Obj := { cls := .none, dict := none, data := .fields #[], slots := #[] }
noncomputable def ob275 (P : Params) : Obj := { cls := .none, dict := none, data := .func (fdT (stAt 19) { name := "_law_items", qualname := "_law_items", params := default, body := .stmts [], scope := default, globals := 3, closure := [], defaults := .none, kwdefaults := .none, doc := .none, pyModule := .none, annotations := none, code := .none, closureTuple := .none, builtins := 0 }), slots := #[] }
noncomputable def ob276 (P : Params) : Obj := { cls := .type "code", dict := none, data := .fields #[.str "_law_items" 633, .str "_law_items" 634, .str "/claim/cut.py" 635, .int 175 0, .int 1 0, .int 0 0, .int 0 0, .int 3 0, .ref 273, .bool true, .int 276 0, .ref 274, .none, .none, .none, .ref 275, .int 636 0, .int 175 0, .str "/claim/cut.py" 637], slots := #[] }
noncomputable def ob277 (P : Params) : Obj := { cls := .type "function", dict := none, data := .func (fdOf (stAt 19) { name := "_law_items", qualname := "_law_items", params := default, body := .stmts [], scope := default, globals := 3, closure := [], defaults := .none, kwdefaults := .none, doc := .none, pyModule := .str "law_pu0047_03" 577, annotations := none, code := .ref 276, closureTuple := .none, builtins := 0 }), slots := #[] }
noncomputable def ob278 (P : Params) : Obj := { cls := .type "tuple", dict := none, data := .seq #[] 0, slots := #[] }
noncomputable def ob279 (P : Params) : Obj := { cls := .none, dict := none, data := .fields #[], slots := #[] }
noncomputable def ob280 (P : Params) : Obj := { cls := .none, dict := none, data := .func (fdT (stAt 20) { name := "law", qualname := "law", params := default, body := .stmts [], scope := default, globals := 3, closure := [], defaults := .none, kwdefaults := .none, doc := .none, pyModule := .none, annotations := none, code := .none, closureTuple := .none, builtins := 0 }), slots := #[] }
noncomputable def ob281 (P : Params) : Obj := { cls := .type "code", dict := none, data := .fields #[.str "law" 639, .str "law" 640, .str "/claim/cut.py" 641, .int 184 0, .int 1 0, .int 0 0, .int 0 0, .int 3 0, .ref 278, .bool true, .int 276 0, .ref 279, .none, .none, .none, .ref 280, .int 642 0, .int 184 0, .str "/claim/cut.py" 643], slots := #[] }
noncomputable def ob282 (P : Params) : Obj := { cls := .type "function", dict := none, data := .func (fdOf (stAt 20) { name := "law", qualname := "law", params := default, body := .stmts [], scope := default, globals := 3, closure := [], defaults := .none, kwdefaults := .none, doc := .none, pyModule := .str "law_pu0047_03" 577, annotations := none, code := .ref 281, closureTuple := .none, builtins := 0 }), slots := #[] }
noncomputable def obheap_e (P : Params) : Heap := { objs := #[ob0 P, ob1 P, ob2 P, obe3 P, ob4 P, ob5 P, ob6 P, ob7 P, ob8 P, ob9 P, ob10 P, ob11 P, ob12 P, ob13 P, ob14 P, ob15 P, ob16 P, ob17 P, ob18 P, ob19 P, ob20 P, ob21 P, ob22 P, ob23 P, ob24 P, ob25 P, ob26 P, ob27 P, ob28 P, obe29 P, ob30 P, ob31 P, ob32 P, ob33 P, ob34 P, ob35 P, ob36 P, ob37 P, ob38 P, ob39 P, ob40 P, ob41 P, ob42 P, ob43 P, ob44 P, ob45 P, ob46 P, ob47 P, ob48 P, ob49 P, ob50 P, ob51 P, ob52 P, ob53 P, ob54 P, ob55 P, ob56 P, ob57 P, ob58 P, ob59 P, ob60 P, ob61 P, ob62 P, ob63 P, ob64 P, ob65 P, ob66 P, ob67 P, ob68 P, ob69 P, ob70 P, ob71 P, ob72 P, ob73 P, ob74 P, ob75 P, ob76 P, ob77 P, ob78 P, ob79 P, ob80 P, ob81 P, ob82 P, ob83 P, ob84 P, ob85 P, ob86 P, ob87 P, ob88 P, ob89 P, ob90 P, ob91 P, ob92 P, ob93 P, ob94 P, ob95 P, ob96 P, ob97 P, ob98 P, ob99 P, ob100 P, ob101 P, ob102 P, ob103 P, ob104 P, ob105 P, ob106 P, ob107 P, ob108 P, ob109 P, ob110 P, ob111 P, ob112 P, ob113 P, ob114 P, ob115 P, ob116 P, ob117 P, ob118 P, ob119 P, ob120 P, ob121 P, ob122 P, ob123 P, ob124 P, ob125 P, ob126 P, ob127 P, ob128 P, ob129 P, ob130 P, ob131 P, ob132 P, ob133 P, ob134 P, ob135 P, ob136 P, ob137 P, ob138 P, ob139 P, ob140 P, ob141 P, ob142 P, ob143 P, ob144 P, ob145 P, ob146 P, ob147 P, ob148 P, ob149 P, ob150 P, ob151 P, ob152 P, ob153 P, ob154 P, ob155 P, ob156 P, ob157 P, ob158 P, ob159 P, ob160 P, ob161 P, ob162 P, ob163 P, ob164 P, ob165 P, ob166 P, ob167 P, ob168 P, ob169 P, ob170 P, ob171 P, ob172 P, ob173 P, ob174 P, ob175 P, ob176 P, ob177 P, ob178 P, ob179 P, ob180 P, ob181 P, ob182 P, ob183 P, ob184 P, ob185 P, ob186 P, ob187 P, ob188 P, ob189 P, ob190 P, ob191 P, ob192 P, ob193 P, ob194 P, ob195 P, ob196 P, ob197 P, ob198 P, ob199 P, ob200 P, ob201 P, ob202 P, ob203 P, ob204 P, ob205 P, ob206 P, ob207 P, ob208 P, ob209 P, ob210 P, ob211 P, ob212 P, ob213 P, ob214 P, ob215 P, ob216 P, ob217 P, ob218 P, ob219 P, ob220 P, ob221 P, ob222 P, ob223 P, ob224 P, ob225 P, ob226 P, ob227 P, ob228 P, ob229 P, ob230 P, ob231 P, ob232 P, ob233 P, ob234 P, ob235 P, ob236 P, ob237 P, ob238 P, ob239 P, ob240 P, ob241 P, ob242 P, ob243 P, ob244 P, ob245 P, ob246 P, ob247 P, ob248 P, ob249 P, ob250 P, ob251 P, ob252 P, ob253 P, ob254 P, ob255 P, ob256 P, ob257 P, ob258 P, ob259 P, ob260 P, ob261 P, ob262 P, ob263 P, ob264 P, ob265 P, ob266 P, ob267 P, ob268 P, ob269 P, ob270 P, ob271 P, ob272 P, ob273 P, ob274 P, ob275 P, ob276 P, ob277 P, ob278 P, ob279 P, ob280 P, ob281 P, ob282 P], life := { registered := [], finalised := [], alive := [], known := 0, ids := [], orphanDicts := [], counting := false, cnt := #[] } }
noncomputable def frag (P : Params) : W.Frag := [(0, ob0 P), (3, obe3 P), (4, ob4 P), (42, ob42 P), (43, ob43 P), (47, ob47 P), (48, ob48 P), (56, ob56 P), (62, ob62 P), (63, ob63 P), (69, ob69 P), (70, ob70 P), (83, ob83 P), (84, ob84 P), (88, ob88 P), (89, ob89 P), (122, ob122 P), (123, ob123 P), (134, ob134 P), (135, ob135 P), (170, ob170 P), (171, ob171 P), (188, ob188 P), (189, ob189 P), (195, ob195 P), (196, ob196 P), (202, ob202 P), (203, ob203 P), (212, ob212 P), (213, ob213 P), (223, ob223 P), (224, ob224 P), (226, ob226 P), (228, ob228 P), (229, ob229 P), (235, ob235 P), (236, ob236 P), (242, ob242 P), (243, ob243 P), (247, ob247 P), (248, ob248 P), (254, ob254 P), (255, ob255 P), (261, ob261 P), (262, ob262 P), (266, ob266 P), (267, ob267 P), (271, ob271 P), (272, ob272 P), (276, ob276 P), (277, ob277 P), (281, ob281 P), (282, ob282 P)]
noncomputable def ads : List Addr := [0, 3, 4, 42, 43, 47, 48, 56, 62, 63, 69, 70, 83, 84, 88, 89, 122, 123, 134, 135, 170, 171, 188, 189, 195, 196, 202, 203, 212, 213, 223, 224, 226, 228, 229, 235, 236, 242, 243, 247, 248, 254, 255, 261, 262, 266, 267, 271, 272, 276, 277, 281, 282]
noncomputable def keep : List Nat := [0, 1, 3, 4, 5, 7, 9, 11, 12, 13, 14, 15, 16, 17, 18, 19, 20]
noncomputable def loose : List Str := ["_name_disallowed_re", "_value_disallowed_re"]
noncomputable def vw : Program := PySem.W.view Challenge.pw_pu0047_03 keep
noncomputable abbrev xt : Shared → Bool := fun s => xlAt vw [] s && recOk (RowW.records (OpenRow.toRowW Challenge.rw_pu0047_03.row)) s
noncomputable def tenv : Env := { scope := Challenge.pw_pu0047_03.main.scope, locals := mainNs, globals := mainNs, cells := [], code := .ref 30, frame := some 31 }
noncomputable def bd : List Stmt := behindTheImports Challenge.pw_pu0047_03
noncomputable def cbd : Code := .body bd tenv
noncomputable abbrev sh (h : Params → Heap) (k : Nat) (w : World) (os : OsState) : Shared := ⟨h w.params, #[], {}, k, os⟩
noncomputable abbrev tf : List Frame := [topFrame { line := 0, col := 0, endLine := 0, endCol := 0 }]
set_option maxHeartbeats 0 in
theorem hd_open (w : World) : (fencedOpening treeTable Challenge.pw_pu0047_03 w 3256).map (fun s => (s.heap, s.gens, s.drawn, s.toks)) = some (obheap_a w.params, #[], {}, 276) := by kernel_rfl
set_option maxHeartbeats 0 in
theorem hd_size (w : World) : ((obheap_a w.params).isNs mainGlobals && (#[] : Array GenState).size == 0, (obheap_a w.params).objs.size, (obheap_a w.params).nsMap mainGlobals "__annotations__") = (true, 28, some (.ref 6)) := by kernel_rfl
set_option maxHeartbeats 0 in
theorem hd_pre (w : World) (os : OsState) : topGo treeTable Challenge.pw_pu0047_03 w 28 (some (.ref 6)) 12 (sh obheap_a 276 w os) (topStub Challenge.pw_pu0047_03) = some ((sh obheap_b 282 w os), ⟨denote treeTable cbd, cbd, { line := 0, col := 0, endLine := 0, endCol := 0 }, tf⟩) := by kernel_rfl
set_option maxHeartbeats 0 in
theorem hd_block (w : World) (os : OsState) : segRun treeTable Challenge.pw_pu0047_03 w 28 (some (.ref 6)) 1 1 (sh obheap_b 282 w os) (blockOf bd tenv cbd { line := 0, col := 0, endLine := 0, endCol := 0 } tf) = some (.next, (sh obheap_b 282 w os), cbd, { line := 0, col := 0, endLine := 0, endCol := 0 }) := by kernel_rfl
set_option maxHeartbeats 0 in
theorem hd_p0 (w : World) (os : OsState) : segRun treeTable Challenge.pw_pu0047_03 w 28 (some (.ref 6)) 1 185 (sh obheap_b 282 w os) (piecesOf ((bd.drop 0).take 4) tenv cbd { line := 0, col := 0, endLine := 0, endCol := 0 } tf) = some (.next, (sh obheap_d3 351 w os), cbd, { line := 7, col := 0, endLine := 7, endCol := 20 }) := by kernel_rfl
set_option maxHeartbeats 0 in
theorem hd_p1 (w : World) (os : OsState) : segRun treeTable Challenge.pw_pu0047_03 w 28 (some (.ref 6)) 1 728 (sh obheap_d3 351 w os) (piecesOf ((bd.drop 4).take 1) tenv cbd { line := 7, col := 0, endLine := 7, endCol := 20 } tf) = some (.next, (sh obheap_d4 507 w os), cbd, { line := 8, col := 0, endLine := 77, endCol := 16 }) := by kernel_rfl
set_option maxHeartbeats 0 in
theorem hd_p2 (w : World) (os : OsState) : segRun treeTable Challenge.pw_pu0047_03 w 28 (some (.ref 6)) 1 372 (sh obheap_d4 507 w os) (piecesOf ((bd.drop 5).take 4) tenv cbd { line := 8, col := 0, endLine := 77, endCol := 16 } tf) = some (.next, (sh obheap_d8 577 w os), cbd, { line := 123, col := 0, endLine := 127, endCol := 15 }) := by kernel_rfl
set_option maxHeartbeats 0 in
theorem hd_p3 (w : World) (os : OsState) : segRun treeTable Challenge.pw_pu0047_03 w 28 (some (.ref 6)) 1 284 (sh obheap_d8 577 w os) (piecesOf ((bd.drop 9).take 11) tenv cbd { line := 123, col := 0, endLine := 127, endCol := 15 } tf) = some (.next, (sh obheap_e 645 w os), cbd, { line := 184, col := 0, endLine := 203, endCol := 75 }) := by kernel_rfl
set_option maxHeartbeats 0 in
theorem hd_body : bd = (((bd.drop 0).take 4) ++ (((bd.drop 4).take 1) ++ (((bd.drop 5).take 4) ++ (((bd.drop 9).take 11) ++ [])))) := by kernel_rfl
set_option maxHeartbeats 0 in
theorem hd_fin (w : World) (os : OsState) : topRun treeTable Challenge.pw_pu0047_03 w 28 (some (.ref 6)) 2 (sh obheap_e 645 w os) ⟨doneF .next, cbd, { line := 184, col := 0, endLine := 203, endCol := 75 }, tf⟩ = some (sh obheap_e 645 w os) := by kernel_rfl
theorem hd_rest (w : World) (os : OsState) : topRun treeTable Challenge.pw_pu0047_03 w 28 (some (.ref 6)) (185 + (728 + (372 + (284 + 2)))) (sh obheap_b 282 w os) (restOf bd tenv cbd { line := 0, col := 0, endLine := 0, endCol := 0 } tf) = some (sh obheap_e 645 w os) := by
  have h := piece_app (hd_p0 w os) (piece_app (hd_p1 w os) (piece_app (hd_p2 w os) (piece_app (hd_p3 w os) (piece_nil (hd_fin w os)))))
  rw [← hd_body] at h
  exact h
theorem hd_run (w : World) (os : OsState) : topRun treeTable Challenge.pw_pu0047_03 w 28 (some (.ref 6)) (12 + (1 + (185 + (728 + (372 + (284 + 2)))))) (sh obheap_a 276 w os) (topStub Challenge.pw_pu0047_03) = some (sh obheap_e 645 w os) := go_top (hd_pre w os) (piece_block (hd_block w os) (hd_rest w os))
set_option maxHeartbeats 0 in
theorem hd_looks (w : World) : (fun os => ((staticsOk (importedModules Challenge.pw_pu0047_03.main.body) (obheap_a w.params) (obheap_e w.params) && namesBound Challenge.pw_pu0047_03 (obheap_e w.params) && gensDone (sh obheap_e 645 w os) && laidKept (obheap_a w.params) (obheap_e w.params)),
    openSeen vw loose (importedModules Challenge.pw_pu0047_03.main.body) xt true (sh obheap_e 645 w os), obsZ ads (sh obheap_e 645 w os))) = fun _ => (true, openGood vw loose, valZ frag 283 645 w) := by kernel_rfl
theorem hd_left : LeftO Challenge.pw_pu0047_03 vw loose xt (obsZ ads) (valZ frag 283 645) 3256 := LeftO.of_pieces hd_open hd_size hd_run (by decide) hd_looks
theorem hd_keys (P : Params) : ads = (frag P).map (·.1) := rfl
theorem hd_said : Challenge.rw_pu0047_03.wellSaid = true := by decide +kernel

end Mine
open PySem PySem.W PySem.W.X PySem.W.ZRun PyProof.Rows
set_option maxHeartbeats 0 in
theorem PySem.Challenge.cw_pu0047_03_holds : PySem.Challenge.rw_pu0047_03.Holds := by
  w_on
  refine holds_law Mine.hd_said fun said => ?_
  refine holds_openX (q := Mine.vw) (loose := Mine.loose) (Xt := Mine.xt) (XP := XL Mine.vw []) (Yf := obsZ Mine.ads) (Ya := valZ Mine.frag 283 645) (N := 3256) Mine.hd_left (fun s e => xl_of s (Bool.and_eq_true_iff.mp e).1) XL.keeps (by rfl) (by rfl) (by rfl) (fun s e => recFacts_of (Bool.and_eq_true_iff.mp e).2) (by rfl) said (by decide +kernel) ⟨rfl, rfl, rfl, rfl, rfl, by decide +kernel⟩ ?hw ?hc
  case hw => w_witness2
  intro w s₀ s₁ mg mb G y fa o pm cd doc dV kV ho hd hcd hD hmg hg args vals as L hpre hlay hrd hwl hlo
  obtain ⟨ZA, ZI, ZN, ZT⟩ := z_facts Mine.hd_keys y
  have KX : (Mine.frag w.params).In s₁.heap := InK.keeps w s₀.heap s₁.heap ZI (Laid.keeps L)
  refine Ground.open G ?_
  intro T B D TE TW
  wrow_args hpre hlay hrd hwl hlo
  obtain ⟨hat, hsz⟩ := script_at L
  rw [ZN] at hat hsz
  subst hat
  x_fa T KX hmg
  all_lens
  rename_i w1' r0' hi9 hb9
  clear hd hcd hD
  have G3 : s₁.heap.Ns 3 mg := T.g
  have G0 : s₁.heap.Ns 0 mb := T.b
  have re43 : ∀ p ∈ ([43, 48] : List Addr), Mine.ReAt (Mine.KK Challenge.rw_pu0047_03.row.prog w s₁.heap) p ∧ ∀ o, (Mine.KK Challenge.rw_pu0047_03.row.prog w s₁.heap).h0.get? p = some o → o.dict = none := by
    intro p hp
    simp only [List.mem_cons, List.not_mem_nil, or_false] at hp
    rcases hp with rfl | rfl
    · refine ⟨⟨⟨_, _, 42, _, _, _, KX 43 _ rfl, rfl, rfl, rfl, rfl, rfl, KX 42 _ rfl, rfl, rfl, .inl (by kernel_rfl), (show (42 : Addr) ≠ 226 by decide)⟩, (show (43 : Addr) ≠ 226 by decide)⟩, fun o e => ?_⟩
      have e' := KX 43 _ rfl
      rw [e'] at e; cases e; rfl
    · refine ⟨⟨⟨_, _, 47, _, _, _, KX 48 _ rfl, rfl, rfl, rfl, rfl, rfl, KX 47 _ rfl, rfl, rfl, .inr (by kernel_rfl), (show (47 : Addr) ≠ 226 by decide)⟩, (show (48 : Addr) ≠ 226 by decide)⟩, fun o e => ?_⟩
      have e' := KX 48 _ rfl
      rw [e'] at e; cases e; rfl
  have N : Mine.S3 (Mine.KK Challenge.rw_pu0047_03.row.prog w s₁.heap) (Mine.Kcut (Mine.fragOf KX)) mg mb :=
    {
      G := ⟨G3, (show (3 : Addr) ≠ 226 by decide), G0, (show (0 : Addr) ≠ 226 by decide), T.nolimit, (show cStatics ≠ 226 by decide)⟩
      X := Mine.kf_of KX
      attrs := rfl
      x__law_small := Mine.fnok_of KX (c := 235) (Mine.fnOf (Mine.fragOf KX) 236) rfl rfl rfl rfl rfl rfl (by decide) (by decide) rfl rfl rfl rfl rfl
      g__law_small := Mine.ns_of KX G3 (by kernel_rfl)
      x__law_told := Mine.fnok_of KX (c := 242) (Mine.fnOf (Mine.fragOf KX) 243) rfl rfl rfl rfl rfl rfl (by decide) (by decide) rfl rfl rfl rfl rfl
      g__law_told := Mine.ns_of KX G3 (by kernel_rfl)
      x__law_written := Mine.fnok_of KX (c := 247) (Mine.fnOf (Mine.fragOf KX) 248) rfl rfl rfl rfl rfl rfl (by decide) (by decide) rfl rfl rfl rfl rfl
      g__law_written := Mine.ns_of KX G3 (by kernel_rfl)
      x__netrclex___init__ := Mine.fnok_of KX (c := 188) (Mine.fnOf (Mine.fragOf KX) 189) rfl rfl rfl rfl rfl rfl (by decide) (by decide) rfl rfl rfl rfl rfl
      m__netrclex___init__ := by kernel_rfl
      x_Headers__convert_string_type := Mine.fnok_of KX (c := 69) (Mine.fnOf (Mine.fragOf KX) 70) rfl rfl rfl rfl rfl rfl (by decide) (by decide) rfl rfl rfl rfl rfl
      m_Headers__convert_string_type := by kernel_rfl
      x_Headers___init__ := Mine.fnokD_of KX (c := 62) (Mine.fnOf (Mine.fragOf KX) 63) rfl rfl rfl rfl rfl rfl (by decide) (by decide) rfl rfl rfl rfl rfl
      bd_Headers___init__ := (by
        intro fd S a0 a1 hd hk
        obtain ⟨n1, n2, n3, n4, n5, n6, n7, n8, n9, n10, n11, n12, n13, n14, n15⟩ := fd
        subst hd; subst hk
        kernel_rfl)
      m_Headers___init__ := by kernel_rfl
      x_Headers_keys := Mine.fnok_of KX (c := 122) (Mine.fnOf (Mine.fragOf KX) 123) rfl rfl rfl rfl rfl rfl (by decide) (by decide) rfl rfl rfl rfl rfl
      m_Headers_keys := by kernel_rfl
      x__law_due := Mine.fnok_of KX (c := 271) (Mine.fnOf (Mine.fragOf KX) 272) rfl rfl rfl rfl rfl rfl (by decide) (by decide) rfl rfl rfl rfl rfl
      g__law_due := Mine.ns_of KX G3 (by kernel_rfl)
      x__law_order := Mine.fnok_of KX (c := 266) (Mine.fnOf (Mine.fragOf KX) 267) rfl rfl rfl rfl rfl rfl (by decide) (by decide) rfl rfl rfl rfl rfl
      g__law_order := Mine.ns_of KX G3 (by kernel_rfl)
      x_replace := Mine.fnok_of KX (c := 223) (Mine.fnOf (Mine.fragOf KX) 224) rfl rfl rfl rfl rfl rfl (by decide) (by decide) rfl rfl rfl rfl rfl
      g_replace := Mine.ns_of KX G3 (by kernel_rfl)
      x__law_rest := Mine.fnok_of KX (c := 261) (Mine.fnOf (Mine.fragOf KX) 262) rfl rfl rfl rfl rfl rfl (by decide) (by decide) rfl rfl rfl rfl rfl
      g__law_rest := Mine.ns_of KX G3 (by kernel_rfl)
      x_Headers___delitem__ := Mine.fnok_of KX (c := 88) (Mine.fnOf (Mine.fragOf KX) 89) rfl rfl rfl rfl rfl rfl (by decide) (by decide) rfl rfl rfl rfl rfl
      m_Headers___delitem__ := by kernel_rfl
      x_Headers___setitem__ := Mine.fnok_of KX (c := 83) (Mine.fnOf (Mine.fragOf KX) 84) rfl rfl rfl rfl rfl rfl (by decide) (by decide) rfl rfl rfl rfl rfl
      m_Headers___setitem__ := by kernel_rfl
      x__law_store := Mine.fnok_of KX (c := 254) (Mine.fnOf (Mine.fragOf KX) 255) rfl rfl rfl rfl rfl rfl (by decide) (by decide) rfl rfl rfl rfl rfl
      g__law_store := Mine.ns_of KX G3 (by kernel_rfl)
      x__netrclex__read_char := Mine.fnok_of KX (c := 195) (Mine.fnOf (Mine.fragOf KX) 196) rfl rfl rfl rfl rfl rfl (by decide) (by decide) rfl rfl rfl rfl rfl
      m__netrclex__read_char := by kernel_rfl
      x__netrclex_get_token := Mine.fnok_of KX (c := 202) (Mine.fnOf (Mine.fragOf KX) 203) rfl rfl rfl rfl rfl rfl (by decide) (by decide) rfl rfl rfl rfl rfl
      m__netrclex_get_token := by kernel_rfl
      x_Headers_items := Mine.fnok_of KX (c := 134) (Mine.fnOf (Mine.fragOf KX) 135) rfl rfl rfl rfl rfl rfl (by decide) (by decide) rfl rfl rfl rfl rfl
      m_Headers_items := by kernel_rfl
      x__law_items := Mine.fnok_of KX (c := 276) (Mine.fnOf (Mine.fragOf KX) 277) rfl rfl rfl rfl rfl rfl (by decide) (by decide) rfl rfl rfl rfl rfl
      g__law_items := Mine.ns_of KX G3 (by kernel_rfl)
      g_Headers := Mine.ns_of KX G3 (by kernel_rfl)
      c_Headers := by kernel_rfl
      f_Headers__headers := by kernel_rfl
      g__netrclex := Mine.ns_of KX G3 (by kernel_rfl)
      c__netrclex := by kernel_rfl
      f__netrclex_lineno := by kernel_rfl
      f__netrclex_instream := by kernel_rfl
      f__netrclex_whitespace := by kernel_rfl
      f__netrclex_pushback := by kernel_rfl
      g__name_disallowed_re := Mine.ns_of KX G3 (by kernel_rfl)
      g__value_disallowed_re := Mine.ns_of KX G3 (by kernel_rfl)
      iter0 := Mine.ns_of KX G3 (by kernel_rfl)
      iter1 := Mine.ns_of KX G0 (by kernel_rfl)
      len0 := Mine.ns_of KX G3 (by kernel_rfl)
      len1 := Mine.ns_of KX G0 (by kernel_rfl)
      list0 := Mine.ns_of KX G3 (by kernel_rfl)
      list1 := Mine.ns_of KX G0 (by kernel_rfl)
      range0 := Mine.ns_of KX G3 (by kernel_rfl)
      range1 := Mine.ns_of KX G0 (by kernel_rfl)
      str0 := Mine.ns_of KX G3 (by kernel_rfl)
      str1 := Mine.ns_of KX G0 (by kernel_rfl)
      type0 := Mine.ns_of KX G3 (by kernel_rfl)
      type1 := Mine.ns_of KX G0 (by kernel_rfl)
      rc := rfl
      rcm := by kernel_rfl
      rc1 := by kernel_rfl
      rc2 := by kernel_rfl
      rt := Mine.read_text
      re := re43
    }
  have SF : Mine.StreamFacts (Mine.KK Challenge.rw_pu0047_03.row.prog w s₁.heap) mg mb (Mine.stAt 11) 229 228 :=
    { G := N.G
      fn := ⟨Mine.fnOf (Mine.fragOf KX) 229, ⟨⟨_, KX 229 _ rfl, rfl⟩, (show (229 : Addr) ≠ 226 by decide), rfl, ⟨228, _, _, _, rfl, KX 228 _ rfl, rfl, rfl, (show (228 : Addr) ≠ 226 by decide)⟩, rfl, rfl, rfl, rfl, rfl, rfl⟩, rfl, rfl, rfl⟩
      hd := ⟨_, _, _, _, _, _, _, _, _, KX 228 _ rfl, rfl, rfl, rfl, rfl, rfl, rfl, rfl, rfl, (show (228 : Addr) ≠ 226 by decide)⟩
      bl := ⟨4, _, Mine.ns_of KX G3 (by kernel_rfl), by decide, by decide, (show (4 : Addr) ≠ 226 by decide), KX 4 _ rfl, rfl, rfl, rfl⟩
      emp := fun ps e => e }
  have e226 := KX 226 _ rfl
  have H0 : Mine.HRel (Mine.KK Challenge.rw_pu0047_03.row.prog w s₁.heap) [] [] s₁.heap :=
    ⟨⟨_, e226⟩, fun _ _ e _ => e, ⟨#[], rfl, e226⟩, rfl, List.nodup_nil, (fun _ h => by cases h), (fun _ h => by cases h), (fun _ h => by cases h), (fun _ _ _ h => by cases h)⟩
  have FX : Mine.FnOk (Mine.KK Challenge.rw_pu0047_03.row.prog w s₁.heap) 282 (Mine.stAt 20) :=
    Mine.fnok_of KX (c := 281) (Mine.fnOf (Mine.fragOf KX) 282) rfl rfl rfl rfl rfl rfl (by decide) (by decide) rfl rfl rfl rfl rfl
  have hv := Mine.well_vr (by assumption)
  refine wpAny_mono (Mine.law3_end KX N SF (Mine.ns_of KX G3 (by kernel_rfl)) FX H0 ⟨228, _, _, KX 228 _ rfl, rfl, rfl, rfl⟩ e226 hb9.2 hv) ?_ (fun _ _ x => x)
  rintro v s' ⟨rfl, a, b, c⟩
  exact ⟨.inl ⟨.bool true, .bool true, [], rfl, (fun _ => rfl), .bool true, (by kernel_rfl), fun _ => ⟨List.nodup_nil, fun _ h => by cases h⟩⟩, a, b, AllBare.of_eq (c.trans hg)⟩


