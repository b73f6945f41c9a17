import PyProof.Rows.All
import Wide.All
import OpenK.AllK
import Wide.FinOn
import PyProof.Rows.Range3
import KE.KxPercentT
import PyProof.DictItemsLoops
import PyProof.StrLawsChain
import KE.KLam
import KE.KStateDown
import PyProof.StrLawsIn
import PySem.Challenge.RW_pu0047_01
set_option Elab.async false
set_option autoImplicit false
set_option maxRecDepth 100000
set_option maxHeartbeats 0
namespace Mine
open PySem
inductive V where
 | d (x : PyData)
 | r (i : Nat)
 | rng (a b c : Int)
 | g (v : Value)
inductive O where
 | lst (l : List PyData)
 | inst (c : Addr) (fs : List (Nat × V))
 | stream (l : List Nat)
 | citer (o : Option Nat)
 | edict
structure KX where
 prog : Program
 w : World
 h0 : Heap
 tb : Addr
 tc : Addr
 ok : Array Value → Prop
 attrs : List Str
 readChar : Addr
 streamFn : FuncData
 readFd : FuncData
structure P where
 a : Addr
 m : Addr
 f : List Addr
noncomputable abbrev Rho := List P
noncomputable abbrev mu (ρ : Rho) : List Addr := ρ.map (·.m)
noncomputable abbrev IsT (h : Heap) (l : Addr) (items : Array Value) (n : Nat) : Prop := h.get? l = some { cls := .type "tuple", dict := none, data := .seq items n, slots := #[] }
mutual
inductive DR (h : Heap) (μ : List Addr) : Value → PyData → Prop
 | none : DR h μ .none .none
 | bool (b : Bool) : DR h μ (.bool b) (.bool b)
 | int (i : Int) (t : Tok) : DR h μ (.int i t) (.int i)
 | str (x : Str) (t : Tok) : DR h μ (.str x t) (.str x)
 | list {a : Addr} {vs : Array Value} {n : Nat} {xs : List PyData} : IsL h a vs n → a ∉ μ → DRs h μ vs.toList xs → DR h μ (.ref a) (.list xs)
 | tuple {a : Addr} {vs : Array Value} {n : Nat} {xs : List PyData} : IsT h a vs n → a ∉ μ → DRs h μ vs.toList xs → DR h μ (.ref a) (.tuple xs)
inductive DRs (h : Heap) (μ : List Addr) : List Value → List PyData → Prop
 | nil : DRs h μ [] []
 | cons {v : Value} {vs : List Value} {x : PyData} {xs : List PyData} : DR h μ v x → DRs h μ vs xs → DRs h μ (v :: vs) (x :: xs)
end
mutual
theorem DR.mono {h h' : Heap} {μ μ' : List Addr} (hk : ∀ a o vs n, h.get? a = some o → o.data = .seq vs n → a ∉ μ → h'.get? a = some o ∧ a ∉ μ') : ∀ {v : Value} {x : PyData}, DR h μ v x → DR h' μ' v x
 | _, _, .none => .none
 | _, _, .bool b => .bool b
 | _, _, .int i t => .int i t
 | _, _, .str x t => .str x t
 | _, _, .list h1 h4 h5 => .list (hk _ _ _ _ h1 rfl h4).1 (hk _ _ _ _ h1 rfl h4).2 (DRs.mono hk h5)
 | _, _, .tuple h1 h4 h5 => .tuple (hk _ _ _ _ h1 rfl h4).1 (hk _ _ _ _ h1 rfl h4).2 (DRs.mono hk h5)
theorem DRs.mono {h h' : Heap} {μ μ' : List Addr} (hk : ∀ a o vs n, h.get? a = some o → o.data = .seq vs n → a ∉ μ → h'.get? a = some o ∧ a ∉ μ') : ∀ {vs : List Value} {xs : List PyData}, DRs h μ vs xs → DRs h' μ' vs xs
 | _, _, .nil => .nil
 | _, _, .cons h r => .cons (DR.mono hk h) (DRs.mono hk r)
end
mutual
theorem DR.reads {h : Heap} {μ : List Addr} : ∀ {v : Value} {x : PyData}, DR h μ v x → ∃ as, Reads h v x as
 | _, _, .none => ⟨_, .none⟩
 | _, _, .bool b => ⟨_, .bool b⟩
 | _, _, .int i t => ⟨_, .int i t⟩
 | _, _, .str x t => ⟨_, .str x t⟩
 | _, _, .list h1 _ h5 => let ⟨_, r⟩ := DRs.reads h5; ⟨_, .list h1 rfl rfl r⟩
 | _, _, .tuple h1 _ h5 => let ⟨_, r⟩ := DRs.reads h5; ⟨_, .tuple h1 rfl rfl r⟩
theorem DRs.reads {h : Heap} {μ : List Addr} : ∀ {vs : List Value} {xs : List PyData}, DRs h μ vs xs → ∃ as, ReadsAll h vs xs as
 | _, _, .nil => ⟨_, .nil⟩
 | _, _, .cons h r => let ⟨_, p⟩ := DR.reads h; let ⟨_, q⟩ := DRs.reads r; ⟨_, .cons p q⟩
end
theorem DRs.length {h : Heap} {μ : List Addr} {vs : List Value} {xs : List PyData} (r : DRs h μ vs xs) : vs.length = xs.length := by
 induction vs generalizing xs with
 | nil => cases r; rfl
 | cons v vs ih => cases r with | cons _ r => simp [ih r]
theorem DRs.append {h : Heap} {μ : List Addr} {vs ws : List Value} {xs ys : List PyData} (r : DRs h μ vs xs) (q : DRs h μ ws ys) : DRs h μ (vs ++ ws) (xs ++ ys) := by
 induction vs generalizing xs with
 | nil => cases r; exact q
 | cons v vs ih => cases r with | cons h r => exact .cons h (ih r)
theorem DRs.get {h : Heap} {μ : List Addr} {vs : List Value} {xs : List PyData} (r : DRs h μ vs xs) {k : Nat} {x : PyData} (e : xs[k]? = some x) : ∃ v, vs[k]? = some v ∧ DR h μ v x := by
 induction vs generalizing xs k with
 | nil => cases r; simp at e
 | cons v vs ih =>
  cases r with
  | cons h r =>
   cases k with
   | zero => simp at e; subst e; exact ⟨v, by simp, h⟩
   | succ k => simp at e; obtain ⟨w, hw, q⟩ := ih r e; exact ⟨w, by simpa using hw, q⟩
theorem DRs.take {h : Heap} {μ : List Addr} {vs : List Value} {xs : List PyData} (r : DRs h μ vs xs) (k : Nat) : DRs h μ (vs.take k) (xs.take k) := by
 induction vs generalizing xs k with
 | nil => cases r; simp; exact .nil
 | cons v vs ih => cases r with | cons h r => cases k with
  | zero => exact .nil
  | succ k => exact .cons h (ih r k)
theorem DRs.drop {h : Heap} {μ : List Addr} {vs : List Value} {xs : List PyData} (r : DRs h μ vs xs) (k : Nat) : DRs h μ (vs.drop k) (xs.drop k) := by
 induction vs generalizing xs k with
 | nil => cases r; simp; exact .nil
 | cons v vs ih => cases r with | cons h r => cases k with
  | zero => exact .cons h r
  | succ k => exact ih r k
theorem DRs.set {h : Heap} {μ : List Addr} {vs : List Value} {xs : List PyData} (r : DRs h μ vs xs) (k : Nat) {v : Value} {x : PyData} (e : DR h μ v x) : DRs h μ (vs.set k v) (xs.set k x) := by
 induction vs generalizing xs k with
 | nil => cases r; simp; exact .nil
 | cons w vs ih => cases r with | cons h r => cases k with
  | zero => exact .cons e r
  | succ k => exact .cons h (ih r k)
theorem DRs.reverse {h : Heap} {μ : List Addr} {vs : List Value} {xs : List PyData} (r : DRs h μ vs xs) : DRs h μ vs.reverse xs.reverse := by
 induction vs generalizing xs with
 | nil => cases r; exact .nil
 | cons w vs ih => cases r with | cons h r => simp only [List.reverse_cons]; exact (ih r).append (.cons h .nil)
noncomputable def isG : Value → Prop
 | .ref _ => True
 | .type _ => True
 | _ => False
inductive PlaceR (ρ : Rho) (i : Nat) (v : Value) : Prop
 | mk (p : P) (e : ρ[i]? = some p) (ev : v = .ref p.a)
inductive RngR (ρ : Rho) (h : Heap) (a b c : Int) (v : Value) : Prop
 | mk (q : Addr) (t u w : Tok) (ev : v = .ref q) (e : h.get? q = some { cls := .type "range", data := .fields #[.int a t, .int b u, .int c w] }) (hm : q ∉ mu ρ)
noncomputable def VR (ρ : Rho) (h : Heap) : V → Value → Prop
 | .d x, v => DR h (mu ρ) v x
 | .r i, v => PlaceR ρ i v
 | .rng a b c, v => RngR ρ h a b c v
 | .g v, w => w = v ∧ isG v
inductive Held (ρ : Rho) (h : Heap) (o : Option Value) (v : V) : Prop
 | mk (rv : Value) (e : o = some rv) (r : VR ρ h v rv)
noncomputable abbrev KX.New (K : KX) (a : Addr) : Prop := K.h0.get? a = none
theorem get?_beyond {h : Heap} {a : Addr} (ha : h.objs.size ≤ a) : h.get? a = none := by
 cases e : h.get? a with
 | none => rfl
 | some o => exact absurd (Heap.lt_size e) (Nat.not_lt.mpr ha)
theorem ne_of_get? {h : Heap} {a b : Addr} {o : Obj} (ha : h.get? a = none) (hb : h.get? b = some o) : b ≠ a := by
 rintro rfl; rw [ha] at hb; cases hb
structure SD where
 oF : Obj
 fd : FuncData
 D : Addr
 od : Obj
 m : Str → Option Value
 R : Addr
 oR : Obj
 rfd : FuncData
 c : Addr
 oc : Obj
 vs : Array Value
 n : Nat
 cc : Addr
 oc' : Obj
 cvs : Array Value
 t : Tok
structure SA (rf : FuncData) (h : Heap) (p : P) (d : SD) : Prop where
 a1 : h.get? p.a = some d.oF
 a2 : d.oF.cls = .type "function"
 a3 : d.oF.dict = some d.D
 a4 : d.oF.data = .func d.fd
 a5 : p.a ∈ p.f
 b1 : h.get? d.D = some d.od
 b3 : h.Ns d.D d.m
 b4 : d.D ∈ p.f
 b6 : d.m "read" = some (.ref d.R)
 b7 : ∀ x, x ≠ ("read" : Str) → d.m x = none
 c1 : h.get? d.R = some d.oR
 c2 : d.oR.cls = .type "function"
 c3 : d.oR.dict = none
 c4 : d.oR.data = .func d.rfd
 c5 : d.R ∈ p.f
 c7 : d.rfd.params = rf.params
 c8 : d.rfd.body = rf.body
 c9 : d.rfd.scope = rf.scope
 c10 : d.rfd.globals = 3
 c11 : d.rfd.closure = [(("left" : Str), d.c)]
 c12 : d.rfd.defaults = .none
 c13 : d.rfd.kwdefaults = .none
 c14 : d.rfd.builtins = 0
 d1 : d.rfd.code = .ref d.cc
 d2 : h.get? d.cc = some d.oc'
 d3 : d.oc'.data = .fields d.cvs
 d4 : d.cvs[1]? = some (.str d.rfd.qualname d.t)
 d5 : d.cc ∈ p.f
 e1 : h.get? d.c = some d.oc
 e2 : d.oc.data = .cell (some (.ref p.m))
 e3 : d.c ∈ p.f
theorem SA.keeps {rf : FuncData} {h h' : Heap} {p : P} {d : SD} (X : SA rf h p d) (hk : ∀ b o, h.get? b = some o → b ∈ p.f → h'.get? b = some o) : SA rf h' p d where
 a1 := hk _ _ X.a1 X.a5
 a2 := X.a2
 a3 := X.a3
 a4 := X.a4
 a5 := X.a5
 b1 := hk _ _ X.b1 X.b4
 b3 := by obtain ⟨o, es, ep, e, q⟩ := X.b3; exact ⟨o, es, ep, hk _ _ e X.b4, q⟩
 b4 := X.b4
 b6 := X.b6
 b7 := X.b7
 c1 := hk _ _ X.c1 X.c5
 c2 := X.c2
 c3 := X.c3
 c4 := X.c4
 c5 := X.c5
 c7 := X.c7
 c8 := X.c8
 c9 := X.c9
 c10 := X.c10
 c11 := X.c11
 c12 := X.c12
 c13 := X.c13
 c14 := X.c14
 d1 := X.d1
 d2 := hk _ _ X.d2 X.d5
 d3 := X.d3
 d4 := X.d4
 d5 := X.d5
 e1 := hk _ _ X.e1 X.e3
 e2 := X.e2
 e3 := X.e3
theorem SA.vs {rf : FuncData} {h : Heap} {p : P} {d : SD} (X : SA rf h p d) (vs : Array Value) (n : Nat) : SA rf h p { d with vs := vs, n := n } := ⟨X.a1, X.a2, X.a3, X.a4, X.a5, X.b1, X.b3, X.b4, X.b6, X.b7, X.c1, X.c2, X.c3, X.c4, X.c5, X.c7, X.c8, X.c9, X.c10, X.c11, X.c12, X.c13, X.c14, X.d1, X.d2, X.d3, X.d4, X.d5, X.e1, X.e2, X.e3⟩
noncomputable def StreamAt (K : KX) (ρ : Rho) (h : Heap) (p : P) (l : List Nat) : Prop :=
 ∃ d : SD, SA K.readFd h p d ∧ IsL h p.m d.vs d.n ∧ DRs h (mu ρ) d.vs.toList (l.reverse.map fun c => .str ⟨#[c]⟩)
noncomputable def isField : V → Prop
 | .rng .. => False
 | .g _ => False
 | _ => True
inductive OLst (ρ : Rho) (h : Heap) (p : P) (l : List PyData) : Prop
 | mk (ea : p.a = p.m) (vs : Array Value) (n : Nat) (hl : IsL h p.m vs n) (d : DRs h (mu ρ) vs.toList l)
inductive OInst (at' : List Str) (ρ : Rho) (h : Heap) (i : Nat) (p : P) (c : Addr) (fs : List (Nat × V)) : Prop
 | mk (o od : Obj) (m : Str → Option Value) (h1 : h.get? p.a = some o) (h2 : o.cls = .ref c) (h3 : o.dict = some p.m) (h4 : o.data = .plain) (h5 : p.a ∈ p.f)
   (h7 : h.get? p.m = some od) (h8 : od.cls = .type "dict") (h9 : h.Ns1 p.m m)
   (h10 : ∀ k x, at'[k]? = some x → match fs.lookup k with
    | some v => Held ρ h (m x) v ∧ (∀ j, v = .r j → j < i) ∧ isField v
    | none => m x = none) (h11 : ∀ x, x ∉ at' → m x = none)
inductive OCit (rc : Addr) (ρ : Rho) (h : Heap) (i : Nat) (p : P) (c : Option Nat) : Prop
 | mk (ea : p.a = p.m) (o : Obj) (vs : Array Value) (h1 : h.get? p.m = some o) (h2 : o.cls = .type "callable_iterator") (h3 : o.data = .fields vs)
   (h4 : match c with
   | none => vs = #[.none, .none, .bool true]
   | some j => j < i ∧ ∃ M t q, vs = #[.ref M, .str ⟨#[]⟩ t, .bool false] ∧ h.get? M = some (W.methodObj (.ref rc) (.ref q.a)) ∧ M ∈ p.f ∧ ρ[j]? = some q)
noncomputable def OR (K : KX) (ρ : Rho) (h : Heap) (i : Nat) (p : P) : O → Prop
 | .lst l => OLst ρ h p l
 | .inst c fs => OInst K.attrs ρ h i p c fs
 | .stream l => StreamAt K ρ h p l
 | .edict => p.a = p.m ∧ h.get? p.m = some { cls := .type "dict", data := .dict #[] }
 | .citer c => OCit K.readChar ρ h i p c
inductive TabOk (K : KX) (h : Heap) : Prop
 | mk (ps : Array Value) (okp : K.ok ps) (e : h.get? K.tb = some { cls := .none, data := .fields ps })
structure HRel (K : KX) (ρ : Rho) (hp : List O) (h : Heap) : Prop where
 tbd : ∃ o, K.h0.get? K.tb = some o
 keep : ∀ b o, K.h0.get? b = some o → b ≠ K.tb → h.get? b = some o
 tab : TabOk K h
 len : ρ.length = hp.length
 nd : (mu ρ).Nodup
 hi : ∀ p ∈ ρ, K.New p.m
 fx : ∀ p ∈ ρ, ∀ a ∈ p.f, a ∉ mu ρ ∧ K.New a
 lt : ∀ p ∈ ρ, (∃ o, h.get? p.m = some o) ∧ ∀ a ∈ p.f, ∃ o, h.get? a = some o
 ob : ∀ i o p, hp[i]? = some o → ρ[i]? = some p → OR K ρ h i p o
structure Step (K : KX) (ρ : Rho) (h : Heap) (ρ' : Rho) (h' : Heap) : Prop where
 pre : ρ <+: ρ'
 new : ∀ p ∈ ρ', p ∈ ρ ∨ (h.get? p.m = none ∧ ∀ a ∈ p.f, h.get? a = none)
 keep : ∀ b o, h.get? b = some o → b ≠ K.tb → b ∉ mu ρ → h'.get? b = some o
 dom : ∀ b o, h.get? b = some o → ∃ o', h'.get? b = some o'
theorem none_of_dom {h h' : Heap} (hd : ∀ b o, h.get? b = some o → ∃ o', h'.get? b = some o') {a : Addr} (e : h'.get? a = none) : h.get? a = none := by
 cases q : h.get? a with
 | none => rfl
 | some o => obtain ⟨o', q'⟩ := hd a o q; rw [e] at q'; cases q'
theorem Step.refl (K : KX) (ρ : Rho) (h : Heap) : Step K ρ h ρ h := ⟨List.prefix_refl _, fun _ hp => .inl hp, fun _ _ e _ _ => e, fun _ o e => ⟨o, e⟩⟩
theorem Step.grow {K : KX} {ρ : Rho} {h h' : Heap} (hk : ∀ b o, h.get? b = some o → h'.get? b = some o) : Step K ρ h ρ h' :=
 ⟨List.prefix_refl _, fun _ hp => .inl hp, fun _ _ e _ _ => hk _ _ e, fun _ o e => ⟨o, hk _ _ e⟩⟩
theorem Step.notMu {K : KX} {ρ ρ' : Rho} {h h' : Heap} (S : Step K ρ h ρ' h') {b : Addr} {o : Obj} (hb : h.get? b = some o) (hn : b ∉ mu ρ) : b ∉ mu ρ' := by
 intro hm
 obtain ⟨p, hp, rfl⟩ := List.mem_map.mp hm
 rcases S.new p hp with q | q
 ·exact hn (List.mem_map.mpr ⟨p, q, rfl⟩)
 ·rw [q.1] at hb; cases hb
theorem Step.trans {K : KX} {ρ ρ₁ ρ₂ : Rho} {h h₁ h₂ : Heap} (a : Step K ρ h ρ₁ h₁) (b : Step K ρ₁ h₁ ρ₂ h₂) : Step K ρ h ρ₂ h₂ :=
 ⟨a.pre.trans b.pre, fun p hp => (b.new p hp).elim (fun q => a.new p q) fun q => .inr ⟨none_of_dom a.dom q.1, fun x hx => none_of_dom a.dom (q.2 x hx)⟩,
  fun x o e h1 h2 => b.keep x o (a.keep x o e h1 h2) h1 (a.notMu e h2), fun x o e => let ⟨o', e'⟩ := a.dom x o e; b.dom x o' e'⟩
theorem pre_get {ρ ρ' : Rho} (hpre : ρ <+: ρ') {i : Nat} {p : P} (e : ρ[i]? = some p) : ρ'[i]? = some p := by
 obtain ⟨t, rfl⟩ := hpre
 rw [List.getElem?_append_left (List.getElem?_eq_some_iff.mp e).1]; exact e
theorem Step.get {K : KX} {ρ ρ' : Rho} {h h' : Heap} (S : Step K ρ h ρ' h') {i : Nat} {p : P} (e : ρ[i]? = some p) : ρ'[i]? = some p := pre_get S.pre e
section
variable {K : KX} {ρ ρ' : Rho} {hp hp' : List O} {h h' : Heap}
theorem HRel.tbObj (H : HRel K ρ hp h) {a : Addr} {o : Obj} (e : h.get? a = some o) (hc : o.cls ≠ .none) : a ≠ K.tb := by
 rintro rfl
 obtain ⟨_, _, e'⟩ := H.tab
 rw [e'] at e; cases e; exact hc rfl
theorem HRel.seqTb (H : HRel K ρ hp h) {a : Addr} {o : Obj} {vs : Array Value} {n : Nat} (e : h.get? a = some o) (hd : o.data = .seq vs n) : a ≠ K.tb := by
 rintro rfl
 obtain ⟨_, _, e'⟩ := H.tab
 rw [e'] at e; cases e; cases hd
theorem HRel.newTb (H : HRel K ρ hp h) {b : Addr} (q : K.New b) : b ≠ K.tb := by
 rintro rfl
 obtain ⟨o, e⟩ := H.tbd
 rw [q] at e; cases e
theorem HRel.fresh (H : HRel K ρ hp h) {a : Addr} (q : h.get? a = none) : K.New a := by
 cases e : K.h0.get? a with
 | none => exact e
 | some o =>
  by_cases ha : a = K.tb
  ·subst ha; obtain ⟨_, _, e'⟩ := H.tab; rw [q] at e'; cases e'
  ·rw [H.keep a o e ha] at q; cases q
theorem DR.step (S : Step K ρ h ρ' h') (H : HRel K ρ hp h) {v : Value} {x : PyData} (d : DR h (mu ρ) v x) : DR h' (mu ρ') v x :=
 d.mono fun a o vs n e hd hm => ⟨S.keep a o e (H.seqTb e hd) hm, S.notMu e hm⟩
theorem DRs.step (S : Step K ρ h ρ' h') (H : HRel K ρ hp h) {v : List Value} {x : List PyData} (d : DRs h (mu ρ) v x) : DRs h' (mu ρ') v x :=
 d.mono fun a o vs n e hd hm => ⟨S.keep a o e (H.seqTb e hd) hm, S.notMu e hm⟩
theorem VR.step (S : Step K ρ h ρ' h') (H : HRel K ρ hp h) {v : V} {rv : Value} (d : VR ρ h v rv) : VR ρ' h' v rv := by
 cases v with
 | d x => exact DR.step S H d
 | r i => obtain ⟨p, e, rfl⟩ := d; exact ⟨p, S.get e, rfl⟩
 | rng a b c =>
  obtain ⟨q, t, u, v, rfl, e, hm⟩ := d
  exact ⟨q, t, u, v, rfl, S.keep _ _ e (H.tbObj e (by simp)) hm, S.notMu e hm⟩
 | g v => exact d
theorem OR.keeps (H : HRel K ρ hp h) {i : Nat} {p : P} {o : O} (r : OR K ρ h i p o)
  (hk : ∀ b ob, h.get? b = some ob → b ∈ p.f ∨ b = p.m → h'.get? b = some ob)
  (hd : ∀ a o vs n, h.get? a = some o → o.data = .seq vs n → a ∉ mu ρ → h'.get? a = some o ∧ a ∉ mu ρ')
  (hpre : ρ <+: ρ') : OR K ρ' h' i p o := by
 have hD : ∀ {vs : List Value} {xs : List PyData}, DRs h (mu ρ) vs xs → DRs h' (mu ρ') vs xs := fun d => d.mono hd
 have hV : ∀ {v : V} {rv : Value}, isField v → VR ρ h v rv → VR ρ' h' v rv := by
  intro v rv hf d
  cases v with
  | d x => exact DR.mono hd d
  | r i => obtain ⟨p, e, rfl⟩ := d; exact ⟨p, pre_get hpre e, rfl⟩
  | rng a b c => exact hf.elim
  | g v => exact hf.elim
 have hN : ∀ {a : Addr} {m : Str → Option Value}, h.Ns a m → a ∈ p.f ∨ a = p.m → h'.Ns a m := by
  rintro a m ⟨o, es, ep, e, q⟩ hq
  exact ⟨o, es, ep, hk a o e hq, q⟩
 cases o with
 | lst l =>
  obtain ⟨e, vs, n, h1, h4⟩ := r
  exact ⟨e, vs, n, hk _ _ h1 (.inr rfl), hD h4⟩
 | inst c fs =>
  obtain ⟨o, od, m, h1, h2, h3, h4, h5, h7, h8, h9, h10, h11⟩ := r
  refine ⟨o, od, m, hk _ _ h1 (.inl h5), h2, h3, h4, h5, hk _ _ h7 (.inr rfl), h8, h9.at (fun o e => hk _ _ e (.inr rfl)), ?_, h11⟩
  intro k x hx
  have q := h10 k x hx
  revert q
  cases fs.lookup k with
  | none => exact id
  | some v => rintro ⟨⟨rv, q1, q2⟩, q3, q4⟩; exact ⟨⟨rv, q1, hV q4 q2⟩, q3, q4⟩
 | stream l =>
  obtain ⟨d, X, f1, f4⟩ := r
  exact ⟨d, X.keeps (fun b o e m => hk _ _ e (.inl m)), hk _ _ f1 (.inr rfl), hD f4⟩
 | edict => exact ⟨r.1, hk _ _ r.2 (.inr rfl)⟩
 | citer c =>
  obtain ⟨e, o, vs, h1, h2, h3, h4⟩ := r
  refine ⟨e, o, vs, hk _ _ h1 (.inr rfl), h2, h3, ?_⟩
  cases c with
  | none => exact h4
  | some j =>
   obtain ⟨hj, M, t, q, q1, q2, q4, q6⟩ := h4
   exact ⟨hj, M, t, q, q1, hk _ _ q2 (.inl q4), q4, pre_get hpre q6⟩
theorem HRel.grow (H : HRel K ρ hp h) (hk : ∀ b o, h.get? b = some o → h'.get? b = some o) : HRel K ρ hp h' :=
 ⟨H.tbd, fun b o e q => hk _ _ (H.keep b o e q), let ⟨m, okm, e⟩ := H.tab; ⟨m, okm, hk _ _ e⟩, H.len, H.nd, H.hi, H.fx,
  fun p hp => ⟨let ⟨o, e⟩ := (H.lt p hp).1; ⟨o, hk _ _ e⟩, fun a ha => let ⟨o, e⟩ := (H.lt p hp).2 a ha; ⟨o, hk _ _ e⟩⟩,
  fun i o p e q => (H.ob i o p e q).keeps H (fun b ob x _ => hk _ _ x) (fun a o vs n e _ x => ⟨hk _ _ e, x⟩) (List.prefix_refl _)⟩
theorem HRel.push (H : HRel K ρ hp h) (o : Obj) : HRel K ρ hp (h.push o) := H.grow (fun _ _ e => Heap.get?_push_of_some o e)
theorem Step.push (K : KX) (ρ : Rho) (h : Heap) (o : Obj) : Step K ρ h ρ (h.push o) := Step.grow (fun _ _ e => Heap.get?_push_of_some o e)
theorem HRel.muDom (H : HRel K ρ hp h) {a : Addr} (ha : a ∈ mu ρ) : ∃ o, h.get? a = some o := by
 obtain ⟨p, hp, rfl⟩ := List.mem_map.mp ha
 exact (H.lt p hp).1
theorem HRel.notMu (H : HRel K ρ hp h) {a : Addr} (ha : h.get? a = none) : a ∉ mu ρ := fun hm => by
 obtain ⟨o, e⟩ := H.muDom hm
 rw [ha] at e; cases e
theorem HRel.sizeMu (H : HRel K ρ hp h) : h.objs.size ∉ mu ρ := H.notMu (get?_beyond (Nat.le_refl _))
noncomputable def Off (ρ : Rho) (a : Addr) : Prop := ∀ p ∈ ρ, a ≠ p.m ∧ a ∉ p.f
theorem Off.mu {ρ : Rho} {a : Addr} (x : Off ρ a) : a ∉ mu ρ := fun hm => by
 obtain ⟨p, hp, rfl⟩ := List.mem_map.mp hm
 exact (x p hp).1 rfl
theorem HRel.off (H : HRel K ρ hp h) {a : Addr} (ha : h.get? a = none) : Off ρ a := by
 intro p hp
 constructor
 ·intro e
  obtain ⟨o, q⟩ := (H.lt p hp).1
  rw [← e, ha] at q
  cases q
 ·intro hm
  obtain ⟨o, q⟩ := (H.lt p hp).2 a hm
  rw [ha] at q
  cases q
theorem HRel.other (H : HRel K ρ hp h) {a : Addr} (ha : K.New a) (hm : Off ρ a) (hs : Heap.ExtBut a h h')
  (hd : ∀ o, h.get? a = some o → ∀ vs n, o.data ≠ .seq vs n) : HRel K ρ hp h' := by
 refine ⟨H.tbd, fun b o e q => hs b o (ne_of_get? ha e) (H.keep b o e q),
  let ⟨m, okm, e⟩ := H.tab; ⟨m, okm, hs _ _ (Ne.symm (H.newTb ha)) e⟩, H.len, H.nd, H.hi, H.fx,
  fun p hp => ⟨let ⟨o, e⟩ := (H.lt p hp).1; ⟨o, hs _ _ (Ne.symm (hm p hp).1) e⟩, fun b hb => let ⟨o, e⟩ := (H.lt p hp).2 b hb; ⟨o, hs _ _ (fun e => (hm p hp).2 (e ▸ hb)) e⟩⟩,
  fun i o p e q => (H.ob i o p e q).keeps H (fun b ob x y => hs b ob ?_ x) (fun b o vs n e hq x => ⟨hs b o ?_ e, x⟩) (List.prefix_refl _)⟩
 ·rintro rfl
  have z := hm p (List.mem_of_getElem? q)
  exact y.elim z.2 z.1
 ·rintro rfl; exact hd o e vs n hq
theorem Off.step (S : Step K ρ h ρ' h') {a : Addr} {o : Obj} (ha : h.get? a = some o) (x : Off ρ a) : Off ρ' a := fun p hp => by
 rcases S.new p hp with q | q
 ·exact x p q
 ·exact ⟨ne_of_get? q.1 ha, fun hf => by rw [q.2 a hf] at ha; cases ha⟩
theorem HRel.own (H : HRel K ρ hp h) {i : Nat} {p : P} {o : O} (hi : ρ[i]? = some p) (hl : i < hp.length) (hs : Heap.SameBut p.m h h') (ho : OR K ρ h' i p o) (hd : ∃ o, h'.get? p.m = some o) : HRel K ρ (hp.set i o) h' := by
 have pm := List.mem_of_getElem? hi
 have hpm : p.m ∈ mu ρ := List.mem_map.mpr ⟨p, pm, rfl⟩
 have dom : ∀ b o, h.get? b = some o → ∃ o', h'.get? b = some o' := fun b o e => by
  by_cases hb : b = p.m
  ·rw [hb]; exact hd
  ·exact ⟨o, (hs.2 b hb).trans e⟩
 refine ⟨H.tbd, fun b ob e q => (hs.2 b (ne_of_get? (H.hi p pm) e)).trans (H.keep b ob e q),
  let ⟨m, okm, e⟩ := H.tab; ⟨m, okm, (hs.2 _ (Ne.symm (H.newTb (H.hi p pm)))).trans e⟩, by rw [List.length_set]; exact H.len, H.nd, H.hi, H.fx,
  fun p hp => ⟨let ⟨o, e⟩ := (H.lt p hp).1; dom _ o e, fun a ha => let ⟨o, e⟩ := (H.lt p hp).2 a ha; dom _ o e⟩, fun j oj pj e q => ?_⟩
 rw [List.getElem?_set] at e
 by_cases hij : i = j
 ·subst hij
  rw [if_pos rfl, if_pos hl] at e
  cases e
  rw [hi] at q; cases q
  exact ho
 ·rw [if_neg hij] at e
  have nm : pj.m ≠ p.m := by
   intro heq
   have h1 : (mu ρ)[i]? = some p.m := by simp [mu, hi]
   have h2 : (mu ρ)[j]? = some p.m := by simp [mu, q, heq]
   have l1 := (List.getElem?_eq_some_iff.mp h1).1
   exact hij ((List.getElem?_inj l1 H.nd).mp (h1.trans h2.symm))
  refine (H.ob j oj pj e q).keeps H (fun b ob x y => (hs.2 b ?_).trans x) (fun b o vs n e hq x => ⟨(hs.2 b ?_).trans e, x⟩) (List.prefix_refl _)
  ·rintro rfl
   rcases y with y | y
   ·exact (H.fx pj (List.mem_of_getElem? q) _ y).1 hpm
   ·exact nm y.symm
  ·rintro rfl; exact x hpm
theorem Step.own {p : P} (hi : p ∈ ρ) (hs : Heap.SameBut p.m h h') (hd : ∃ o, h'.get? p.m = some o) : Step K ρ h ρ h' :=
 ⟨List.prefix_refl _, fun _ hp => .inl hp, fun b o e _ hm => (hs.2 b (by rintro rfl; exact hm (List.mem_map.mpr ⟨p, hi, rfl⟩))).trans e,
  fun b o e => by
   by_cases hb : b = p.m
   ·rw [hb]; exact hd
   ·exact ⟨o, (hs.2 b hb).trans e⟩⟩
theorem HRel.add (H : HRel K ρ hp h) (hk : ∀ b o, h.get? b = some o → h'.get? b = some o) {p : P} {o : O} (hm : h.get? p.m = none) (hm' : ∃ o, h'.get? p.m = some o)
  (hf : ∀ a ∈ p.f, h.get? a = none ∧ (∃ o, h'.get? a = some o) ∧ a ≠ p.m) (ho : OR K (ρ ++ [p]) h' hp.length p o) :
  HRel K (ρ ++ [p]) (hp ++ [o]) h' ∧ Step K ρ h (ρ ++ [p]) h' := by
 have hmu : mu (ρ ++ [p]) = mu ρ ++ [p.m] := by simp [mu]
 refine ⟨⟨H.tbd, fun b o e q => hk _ _ (H.keep b o e q), let ⟨m, okm, e⟩ := H.tab; ⟨m, okm, hk _ _ e⟩, by simp [H.len], ?_, ?_, ?_, ?_, ?_⟩, ?_⟩
 ·rw [hmu]
  refine List.nodup_append.mpr ⟨H.nd, by simp, ?_⟩
  intro a ha b hb' e
  simp at hb'; subst hb'; subst e
  exact H.notMu hm ha
 ·intro q hq
  rcases List.mem_append.mp hq with hq | hq
  ·exact H.hi q hq
  ·simp at hq; subst hq; exact H.fresh hm
 ·intro q hq a ha
  rw [hmu]
  rcases List.mem_append.mp hq with hq | hq
  ·refine ⟨fun z => ?_, (H.fx q hq a ha).2⟩
   rcases List.mem_append.mp z with z | z
   ·exact (H.fx q hq a ha).1 z
   ·simp at z; subst z; obtain ⟨o, e⟩ := (H.lt q hq).2 _ ha; rw [hm] at e; cases e
  ·simp at hq; subst hq
   refine ⟨fun z => ?_, H.fresh (hf a ha).1⟩
   rcases List.mem_append.mp z with z | z
   ·exact H.notMu (hf a ha).1 z
   ·simp at z; exact (hf a ha).2.2 z
 ·intro q hq
  rcases List.mem_append.mp hq with hq | hq
  ·exact ⟨let ⟨o, e⟩ := (H.lt q hq).1; ⟨o, hk _ _ e⟩, fun a ha => let ⟨o, e⟩ := (H.lt q hq).2 a ha; ⟨o, hk _ _ e⟩⟩
  ·simp at hq; subst hq; exact ⟨hm', fun a ha => (hf a ha).2.1⟩
 ·intro i oi pi e q
  by_cases hi : i < hp.length
  ·rw [List.getElem?_append_left hi] at e
   rw [List.getElem?_append_left (H.len ▸ hi)] at q
   have r := H.ob i oi pi e q
   refine r.keeps H (fun b ob x _ => hk _ _ x) ?_ (List.prefix_append _ _)
   intro a o vs n x hd y
   refine ⟨hk _ _ x, ?_⟩
   rw [hmu]
   intro z
   rcases List.mem_append.mp z with z | z
   ·exact y z
   ·simp at z
    subst z
    rw [hm] at x; cases x
  ·have hil : i = hp.length := by
    have := (List.getElem?_eq_some_iff.mp e).1
    simp at this; lia
   subst hil
   rw [List.getElem?_append_right (Nat.le_refl _)] at e
   rw [List.getElem?_append_right (by rw [H.len]; exact Nat.le_refl _)] at q
   simp [H.len] at e q
   subst e; subst q; exact ho
 ·refine ⟨List.prefix_append _ _, fun q hq => ?_, fun b o e _ _ => hk _ _ e, fun b o e => ⟨o, hk _ _ e⟩⟩
  rcases List.mem_append.mp hq with hq | hq
  ·exact .inl hq
  ·simp at hq; subst hq; exact .inr ⟨hm, fun a ha => (hf a ha).1⟩
theorem HRel.cut (H : HRel K ρ' hp' h) (hpre : ρ <+: ρ') (hl : ρ.length ≤ hp'.length) : HRel K ρ (hp'.take ρ.length) h := by
 obtain ⟨t, rfl⟩ := hpre
 have hmu : mu (ρ ++ t) = mu ρ ++ mu t := by simp [mu]
 have mem : ∀ {p : P}, p ∈ ρ → p ∈ ρ ++ t := fun q => List.mem_append.mpr (.inl q)
 refine ⟨H.tbd, H.keep, H.tab, by rw [List.length_take]; lia, ?_, fun p hp => H.hi p (mem hp), ?_, fun p hp => H.lt p (mem hp), ?_⟩
 ·have := H.nd; rw [hmu] at this; exact (List.nodup_append.mp this).1
 ·intro p hp a ha
  have := H.fx p (mem hp) a ha
  rw [hmu] at this
  exact ⟨fun z => this.1 (List.mem_append.mpr (.inl z)), this.2⟩
 ·intro i o p e q
  have hi := (List.getElem?_eq_some_iff.mp q).1
  have e' : hp'[i]? = some o := by rw [List.getElem?_take] at e; split at e <;> simp_all
  have r := H.ob i o p e' (pre_get (List.prefix_append _ _) q)
  have hD : ∀ {vs : List Value} {xs : List PyData}, DRs h (mu (ρ ++ t)) vs xs → DRs h (mu ρ) vs xs := fun d =>
   d.mono fun a o vs n x _ y => ⟨x, fun z => y (by rw [hmu]; exact List.mem_append.mpr (.inl z))⟩
  cases o with
  | lst l => obtain ⟨a, vs, n, h1, h4⟩ := r; exact ⟨a, vs, n, h1, hD h4⟩
  | inst c fs =>
   obtain ⟨o, od, m, h1, h2, h3, h4, h5, h7, h8, h9, h10, h11⟩ := r
   refine ⟨o, od, m, h1, h2, h3, h4, h5, h7, h8, h9, ?_, h11⟩
   intro k x hx
   have q' := h10 k x hx
   revert q'
   cases fs.lookup k with
   | none => exact id
   | some v =>
    rintro ⟨⟨rv, q1, q2⟩, q3, q4⟩
    refine ⟨⟨rv, q1, ?_⟩, q3, q4⟩
    cases v with
    | d x => exact DR.mono (fun a o vs n x _ y => ⟨x, fun z => y (by rw [hmu]; exact List.mem_append.mpr (.inl z))⟩) q2
    | r j =>
     obtain ⟨p', e1, e2⟩ := q2
     have hj := q3 j rfl
     exact ⟨p', by rw [List.getElem?_append_left (Nat.lt_trans hj hi)] at e1; exact e1, e2⟩
    | rng a b c => exact q4.elim
    | g v => exact q4.elim
  | stream l =>
   obtain ⟨d, X, f1, f4⟩ := r
   exact ⟨d, X, f1, hD f4⟩
  | edict => exact r
  | citer c =>
   obtain ⟨e, o, vs, h1, h2, h3, h4⟩ := r
   refine ⟨e, o, vs, h1, h2, h3, ?_⟩
   cases c with
   | none => exact h4
   | some j =>
    obtain ⟨hj, M, t', q', q1, q2, q4, q6⟩ := h4
    exact ⟨hj, M, t', q', q1, q2, q4, by rw [List.getElem?_append_left (Nat.lt_trans hj hi)] at q6; exact q6⟩
theorem Step.cut (S : Step K ρ h ρ' h') : Step K ρ h ρ h' := ⟨List.prefix_refl _, fun _ hp => .inl hp, S.keep, S.dom⟩
theorem DR.cut (hpre : ρ <+: ρ') {v : Value} {x : PyData} (d : DR h (mu ρ') v x) : DR h (mu ρ) v x := by
 obtain ⟨t, rfl⟩ := hpre
 exact d.mono fun a o vs n x _ y => ⟨x, fun z => y (by simp only [mu, List.map_append]; exact List.mem_append.mpr (.inl z))⟩
theorem DRs.cut (hpre : ρ <+: ρ') {v : List Value} {x : List PyData} (d : DRs h (mu ρ') v x) : DRs h (mu ρ) v x := by
 obtain ⟨t, rfl⟩ := hpre
 exact d.mono fun a o vs n x _ y => ⟨x, fun z => y (by simp only [mu, List.map_append]; exact List.mem_append.mpr (.inl z))⟩
end
end Mine
namespace Mine
open PySem PySem.Spec PySem.Calls PyProof.Rows
inductive NsOk (env : Env) (look : Str → Option Nat) (vs : List (Option V)) (ρ : Rho) (h : Heap) : Prop
 | mk (m : Str → Option Value) (n : h.Ns env.locals m) (f : ∀ x k v, env.kindOf x = some .local → look x = some k → vs[k]? = some (some v) → Held ρ h (m x) v)
inductive CellOk (h0 : Heap) (env : Env) (look : Str → Option Nat) (vs : List (Option V)) (ρ : Rho) (h : Heap) (x : Str) : Prop
 | mk (c : Addr) (o : Obj) (ov : Option Value) (a1 : env.cells.lookup x = some c) (a2 : h0.get? c = none) (a3 : Off ρ c) (a4 : h.get? c = some o) (a5 : o.data = .cell ov)
   (a6 : ∀ k v, look x = some k → vs[k]? = some (some v) → Held ρ h ov v)
structure FRel (K : KX) (env : Env) (look : Str → Option Nat) (vs : List (Option V)) (ρ : Rho) (h : Heap) : Prop where
 kd : env.scope.kind = .function
 gl : env.globals = 3
 bi : env.builtins = 0
 lb : K.New env.locals
 lo : Off ρ env.locals
 ns : NsOk env look vs ρ h
 cl : ∀ x, env.kindOf x = some .cell ∨ env.kindOf x = some .free → CellOk K.h0 env look vs ρ h x
 ci : ∀ x y c, env.cells.lookup x = some c → env.cells.lookup y = some c → x = y
 ij : ∀ x y k, look x = some k → look y = some k → x = y
theorem FRel.step {K : KX} {env : Env} {look : Str → Option Nat} {vs : List (Option V)} {ρ ρ' : Rho} {hp : List O} {h h' : Heap} (F : FRel K env look vs ρ h) (H : HRel K ρ hp h) (S : Step K ρ h ρ' h') : FRel K env look vs ρ' h' := by
 refine ⟨F.kd, F.gl, F.bi, F.lb, ?_, ?_, ?_, F.ci, F.ij⟩
 ·obtain ⟨m, ⟨o, _, _, n, _⟩, _⟩ := F.ns
  exact F.lo.step S n
 ·obtain ⟨m, ⟨o, es, ep, e, q⟩, r⟩ := F.ns
  exact ⟨m, ⟨o, es, ep, S.keep _ _ e (H.newTb F.lb) F.lo.mu, q⟩, fun x k v a b c => let ⟨rv, d, f⟩ := r x k v a b c; ⟨rv, d, f.step S H⟩⟩
 ·intro x hx
  obtain ⟨c, o, ov, a1, a2, a3, a4, a5, a6⟩ := F.cl x hx
  exact ⟨c, o, ov, a1, a2, a3.step S a4, S.keep _ _ a4 (H.newTb a2) a3.mu, a5, fun k v b1 b2 => let ⟨rv, d, f⟩ := a6 k v b1 b2; ⟨rv, d, f.step S H⟩⟩
inductive PostE (K : KX) (ρ : Rho) (s : Shared) (Q : V → List O → Prop) (rv : Value) (s' : Shared) : Prop
 | mk (v : V) (hp' : List O) (ρ' : Rho) (h' : Heap) (t : Nat) (e : s' = { s with heap := h', toks := t }) (q : Q v hp') (H : HRel K ρ' hp' h') (S : Step K ρ s.heap ρ' h') (r : VR ρ' h' v rv)
theorem PostE.after {K : KX} {ρ ρ₁ : Rho} {s : Shared} {h₁ : Heap} {t₁ : Nat} {Q : V → List O → Prop} {rv : Value} {s' : Shared} (S : Step K ρ s.heap ρ₁ h₁)
  (p : PostE K ρ₁ { s with heap := h₁, toks := t₁ } Q rv s') : PostE K ρ s Q rv s' :=
 let ⟨v, hp', ρ', h', t, e, q, H, S', r⟩ := p
 ⟨v, hp', ρ', h', t, e, q, H, S.trans S', r⟩
theorem PostE.pure {K : KX} {ρ : Rho} {hp : List O} {s : Shared} {Q : V → List O → Prop} {v : V} {rv : Value} (t : Nat) (q : Q v hp) (H : HRel K ρ hp s.heap) (r : VR ρ s.heap v rv) :
  PostE K ρ s Q rv { s with toks := t } := ⟨v, hp, ρ, s.heap, t, rfl, q, H, Step.refl .., r⟩
theorem PostE.pure0 {K : KX} {ρ : Rho} {hp : List O} {s : Shared} {Q : V → List O → Prop} {v : V} {rv : Value} (q : Q v hp) (H : HRel K ρ hp s.heap) (r : VR ρ s.heap v rv) :
  PostE K ρ s Q rv s := ⟨v, hp, ρ, s.heap, s.toks, rfl, q, H, Step.refl .., r⟩
theorem PostE.grown {K : KX} {ρ : Rho} {hp : List O} {s : Shared} {Q : V → List O → Prop} {v : V} {rv : Value} {h' : Heap} (t : Nat) (q : Q v hp) (H : HRel K ρ hp s.heap)
  (hk : ∀ b o, s.heap.get? b = some o → h'.get? b = some o) (r : VR ρ h' v rv) :
  PostE K ρ s Q rv { s with heap := h', toks := t } := ⟨v, hp, ρ, h', t, rfl, q, H.grow hk, Step.grow hk, r⟩
structure OkA (r : Nat) (A : Around) : Prop where
 hh : A.handled = none
 dp : A.depth + r < recursionLimit
 un : A.units + 100 * r + 200 < cLine
theorem OkA.le {r r' : Nat} {A : Around} (o : OkA r A) (h : r' ≤ r) : OkA r' A := ⟨o.hh, by have := o.dp; lia, by have := o.un; lia⟩
noncomputable abbrev XE := List (Option V) → (V → List O → Prop) → List O → Prop
noncomputable abbrev XB := List (Option V) → (Bool → List O → Prop) → List O → Prop
noncomputable def SoundE (K : KX) (r : Nat) (env : Env) (look : Str → Option Nat) (e : Expr) (p : XE) : Prop :=
 ∀ A, OkA r A → ∀ vs Q hp ρ s E, p vs Q hp → FRel K env look vs ρ s.heap → HRel K ρ hp s.heap → wpAny (model K.prog K.w) A (eval e env) (PostE K ρ s Q) E s
inductive PostB (K : KX) (ρ : Rho) (s : Shared) (Q : Bool → List O → Prop) (b : Bool) (s' : Shared) : Prop
 | mk (hp' : List O) (ρ' : Rho) (h' : Heap) (t : Nat) (e : s' = { s with heap := h', toks := t }) (q : Q b hp') (H : HRel K ρ' hp' h') (S : Step K ρ s.heap ρ' h')
theorem PostB.after {K : KX} {ρ ρ₁ : Rho} {s : Shared} {h₁ : Heap} {t₁ : Nat} {Q : Bool → List O → Prop} {b : Bool} {s' : Shared} (S : Step K ρ s.heap ρ₁ h₁)
  (p : PostB K ρ₁ { s with heap := h₁, toks := t₁ } Q b s') : PostB K ρ s Q b s' :=
 let ⟨hp', ρ', h', t, e, q, H, S'⟩ := p
 ⟨hp', ρ', h', t, e, q, H, S.trans S'⟩
noncomputable def SoundB (K : KX) (r : Nat) (env : Env) (look : Str → Option Nat) (e : Expr) (p : XB) : Prop :=
 ∀ A, OkA r A → ∀ vs Q hp ρ s E, p vs Q hp → FRel K env look vs ρ s.heap → HRel K ρ hp s.heap → wpAny (model K.prog K.w) A (isTrue e env (eval e env)) (PostB K ρ s Q) E s
noncomputable def Sound2 (K : KX) (r : Nat) (f : Value → Value → Sem Value) (p : V → V → (V → List O → Prop) → List O → Prop) : Prop :=
 ∀ A, OkA r A → ∀ ρ hp s va vb ra rb Q E, p va vb Q hp → HRel K ρ hp s.heap → VR ρ s.heap va ra → VR ρ s.heap vb rb → wpAny (model K.prog K.w) A (f ra rb) (PostE K ρ s Q) E s
noncomputable def Sound1 (K : KX) (r : Nat) (f : Value → Sem Value) (p : V → (V → List O → Prop) → List O → Prop) : Prop :=
 ∀ A, OkA r A → ∀ ρ hp s va ra Q E, p va Q hp → HRel K ρ hp s.heap → VR ρ s.heap va ra → wpAny (model K.prog K.w) A (f ra) (PostE K ρ s Q) E s
section
variable {K : KX} {r : Nat} {env : Env} {look : Str → Option Nat}
theorem e_int {i : Int} {k : Nat} {pos : Pos} : SoundE K r env look (.Constant (.int i) k pos) (fun _ Q => Q (.d (.int i))) :=
 fun A _ vs Q hp ρ s E q F H => wpAny_Constant_int (PostE.pure _ q H (.int ..))
theorem e_str {x : Str} {k : Nat} {pos : Pos} : SoundE K r env look (.Constant (.str x) k pos) (fun _ Q => Q (.d (.str x))) :=
 fun A _ vs Q hp ρ s E q F H => wpAny_Constant_str (PostE.pure _ q H (.str ..))
theorem e_none {k : Nat} {pos : Pos} : SoundE K r env look (.Constant .none k pos) (fun _ Q => Q (.d .none)) :=
 fun A _ vs Q hp ρ s E q F H => wpAny_Constant_none (PostE.pure0 q H .none)
theorem e_bool {b : Bool} {k : Nat} {pos : Pos} : SoundE K r env look (.Constant (.bool b) k pos) (fun _ Q => Q (.d (.bool b))) :=
 fun A _ vs Q hp ρ s E q F H => wpAny_Constant_bool (PostE.pure0 q H (.bool b))
noncomputable def xVar (k : Nat) : XE := fun vs Q hp => match vs[k]? with | some (some v) => Q v hp | _ => False
theorem e_var {x : Str} {k : Nat} {pos : Pos} (hk : env.kindOf x = some .local ∨ env.kindOf x = some .cell ∨ env.kindOf x = some .free) (hl : look x = some k)
  (hd : (x == ("__debug__" : Str)) = false) (hc : (x == ("__classdict__" : Str)) = false) : SoundE K r env look (.Name x pos) (xVar k) := by
 intro A _ vs Q hp ρ s E q F H
 refine wpAny_Name ?_ hd
 unfold xVar at q
 split at q
 ·rename_i v e
  rcases hk with hk | hk | hk
  ·obtain ⟨m, n, f⟩ := F.ns
   obtain ⟨rv, e1, e2⟩ := f x k v hk hl e
   exact wpAny_loadName_local F.kd hk n e1 (PostE.pure0 q H e2)
  ·obtain ⟨c, o, ov, a1, a2, a3, a4, a5, a6⟩ := F.cl x (.inl hk)
   obtain ⟨rv, rfl, e2⟩ := a6 k v hl e
   exact wpAny_loadName_cell F.kd hk a1 ⟨o, a4, a5⟩ (PostE.pure0 q H e2)
  ·obtain ⟨c, o, ov, a1, a2, a3, a4, a5, a6⟩ := F.cl x (.inr hk)
   obtain ⟨rv, rfl, e2⟩ := a6 k v hl e
   exact wpAny_loadName_free F.kd hk a1 ⟨o, a4, a5⟩ (PostE.pure0 q H e2) hc
 ·exact q.elim
theorem SoundE.then {e : Expr} {p : XE} (h : SoundE K r env look e p) {A : Around} (ok : OkA r A) {vs : List (Option V)} {Q : V → List O → Prop} {hp : List O} {ρ : Rho} {s : Shared} {E : Value → Shared → Prop}
  {R : Value → Shared → Prop} (q : p vs Q hp) (F : FRel K env look vs ρ s.heap) (H : HRel K ρ hp s.heap)
  (k : ∀ v hp₁ ρ₁ h₁ t₁ rv, Q v hp₁ → HRel K ρ₁ hp₁ h₁ → Step K ρ s.heap ρ₁ h₁ → VR ρ₁ h₁ v rv → FRel K env look vs ρ₁ h₁ → R rv { s with heap := h₁, toks := t₁ }) :
  wpAny (model K.prog K.w) A (eval e env) R E s := by
 refine wpAny_mono (h A ok vs Q hp ρ s E q F H) ?_ (fun _ _ x => x)
 rintro rv s' ⟨v, hp', ρ', h', t, rfl, q', H', S, rr⟩
 exact k v hp' ρ' h' t rv q' H' S rr (F.step H S)
theorem SoundB.then {e : Expr} {p : XB} (h : SoundB K r env look e p) {A : Around} (ok : OkA r A) {vs : List (Option V)} {Q : Bool → List O → Prop} {hp : List O} {ρ : Rho} {s : Shared} {E : Value → Shared → Prop}
  {R : Bool → Shared → Prop} (q : p vs Q hp) (F : FRel K env look vs ρ s.heap) (H : HRel K ρ hp s.heap)
  (k : ∀ b hp₁ ρ₁ h₁ t₁, Q b hp₁ → HRel K ρ₁ hp₁ h₁ → Step K ρ s.heap ρ₁ h₁ → FRel K env look vs ρ₁ h₁ → R b { s with heap := h₁, toks := t₁ }) :
  wpAny (model K.prog K.w) A (isTrue e env (eval e env)) R E s := by
 refine wpAny_mono (h A ok vs Q hp ρ s E q F H) ?_ (fun _ _ x => x)
 rintro b s' ⟨hp', ρ', h', t, rfl, q', H', S⟩
 exact k b hp' ρ' h' t q' H' S (F.step H S)
noncomputable def xBin (f : V → V → (V → List O → Prop) → List O → Prop) (a b : XE) : XE := fun vs Q => a vs fun va => b vs fun vb => f va vb Q
theorem e_bin {l rr : Expr} {op : Operator} {pos : Pos} {f : V → V → (V → List O → Prop) → List O → Prop} {a b : XE} (hf : Sound2 K r (binaryOp op) f) (ha : SoundE K r env look l a) (hb : SoundE K r env look rr b) :
  SoundE K r env look (.BinOp l op rr pos) (xBin f a b) := by
 intro A ok vs Q hp ρ s E q F H
 refine wpAny_BinOp (ha.then ok q F H ?_)
 intro va hp₁ ρ₁ h₁ t₁ ra q₁ H₁ S₁ r₁ F₁
 refine hb.then ok (s := { s with heap := h₁, toks := t₁ }) q₁ F₁ H₁ ?_
 intro vb hp₂ ρ₂ h₂ t₂ rb q₂ H₂ S₂ r₂ F₂
 refine wpAny_mono (hf A ok ρ₂ hp₂ { s with heap := h₂, toks := t₂ } va vb ra rb Q E q₂ H₂ (r₁.step S₂ H₁) r₂) ?_ (fun _ _ x => x)
 exact fun rv s' p => PostE.after (S₁.trans S₂) p
theorem e_cmp {l rr : Expr} {op : CmpOp} {pos : Pos} {f : V → V → (V → List O → Prop) → List O → Prop} {a b : XE} (hf : Sound2 K r (compareOp op) f) (ha : SoundE K r env look l a) (hb : SoundE K r env look rr b)
  (hm : behindInMarks op rr = false) : SoundE K r env look (.Compare l [op] [rr] pos) (xBin f a b) := by
 intro A ok vs Q hp ρ s E q F H
 refine wpAny_Compare1 (ha.then ok q F H ?_) hm
 intro va hp₁ ρ₁ h₁ t₁ ra q₁ H₁ S₁ r₁ F₁
 refine hb.then ok (s := { s with heap := h₁, toks := t₁ }) q₁ F₁ H₁ ?_
 intro vb hp₂ ρ₂ h₂ t₂ rb q₂ H₂ S₂ r₂ F₂
 refine wpAny_mono (hf A ok ρ₂ hp₂ { s with heap := h₂, toks := t₂ } va vb ra rb Q E q₂ H₂ (r₁.step S₂ H₁) r₂) ?_ (fun _ _ x => x)
 exact fun rv s' p => PostE.after (S₁.trans S₂) p
end
noncomputable def lget : V → List O → Option (List PyData)
 | .d (.list l), _ => some l
 | .r i, hp => match hp[i]? with | some (.lst l) => some l | _ => none
 | _, _ => none
noncomputable def dget : V → List O → Option PyData
 | .d x, _ => some x
 | .r i, hp => match hp[i]? with | some (.lst l) => some (.list l) | _ => none
 | .rng .., _ => none
 | .g _, _ => none
theorem lst_inv {P : List PyData → Prop} {o : Option O} (q : (match o with | some (.lst l) => P l | _ => False)) : ∃ l, o = some (.lst l) ∧ P l := by
 cases o with
 | none => exact q.elim
 | some o => cases o with
  | lst l => exact ⟨l, rfl, q⟩
  | _ => exact q.elim
theorem lget_r {i : Nat} {hp : List O} {l : List PyData} (e : lget (.r i) hp = some l) : hp[i]? = some (.lst l) := by
 revert e
 show (match hp[i]? with | some (.lst l) => some l | _ => none) = some l → _
 generalize hp[i]? = o
 intro e
 cases o with
 | none => cases e
 | some o => cases o <;> cases e <;> rfl
theorem dget_r {i : Nat} {hp : List O} {x : PyData} (e : dget (.r i) hp = some x) : ∃ l, hp[i]? = some (.lst l) ∧ x = .list l := by
 revert e
 show (match hp[i]? with | some (.lst l) => some (.list l) | _ => none) = some x → _
 generalize hp[i]? = o
 intro e
 cases o with
 | none => cases e
 | some o => cases o <;> cases e <;> exact ⟨_, rfl, rfl⟩
theorem int_inv {P : Int → Prop} {v : V} (q : (match v with | .d (.int i) => P i | _ => False)) : ∃ i, v = .d (.int i) ∧ P i := by
 cases v with
 | d x => cases x with
  | int i => exact ⟨i, rfl, q⟩
  | _ => exact q.elim
 | _ => exact q.elim
theorem str_inv {P : Str → Prop} {v : V} (q : (match v with | .d (.str i) => P i | _ => False)) : ∃ i, v = .d (.str i) ∧ P i := by
 cases v with
 | d x => cases x with
  | str i => exact ⟨i, rfl, q⟩
  | _ => exact q.elim
 | _ => exact q.elim
theorem ints_inv {P : Int → Int → Prop} {v w : V} (q : (match v, w with | .d (.int i), .d (.int j) => P i j | _, _ => False)) : ∃ i j, v = .d (.int i) ∧ w = .d (.int j) ∧ P i j := by
 cases v with
 | d x => cases x with
  | int i => cases w with
   | d y => cases y with
    | int j => exact ⟨i, j, rfl, rfl, q⟩
    | _ => exact q.elim
   | _ => exact q.elim
  | _ => exact q.elim
 | _ => exact q.elim
inductive StrsI (R : Str → Str → Prop) (T : Prop) (v w : V) : Prop
 | strs (i j : Str) : v = .d (.str i) → w = .d (.str j) → R i j → StrsI R T v w
 | rest : T → StrsI R T v w
theorem strs_inv {R : Str → Str → Prop} {T : V → V → Prop} {v w : V} (q : (match v, w with | .d (.str i), .d (.str j) => R i j | v, w => T v w)) : StrsI R (T v w) v w := by
 cases v with
 | d x => cases x with
  | str i => cases w with
   | d y => cases y with
    | str j => exact .strs i j rfl rfl q
    | _ => exact .rest q
   | _ => exact .rest q
  | _ => exact .rest q
 | _ => exact .rest q
inductive SumI (P : Int → Int → Prop) (R : Str → Str → Prop) (T : Prop) (v w : V) : Prop
 | ints (i j : Int) : v = .d (.int i) → w = .d (.int j) → P i j → SumI P R T v w
 | strs (i j : Str) : v = .d (.str i) → w = .d (.str j) → R i j → SumI P R T v w
 | rest : T → SumI P R T v w
theorem sum_inv {P : Int → Int → Prop} {R : Str → Str → Prop} {T : V → V → Prop} {v w : V} (q : (match v, w with | .d (.int i), .d (.int j) => P i j | .d (.str i), .d (.str j) => R i j | v, w => T v w)) : SumI P R (T v w) v w := by
 cases v with
 | d x => cases x with
  | int i => cases w with
   | d y => cases y with
    | int j => exact .ints i j rfl rfl q
    | _ => exact .rest q
   | _ => exact .rest q
  | str i => cases w with
   | d y => cases y with
    | str j => exact .strs i j rfl rfl q
    | _ => exact .rest q
   | _ => exact .rest q
  | _ => exact .rest q
 | _ => exact .rest q
section
variable {K : KX} {ρ : Rho} {hp : List O} {h : Heap} {r : Nat}
theorem HRel.at (H : HRel K ρ hp h) {i : Nat} {p : P} {o : O} (e : hp[i]? = some o) (q : ρ[i]? = some p) : OR K ρ h i p o := H.ob i o p e q
theorem lget_rel (H : HRel K ρ hp h) {v : V} {rv : Value} {l : List PyData} (q : VR ρ h v rv) (e : lget v hp = some l) : ∃ a vs n, rv = .ref a ∧ IsL h a vs n ∧ DRs h (mu ρ) vs.toList l := by
 cases v with
 | d x =>
  cases x with
  | list xs => cases e; cases q with | list h1 _ h3 => exact ⟨_, _, _, rfl, h1, h3⟩
  | _ => cases e
 | r i =>
  obtain ⟨p, e1, rfl⟩ := q
  obtain ⟨ha, vs, n, h1, h2⟩ := H.at (lget_r e) e1
  exact ⟨_, vs, n, rfl, ha ▸ h1, h2⟩
 | rng a b c => cases e
 | g v => cases e
theorem dget_rel (H : HRel K ρ hp h) {v : V} {rv : Value} {x : PyData} (q : VR ρ h v rv) (e : dget v hp = some x) : ∃ as, Reads h rv x as := by
 cases v with
 | d y => cases e; exact DR.reads q
 | r i =>
  obtain ⟨p, e1, rfl⟩ := q
  obtain ⟨l, e2, rfl⟩ := dget_r e
  obtain ⟨ha, vs, n, h1, h2⟩ := H.at e2 e1
  obtain ⟨as, rs⟩ := DRs.reads h2
  exact ⟨_, .list (ha ▸ h1) rfl rfl rs⟩
 | rng a b c => cases e
 | g v => cases e
noncomputable abbrev Op2 := V → V → (V → List O → Prop) → List O → Prop
noncomputable def okD (x : PyData) : Bool := x.canLay0 && decide (x.depth ≤ 50)
theorem okD_lay {x : PyData} (h : okD x = true) : x.canLay0 = true ∧ x.depth ≤ 50 := by simpa [okD] using h
noncomputable def opAdd : Op2 := fun va vb Q hp => match va, vb with
 | .d (.int a), .d (.int b) => Q (.d (.int (a + b))) hp
 | .d (.str a), .d (.str b) => a.length + b.length ≤ sizeLine ∧ Q (.d (.str (a ++ b))) hp
 | va, vb => ∃ l1 l2, lget va hp = some l1 ∧ lget vb hp = some l2 ∧ l1.length + l2.length ≤ sizeLine ∧ Q (.d (.list (l1 ++ l2))) hp
theorem s_add : Sound2 K r (binaryOp .Add) opAdd := by
 intro A ok ρ hp s va vb ra rb Q E q H ha hb
 obtain ⟨_, _, rfl, rfl, q⟩ | ⟨_, _, rfl, rfl, q⟩ | q := sum_inv q
 ·cases ha; cases hb
  exact PyProof.Rows.add_int (PostE.pure _ q H (.int ..))
 ·cases ha; cases hb
  exact PyProof.Rows.add_str (fun t' tk => PostE.pure _ q.2 H (.str ..)) q.1
 ·obtain ⟨l1, l2, e1, e2, hz, q⟩ := q
  obtain ⟨a, xs, n, rfl, h1, d1⟩ := lget_rel H ha e1
  obtain ⟨b, ys, n', rfl, h2, d2⟩ := lget_rel H hb e2
  have z1 := d1.length
  have z2 := d2.length
  simp only [Array.length_toList] at z1 z2
  refine P.add_list h1 h2 ?_ (by lia)
  have hk : ∀ b o, s.heap.get? b = some o → (s.heap.push { cls := .type "list", data := .seq (xs ++ ys) }).get? b = some o := fun _ _ e => Heap.get?_push_of_some _ e
  refine ⟨_, hp, ρ, _, s.toks, rfl, q, H.push _, Step.push .., ?_⟩
  refine .list (n := 0) (vs := xs ++ ys) (Heap.get?_push_size _ rfl) H.sizeMu ?_
  rw [Array.toList_append]
  exact (d1.append d2).step (Step.push ..) H
noncomputable def opSub : Op2 := fun va vb Q hp => match va, vb with
 | .d (.int a), .d (.int b) => Q (.d (.int (a - b))) hp
 | _, _ => False
theorem s_sub : Sound2 K r (binaryOp .Sub) opSub := by
 intro A ok ρ hp s va vb ra rb Q E q H ha hb
 obtain ⟨_, _, rfl, rfl, q⟩ := ints_inv q
 cases ha; cases hb
 exact PyProof.Rows.sub_int (PostE.pure _ q H (.int ..))
noncomputable def opMul : Op2 := fun va vb Q hp => match va, vb with
 | .d (.int a), .d (.int b) => a.natAbs < 2 ^ 64 ∧ Q (.d (.int (a * b))) hp
 | _, _ => False
theorem s_mul : Sound2 K r (binaryOp .Mult) opMul := by
 intro A ok ρ hp s va vb ra rb Q E q H ha hb
 obtain ⟨_, _, rfl, rfl, q⟩ := ints_inv q
 cases ha; cases hb
 exact PyProof.Rows.mul_int (PostE.pure _ q.2 H (.int ..)) (IntMulOk.of_left (intBits_le_iff.mpr q.1))
noncomputable def opMod : Op2 := fun va vb Q hp => match va, vb with
 | .d (.int a), .d (.int b) => b ≠ 0 ∧ Q (.d (.int (a.fmod b))) hp
 | _, _ => False
theorem s_mod : Sound2 K r (binaryOp .Mod) opMod := by
 intro A ok ρ hp s va vb ra rb Q E q H ha hb
 obtain ⟨_, _, rfl, rfl, q⟩ := ints_inv q
 cases ha; cases hb
 exact PyProof.Rows.mod_int' q.1 (PostE.pure _ q.2 H (.int ..))
theorem noPylong {a b : Int} (hb : b.natAbs < 2 ^ 64) : Builtin.divisionGoesByPylong a b = false := by
 unfold Builtin.divisionGoesByPylong
 have : ¬ ((if (b == 0) = true then 0 else b.natAbs.log2 / 30 + 1) > 300) := by
  split
  ·lia
  ·have hne : b.natAbs ≠ 0 := by rename_i h; simpa using h
   have : b.natAbs.log2 < 64 := (Nat.log2_lt hne).mpr hb
   lia
 simp only [decide_eq_false this, Bool.false_and]
noncomputable def opDiv : Op2 := fun va vb Q hp => match va, vb with
 | .d (.int a), .d (.int b) => b ≠ 0 ∧ b.natAbs < 2 ^ 64 ∧ Q (.d (.int (a.fdiv b))) hp
 | _, _ => False
theorem s_div : Sound2 K r (binaryOp .FloorDiv) opDiv := by
 intro A ok ρ hp s va vb ra rb Q E q H ha hb
 obtain ⟨_, _, rfl, rfl, q⟩ := ints_inv q
 cases ha; cases hb
 exact PyProof.Rows.floordiv_int q.1 (PostE.pure _ q.2.2 H (.int ..)) (.inl (noPylong q.2.1))
noncomputable def opEq : Op2 := fun va vb Q hp => match va, vb with
 | .d (.int a), .d (.int b) => Q (.d (.bool (a == b))) hp
 | .d (.str a), .d (.str b) => Q (.d (.bool (a == b))) hp
 | va, vb => ∃ x y, dget va hp = some x ∧ dget vb hp = some y ∧ okD x = true ∧ okD y = true ∧ Q (.d (.bool (x.eqv y))) hp
theorem s_eq : Sound2 K r (compareOp .Eq) opEq := by
 intro A ok ρ hp s va vb ra rb Q E q H ha hb
 obtain ⟨_, _, rfl, rfl, q⟩ | ⟨_, _, rfl, rfl, q⟩ | q := sum_inv q
 ·cases ha; cases hb
  exact PyProof.Rows.eq_int (PostE.pure0 q H (.bool ..))
 ·cases ha; cases hb
  exact PyProof.Rows.eq_str (PostE.pure0 q H (.bool ..))
 ·obtain ⟨x, y, e1, e2, o1, o2, q⟩ := q
  obtain ⟨as, r1⟩ := dget_rel H ha e1
  obtain ⟨bs, r2⟩ := dget_rel H hb e2
  have := (okD_lay o1).2
  have := ok.un
  exact SeqAt.compareEq_reads r1 r2 (okD_lay o1).1 (okD_lay o2).1 (by lia) (PostE.pure0 q H (.bool ..))
noncomputable def opNe : Op2 := fun va vb Q hp => match va, vb with
 | .d (.int a), .d (.int b) => Q (.d (.bool (a != b))) hp
 | .d (.str a), .d (.str b) => Q (.d (.bool (a != b))) hp
 | va, vb => ∃ x y, dget va hp = some x ∧ dget vb hp = some y ∧ okD x = true ∧ okD y = true ∧ Q (.d (.bool (!x.eqv y))) hp
theorem s_ne : Sound2 K r (compareOp .NotEq) opNe := by
 intro A ok ρ hp s va vb ra rb Q E q H ha hb
 obtain ⟨_, _, rfl, rfl, q⟩ | ⟨_, _, rfl, rfl, q⟩ | q := sum_inv q
 ·cases ha; cases hb
  exact PyProof.Rows.ne_int (PostE.pure0 q H (.bool ..))
 ·cases ha; cases hb
  exact PyProof.Rows.ne_str (PostE.pure0 q H (.bool ..))
 ·obtain ⟨x, y, e1, e2, o1, o2, q⟩ := q
  obtain ⟨as, r1⟩ := dget_rel H ha e1
  obtain ⟨bs, r2⟩ := dget_rel H hb e2
  have := (okD_lay o1).2
  have := ok.un
  exact SeqAt.compareNe_reads r1 r2 (okD_lay o1).1 (okD_lay o2).1 (by lia) (PostE.pure0 q H (.bool ..))
noncomputable def opLt : Op2 := fun va vb Q hp => match va, vb with
 | .d (.int a), .d (.int b) => Q (.d (.bool (decide (a < b)))) hp
 | _, _ => False
theorem s_lt : Sound2 K r (compareOp .Lt) opLt := by
 intro A ok ρ hp s va vb ra rb Q E q H ha hb
 obtain ⟨_, _, rfl, rfl, q⟩ := ints_inv q
 cases ha; cases hb
 exact PyProof.Rows.lt_int (PostE.pure0 q H (.bool ..))
noncomputable def opGt : Op2 := fun va vb Q hp => match va, vb with
 | .d (.int a), .d (.int b) => Q (.d (.bool (decide (b < a)))) hp
 | _, _ => False
theorem s_gt : Sound2 K r (compareOp .Gt) opGt := by
 intro A ok ρ hp s va vb ra rb Q E q H ha hb
 obtain ⟨_, _, rfl, rfl, q⟩ := ints_inv q
 cases ha; cases hb
 exact PyProof.Rows.gt_int (PostE.pure0 q H (.bool ..))
theorem depth_all {l : List PyData} (h : okD (.list l) = true) : PyData.canLayAll0 l = true ∧ PyData.depthAll l ≤ 50 := by
 have := okD_lay h
 simp only [PyData.canLay0, PyData.depth] at this
 exact ⟨this.1, by lia⟩
noncomputable def opIn : Op2 := fun va vb Q hp => match va, vb with
 | .d (.str y), .d (.str x) => Q (.d (.bool (Txt.contains x y))) hp
 | va, vb => ∃ x l, dget va hp = some x ∧ lget vb hp = some l ∧ okD x = true ∧ okD (.list l) = true ∧ Q (.d (.bool (l.any fun y => y.eqv x))) hp
theorem s_in : Sound2 K r (compareOp .In) opIn := by
 intro A ok ρ hp s va vb ra rb Q E q H ha hb
 obtain ⟨_, _, rfl, rfl, q⟩ | ⟨x, l, e1, e2, o1, o2, q⟩ := strs_inv q
 ·cases ha; cases hb
  exact SB.contains (PostE.pure0 q H (.bool ..))
 ·obtain ⟨as, r1⟩ := dget_rel H ha e1
  obtain ⟨b, ys, n', rfl, h2, d2⟩ := lget_rel H hb e2
  obtain ⟨bs, r2⟩ := d2.reads
  have := (okD_lay o1).2
  have := ok.un
  exact SeqAt.in_list_reads (.list h2 rfl rfl r2) r1 (depth_all o2).1 (okD_lay o1).1 (by lia) (PostE.pure0 q H (.bool ..))
noncomputable def isNoneV : V → Bool
 | .d .none => true
 | _ => false
theorem isNoneV_rel {v : V} {rv : Value} (q : VR ρ h v rv) : (rv == Value.none) = isNoneV v := by
 cases v with
 | d x => cases q <;> rfl
 | r i => obtain ⟨p, _, rfl⟩ := q; rfl
 | rng a b c => obtain ⟨p, _, _, _, rfl, _⟩ := q; rfl
 | g v => obtain ⟨rfl, z⟩ := q; cases rv <;> first | rfl | exact z.elim
noncomputable def opIsNot : Op2 := fun va vb Q hp => match isNoneV vb with | true => Q (.d (.bool (!isNoneV va))) hp | false => False
theorem s_isNot : Sound2 K r (compareOp .IsNot) opIsNot := by
 intro A ok ρ hp s va vb ra rb Q E q H ha hb
 have e := isNoneV_rel hb
 unfold opIsNot at q
 cases h : isNoneV vb with
 | false => rw [h] at q; exact q.elim
 | true =>
  rw [h] at q e
  cases eq_of_beq e
  exact isNot_none (PostE.pure0 q H (by rw [isNoneV_rel ha]; exact .bool ..))
noncomputable def truthV (v : V) (Q : Bool → List O → Prop) (hp : List O) : Prop := match v with
 | .d (.bool b) => Q b hp
 | .d (.int i) => Q (i != 0) hp
 | .d (.str x) => x.length ≤ sizeLine ∧ Q ((x.length : Int) != 0) hp
 | .d .none => Q false hp
 | .d (.tuple l) => l.length ≤ sizeLine ∧ Q (!l.isEmpty) hp
 | v => ∃ l, lget v hp = some l ∧ l.length ≤ sizeLine ∧ Q (!l.isEmpty) hp
theorem PostB.pure {K : KX} {ρ : Rho} {hp : List O} {s : Shared} {Q : Bool → List O → Prop} {b : Bool} (t : Nat) (q : Q b hp) (H : HRel K ρ hp s.heap) :
  PostB K ρ s Q b { s with toks := t } := ⟨hp, ρ, s.heap, t, rfl, q, H, Step.refl ..⟩
theorem PostB.pure0 {K : KX} {ρ : Rho} {hp : List O} {s : Shared} {Q : Bool → List O → Prop} {b : Bool} (q : Q b hp) (H : HRel K ρ hp s.heap) :
  PostB K ρ s Q b s := ⟨hp, ρ, s.heap, s.toks, rfl, q, H, Step.refl ..⟩
theorem isEmpty_of_length {α β : Type} {l : List α} {m : List β} (e : l.length = m.length) : l.isEmpty = m.isEmpty := by
 cases l <;> cases m <;> simp_all
theorem s_truth {A : Around} {s : Shared} {v : V} {rv : Value} {Q : Bool → List O → Prop} {E : Value → Shared → Prop} (q : truthV v Q hp) (H : HRel K ρ hp s.heap) (hv : VR ρ s.heap v rv) :
  wpAny (model K.prog K.w) A (truthy rv) (PostB K ρ s Q) E s := by
 have hsz := sizeLine_eq
 have rest : (∃ l, lget v hp = some l ∧ l.length ≤ sizeLine ∧ Q (!l.isEmpty) hp) → wpAny (model K.prog K.w) A (truthy rv) (PostB K ρ s Q) E s := by
  rintro ⟨l, e, hz, q⟩
  obtain ⟨a, xs, n, rfl, h1, d1⟩ := lget_rel H hv e
  have z := d1.length
  refine wpAny_truthy_list h1.isList (by simp at z; omega) ?_
  have : xs.isEmpty = xs.toList.isEmpty := by cases xs; simp
  rw [this, isEmpty_of_length z]
  exact PostB.pure _ q H
 cases v with
 | d x => cases x with
  | bool => cases hv; exact wpAny_truthy_bool (PostB.pure0 q H)
  | int => cases hv; exact PyProof.Rows.truthy_int (PostB.pure0 q H)
  | str => cases hv; exact P.truthy_str (by have := q.1; lia) (PostB.pure _ q.2 H)
  | none => cases hv; exact PyProof.Rows.truthy_none (PostB.pure0 q H)
  | tuple => cases hv with
   | tuple h1 h2 h3 =>
    have z := h3.length
    rename_i vs n
    refine PyProof.Rows.truthy_tuple (items := vs) ⟨_, h1, rfl, _, rfl⟩ (by have := q.1; simp at z; lia) ?_
    have : vs.isEmpty = vs.toList.isEmpty := by cases vs; simp
    rw [this, isEmpty_of_length z]
    exact PostB.pure _ q.2 H
  | _ => exact rest q
 | _ => exact rest q
end
section
variable {K : KX} {r : Nat} {env : Env} {look : Str → Option Nat}
noncomputable def bCmp (f : Op2) (a b : XE) : XB := fun vs Q => a vs fun va => b vs fun vb => f va vb fun v => truthV v Q
theorem b_cmp {l rr : Expr} {op : CmpOp} {pos : Pos} {f : Op2} {a b : XE} (hf : Sound2 K r (compareOp op) f) (ha : SoundE K r env look l a) (hb : SoundE K r env look rr b)
  (hm : behindInMarks op rr = false) : SoundB K r env look (.Compare l [op] [rr] pos) (bCmp f a b) := by
 intro A ok vs Q hp ρ s E q F H
 refine wpAny_isTrue_Compare1 (ha.then ok q F H ?_) hm
 intro va hp₁ ρ₁ h₁ t₁ ra q₁ H₁ S₁ r₁ F₁
 refine hb.then ok (s := { s with heap := h₁, toks := t₁ }) q₁ F₁ H₁ ?_
 intro vb hp₂ ρ₂ h₂ t₂ rb q₂ H₂ S₂ r₂ F₂
 refine wpAny_mono (hf A ok ρ₂ hp₂ { s with heap := h₂, toks := t₂ } va vb ra rb _ E q₂ H₂ (r₁.step S₂ H₁) r₂) ?_ (fun _ _ x => x)
 rintro rv s' ⟨v, hp', ρ', h', t, rfl, q', H', S, rr⟩
 refine wpAny_mono (s_truth (s := { s with heap := h', toks := t }) q' H' rr) ?_ (fun _ _ x => x)
 exact fun b s' p => PostB.after ((S₁.trans S₂).trans S) p
noncomputable def bVal (a : XE) : XB := fun vs Q => a vs fun v => truthV v Q
theorem b_val {e : Expr} {a : XE} (ha : SoundE K r env look e a) (he : ∀ whole, isTrue e env whole = (do let v ← whole; standAt e.pos; holding [v] (truthy v))) : SoundB K r env look e (bVal a) := by
 intro A ok vs Q hp ρ s E q F H
 refine wpAny_isTrue_value (ha.then ok q F H ?_) (he _)
 intro va hp₁ ρ₁ h₁ t₁ ra q₁ H₁ S₁ r₁ F₁
 refine wpAny_mono (s_truth (s := { s with heap := h₁, toks := t₁ }) q₁ H₁ r₁) ?_ (fun _ _ x => x)
 exact fun b s' p => PostB.after S₁ p
noncomputable def bNot (a : XB) : XB := fun vs Q => a vs fun b => Q (!b)
theorem b_not {x : Expr} {pos : Pos} {a : XB} (ha : SoundB K r env look x a) : SoundB K r env look (.UnaryOp .Not x pos) (bNot a) := by
 intro A ok vs Q hp ρ s E q F H
 refine wpAny_isTrue_Not (ha.then ok q F H ?_)
 intro b hp₁ ρ₁ h₁ t₁ q₁ H₁ S₁ F₁
 exact ⟨hp₁, ρ₁, h₁, t₁, rfl, q₁, H₁, S₁⟩
noncomputable def bAnd (a b : XB) : XB := fun vs Q => a vs fun x hp => match x with | true => b vs Q hp | false => Q false hp
noncomputable def bOr (a b : XB) : XB := fun vs Q => a vs fun x hp => match x with | true => Q true hp | false => b vs Q hp
theorem b_and {x y : Expr} {pos : Pos} {a b : XB} (ha : SoundB K r env look x a) (hb : SoundB K r env look y b) : SoundB K r env look (.BoolOp .And [x, y] pos) (bAnd a b) := by
 intro A ok vs Q hp ρ s E q F H
 refine wpAny_isTrue_BoolOp (wpAny_allTrue_And_cons (ha.then ok q F H ?_))
 intro c hp₁ ρ₁ h₁ t₁ q₁ H₁ S₁ F₁
 cases c with
 | false => exact ⟨hp₁, ρ₁, h₁, t₁, rfl, q₁, H₁, S₁⟩
 | true =>
  refine wpAny_allTrue_And_cons (hb.then ok (s := { s with heap := h₁, toks := t₁ }) q₁ F₁ H₁ ?_)
  intro c hp₂ ρ₂ h₂ t₂ q₂ H₂ S₂ F₂
  cases c with
  | false => exact ⟨hp₂, ρ₂, h₂, t₂, rfl, q₂, H₂, S₁.trans S₂⟩
  | true => exact wpAny_allTrue_And_nil ⟨hp₂, ρ₂, h₂, t₂, rfl, q₂, H₂, S₁.trans S₂⟩
theorem b_or {x y : Expr} {pos : Pos} {a b : XB} (ha : SoundB K r env look x a) (hb : SoundB K r env look y b) : SoundB K r env look (.BoolOp .Or [x, y] pos) (bOr a b) := by
 intro A ok vs Q hp ρ s E q F H
 refine wpAny_isTrue_BoolOp (wpAny_allTrue_Or_cons (ha.then ok q F H ?_))
 intro c hp₁ ρ₁ h₁ t₁ q₁ H₁ S₁ F₁
 cases c with
 | true => exact ⟨hp₁, ρ₁, h₁, t₁, rfl, q₁, H₁, S₁⟩
 | false =>
  refine wpAny_allTrue_Or_cons (hb.then ok (s := { s with heap := h₁, toks := t₁ }) q₁ F₁ H₁ ?_)
  intro c hp₂ ρ₂ h₂ t₂ q₂ H₂ S₂ F₂
  cases c with
  | true => exact ⟨hp₂, ρ₂, h₂, t₂, rfl, q₂, H₂, S₁.trans S₂⟩
  | false => exact wpAny_allTrue_Or_nil ⟨hp₂, ρ₂, h₂, t₂, rfl, q₂, H₂, S₁.trans S₂⟩
noncomputable def xIte (t : XB) (a b : XE) : XE := fun vs Q => t vs fun x hp => match x with | true => a vs Q hp | false => b vs Q hp
theorem e_ite {t x y : Expr} {pos : Pos} {p : XB} {a b : XE} (ht : SoundB K r env look t p) (ha : SoundE K r env look x a) (hb : SoundE K r env look y b) : SoundE K r env look (.IfExp t x y pos) (xIte p a b) := by
 intro A ok vs Q hp ρ s E q F H
 refine wpAny_IfExp (ht.then ok q F H ?_)
 intro c hp₁ ρ₁ h₁ t₁ q₁ H₁ S₁ F₁
 cases c with
 | true => exact wpAny_mono (ha A ok vs Q hp₁ ρ₁ { s with heap := h₁, toks := t₁ } E q₁ F₁ H₁) (fun rv s' p => PostE.after S₁ p) (fun _ _ x => x)
 | false => exact wpAny_mono (hb A ok vs Q hp₁ ρ₁ { s with heap := h₁, toks := t₁ } E q₁ F₁ H₁) (fun rv s' p => PostE.after S₁ p) (fun _ _ x => x)
noncomputable def xAnd (a b : XE) : XE := fun vs Q => a vs fun v => truthV v fun x hp => match x with | true => b vs Q hp | false => Q v hp
theorem e_and {x y : Expr} {pos : Pos} {a b : XE} (ha : SoundE K r env look x a) (hb : SoundE K r env look y b) : SoundE K r env look (.BoolOp .And [x, y] pos) (xAnd a b) := by
 intro A ok vs Q hp ρ s E q F H
 show wpAny _ A (boolOp pos .And [eval x env, eval y env]) _ E s
 refine wpAny_bind (ha.then ok q F H ?_)
 intro va hp₁ ρ₁ h₁ t₁ ra q₁ H₁ S₁ r₁ F₁
 refine wpAny_bind (wpAny_standAt (wpAny_bind (wpAny_holding (wpAny_mono (s_truth (s := { s with heap := h₁, toks := t₁ }) q₁ H₁ r₁) ?_ (fun _ _ x => x)))))
 rintro c s' ⟨hp', ρ', h', t, rfl, q', H', S⟩
 cases c with
 | false => exact wpAny_pure ⟨va, hp', ρ', h', t, rfl, q', H', S₁.trans S, r₁.step S H₁⟩
 | true => exact wpAny_mono (hb A ok vs Q hp' ρ' { s with heap := h', toks := t } E q' (F₁.step H₁ S) H') (fun rv s' p => PostE.after (S₁.trans S) p) (fun _ _ x => x)
noncomputable def xNeg (a : XE) : XE := fun vs Q => a vs fun v hp => match v with | .d (.int i) => Q (.d (.int (-i))) hp | _ => False
theorem e_neg {x : Expr} {pos : Pos} {a : XE} (ha : SoundE K r env look x a) : SoundE K r env look (.UnaryOp .USub x pos) (xNeg a) := by
 intro A ok vs Q hp ρ s E q F H
 refine wpAny_UnaryOp (ha.then ok q F H ?_)
 intro va hp₁ ρ₁ h₁ t₁ ra q₁ H₁ S₁ r₁ F₁
 obtain ⟨_, rfl, q₁⟩ := int_inv q₁
 cases r₁
 exact PyProof.Rows.neg_int (PostE.after S₁ (PostE.pure _ q₁ H₁ (.int ..)))
end
inductive VRs (ρ : Rho) (h : Heap) : List V → List Value → Prop
 | nil : VRs ρ h [] []
 | cons {v : V} {vs : List V} {x : Value} {xs : List Value} : VR ρ h v x → VRs ρ h vs xs → VRs ρ h (v :: vs) (x :: xs)
theorem VRs.step {K : KX} {ρ ρ' : Rho} {hp : List O} {h h' : Heap} (S : Step K ρ h ρ' h') (H : HRel K ρ hp h) {vs : List V} {xs : List Value} (r : VRs ρ h vs xs) : VRs ρ' h' vs xs := by
 induction vs generalizing xs with
 | nil => cases r; exact .nil
 | cons v vs ih => cases r with | cons a b => exact .cons (a.step S H) (ih b)
theorem VRs.length {ρ : Rho} {h : Heap} {vs : List V} {xs : List Value} (r : VRs ρ h vs xs) : vs.length = xs.length := by
 induction vs generalizing xs with
 | nil => cases r; rfl
 | cons v vs ih => cases r with | cons a b => simp [ih b]
theorem VRs.append {ρ : Rho} {h : Heap} {vs vs' : List V} {xs xs' : List Value} (r : VRs ρ h vs xs) (q : VRs ρ h vs' xs') : VRs ρ h (vs ++ vs') (xs ++ xs') := by
 induction vs generalizing xs with
 | nil => cases r; exact q
 | cons v vs ih => cases r with | cons a b => exact .cons a (ih b)
noncomputable abbrev XL := List (Option V) → (List V → List O → Prop) → List O → Prop
inductive PostL (K : KX) (ρ : Rho) (s : Shared) (Q : List V → List O → Prop) (rvs : List Value) (s' : Shared) : Prop
 | mk (vs : List V) (hp' : List O) (ρ' : Rho) (h' : Heap) (t : Nat) (e : s' = { s with heap := h', toks := t }) (q : Q vs hp') (H : HRel K ρ' hp' h') (S : Step K ρ s.heap ρ' h') (r : VRs ρ' h' vs rvs)
noncomputable def SoundL (K : KX) (r : Nat) (env : Env) (look : Str → Option Nat) (es : List Expr) (p : XL) : Prop :=
 ∀ A, OkA r A → ∀ pos vs Q hp ρ s E, p vs Q hp → FRel K env look vs ρ s.heap → HRel K ρ hp s.heap →
  wpAny (model K.prog K.w) A (spliced (backTo pos (starEach es env))) (PostL K ρ s Q) E s
section
variable {K : KX} {r : Nat} {env : Env} {look : Str → Option Nat}
noncomputable def lNil : XL := fun _ Q => Q []
noncomputable def lCons (a : XE) (p : XL) : XL := fun vs Q => a vs fun v => p vs fun l => Q (v :: l)
theorem l_nil : SoundL K r env look [] lNil := fun A ok pos vs Q hp ρ s E q F H => spliced_none ⟨_, hp, ρ, s.heap, s.toks, rfl, q, H, Step.refl .., .nil⟩
theorem l_cons {e : Expr} {es : List Expr} {a : XE} {p : XL} (ha : SoundE K r env look e a) (hp : SoundL K r env look es p)
  (he : starEach (e :: es) env = (false, eval e env) :: starEach es env) : SoundL K r env look (e :: es) (lCons a p) := by
 intro A ok pos vs Q hp' ρ s E q F H
 refine spliced_more (ha.then ok q F H ?_) he
 intro va hp₁ ρ₁ h₁ t₁ ra q₁ H₁ S₁ r₁ F₁
 refine wpAny_mono (hp A ok pos vs _ hp₁ ρ₁ { s with heap := h₁, toks := t₁ } E q₁ F₁ H₁) ?_ (fun _ _ x => x)
 rintro rvs s' ⟨l, hp₂, ρ₂, h₂, t₂, rfl, q₂, H₂, S₂, r₂⟩
 exact ⟨va :: l, hp₂, ρ₂, h₂, t₂, rfl, q₂, H₂, S₁.trans S₂, .cons (r₁.step S₂ H₁) r₂⟩
noncomputable def datas : List V → Option (List PyData)
 | [] => some []
 | .d x :: l => (datas l).map (x :: ·)
 | _ :: _ => none
theorem datas_rel {ρ : Rho} {h : Heap} : ∀ {vs : List V} {xs : List Value} {ds : List PyData}, VRs ρ h vs xs → datas vs = some ds → DRs h (mu ρ) xs ds
 | [], _, _, r, e => by cases r; cases e; exact .nil
 | .d x :: l, _, _, r, e => by
  cases r with
  | cons a b =>
   simp only [datas, Option.map_eq_some_iff] at e
   obtain ⟨ds, e, rfl⟩ := e
   exact .cons a (datas_rel b e)
 | .r _ :: _, _, _, _, e => by cases e
 | .rng .. :: _, _, _, _, e => by cases e
 | .g _ :: _, _, _, _, e => by cases e
noncomputable def mkL (m : Bool) (xs : List PyData) (Q : V → List O → Prop) (hp : List O) : Prop :=
 match m with | false => Q (.d (.list xs)) hp | true => Q (.r hp.length) (hp ++ [.lst xs])
theorem mkL_rel {m : Bool} {xs : List PyData} {Q : V → List O → Prop} {hp : List O} {ρ : Rho} {s : Shared} {h' : Heap} {a : Addr} {vs : Array Value} (q : mkL m xs Q hp) (H : HRel K ρ hp s.heap)
  (hk : ∀ b o, s.heap.get? b = some o → h'.get? b = some o) (ha : s.heap.get? a = none) (hl : IsL h' a vs 0) (d : DRs s.heap (mu ρ) vs.toList xs) (t : Nat) :
  PostE K ρ s Q (.ref a) { s with heap := h', toks := t } := by
 have d' : DRs h' (mu ρ) vs.toList xs := d.step (Step.grow (K := K) hk) H
 cases m with
 | false => exact PostE.grown t q H hk (.list hl (H.notMu ha) d')
 | true =>
  have hd : DRs h' (mu (ρ ++ [⟨a, a, []⟩])) vs.toList xs := by
   refine d.mono fun b o vs n e _ hm => ⟨hk _ _ e, ?_⟩
   simp only [mu, List.map_append, List.map_cons, List.map_nil, List.mem_append, List.mem_singleton, not_or]
   exact ⟨hm, ne_of_get? ha e⟩
  obtain ⟨H', S'⟩ := H.add hk (p := ⟨a, a, []⟩) (o := .lst xs) ha ⟨_, hl⟩ (fun _ h => nomatch h) ⟨rfl, vs, 0, hl, hd⟩
  exact ⟨_, _, _, h', t, rfl, q, H', S', ⟨⟨a, a, []⟩, by rw [← H.len]; simp, rfl⟩⟩
noncomputable def xList (m : Bool) (p : XL) : XE := fun vs Q => p vs fun l hp => match datas l with | some xs => xs.length ≤ sizeLine ∧ mkL m xs Q hp | none => False
theorem e_list {m : Bool} {es : List Expr} {pos : Pos} {p : XL} (hp : SoundL K r env look es p) : SoundE K r env look (.List es pos) (xList m p) := by
 intro A ok vs Q hp' ρ s E q F H
 show wpAny _ A (do standAt pos; newList (← spliced (backTo pos (starEach es env)))) _ E s
 refine wpAny_bind (wpAny_standAt (wpAny_bind (wpAny_mono (hp A ok pos vs _ hp' ρ s E q F H) ?_ (fun _ _ x => x))))
 rintro rvs s' ⟨l, hp₁, ρ₁, h₁, t₁, rfl, q₁, H₁, S₁, r₁⟩
 split at q₁
 ·rename_i xs e
  have d := datas_rel r₁ e
  have hz := d.length
  refine wpAny_newList (PostE.after S₁ (mkL_rel (s := { s with heap := h₁, toks := t₁ }) (vs := rvs.toArray) q₁.2 H₁ (fun _ _ e => Heap.get?_push_of_some _ e) (get?_beyond (Nat.le_refl _)) (Heap.get?_push_size _ rfl) d t₁)) (by lia)
 ·exact q₁.elim
noncomputable def xTuple (p : XL) : XE := fun vs Q => p vs fun l hp => match datas l with | some xs => xs.length ≤ sizeLine ∧ Q (.d (.tuple xs)) hp | none => False
theorem e_tuple {es : List Expr} {k : Nat} {pos : Pos} {p : XL} (hp : SoundL K r env look es p) : SoundE K r env look (.Tuple es k pos) (xTuple p) := by
 intro A ok vs Q hp' ρ s E q F H
 show wpAny _ A (do standAt pos; newTuple (← spliced (backTo pos (starEach es env)))) _ E s
 refine wpAny_bind (wpAny_standAt (wpAny_bind (wpAny_mono (hp A ok pos vs _ hp' ρ s E q F H) ?_ (fun _ _ x => x))))
 rintro rvs s' ⟨l, hp₁, ρ₁, h₁, t₁, rfl, q₁, H₁, S₁, r₁⟩
 split at q₁
 ·rename_i xs e
  have d := datas_rel r₁ e
  have hz := d.length
  refine wpAny_newTuple (PostE.after S₁ (PostE.grown (s := { s with heap := h₁, toks := t₁ }) t₁ q₁.2 H₁ (fun _ _ e => Heap.get?_push_of_some _ e) ?_)) (by lia)
  exact .tuple (n := 0) (vs := rvs.toArray) (Heap.get?_push_size _ rfl) H₁.sizeMu (d.step (Step.push K ..) H₁)
 ·exact q₁.elim
theorem callWith_builtin {M : Model} {A : Around} {E : Value → Shared → Prop} {s : Shared} {pos : Pos} {id : String} {first : List Value} {trees : List (Bool × Sem Value)} {Q : Value → Shared → Prop}
  (hp : trees.any (·.1) = false) (h : wpAny M A (spliced trees) (fun vs s₁ => wpAny M A (call (.builtin id) (first ++ vs)) Q E s₁) E s) : wpAny M A (callWith pos (.builtin id) first trees []) Q E s := by
 unfold callWith
 have ev : wpAny M A (evalArgs (.builtin id) true trees []) (fun x s₁ => x.kw = [] ∧ wpAny M A (call (.builtin id) (first ++ x.pos)) Q E s₁) E s := by
  cases trees with
  | nil =>
   refine evalArgs_kw_nil rfl ?_
   refine wpAny_mono (Q := fun vs s₁ => vs = [] ∧ wpAny M A (call (.builtin id) (first ++ [])) Q E s₁) ?_ (fun ks s₁ h₁ => ?_) (fun _ _ x => x)
   ·refine wpAny_evalAll_nil ⟨rfl, ?_⟩
    have : wpAny M A (spliced []) (fun vs s₁ => wpAny M A (call (.builtin id) (first ++ vs)) Q E s₁) E s := h
    exact fun Γ p hΓ => this Γ p hΓ Γ p hΓ
   ·exact ⟨by simp, h₁.2⟩
  | cons x rest =>
   obtain ⟨b, t⟩ := x
   simp only [List.any_cons, Bool.or_eq_false_iff] at hp
   obtain ⟨rfl, _⟩ := hp
   exact Calls.evalArgs_plain (wpAny_mono h (fun vs s₁ h₁ => ⟨rfl, h₁⟩) fun _ _ x => x)
 refine wpAny_bind (wpAny_holding (wpAny_mono ev (fun x s₁ h₁ => wpAny_bind (wpAny_standAt ?_)) fun _ _ x => x))
 obtain ⟨hk, h₁⟩ := h₁
 rw [hp, hk]
 refine wpAny_bind (wpAny_pure (a := Keeper.machine) ?_)
 exact wpAny_bind (wpAny_mono h₁ (fun r s₂ hr => wpAny_bind (wpAny_holding (wpAny_point (wpAny_pure hr)))) fun _ _ x => x)
end
section
variable {K : KX} {r : Nat} {env : Env} {look : Str → Option Nat}
noncomputable abbrev MS := Str → List V → (V → List O → Prop) → List O → Prop
noncomputable def SoundMS (K : KX) (r : Nat) (id : String) (f : MS) : Prop :=
 ∀ A, OkA r A → ∀ ρ hp s x t vas ras Q E, f x vas Q hp → HRel K ρ hp s.heap → VRs ρ s.heap vas ras → wpAny (model K.prog K.w) A (call (.builtin id) (.str x t :: ras)) (PostE K ρ s Q) E s
noncomputable def xMethS (f : MS) (a : XE) (p : XL) : XE := fun vs Q => a vs fun vo hp => match vo with | .d (.str x) => p vs (fun vas => f x vas Q) hp | _ => False
theorem e_methS {o : Expr} {name : Str} {id : String} {args : List Expr} {apos pos : Pos} {f : MS} {a : XE} {p : XL} (hf : SoundMS K r id f) (ho : SoundE K r env look o a) (hp : SoundL K r env look args p)
  (slot : Slot "str" name id) (hty : typeOf (.builtin id) = pure (.type "method_descriptor"))
  (hbase : attributeBase o name env (eval o env) = eval o env)
  (hfew : ((backTo pos (starEach args env)).all (fun x => !x.1) && (backToKw pos (keywordEach [] env)).all (fun x => x.1.isSome)
   && decide (args.length + ([] : List Keyword).length + (if ([] : List Keyword).isEmpty then 0 else 1) < 30)) = true)
  (hline : (apos.endLine == pos.line) = true) : SoundE K r env look (.Call (.Attribute o name apos) args [] pos) (xMethS f a p) := by
 intro A ok vs Q hp' ρ s E q F H
 refine wpAny_Call_method_lateS hbase hfew hline (ho.then ok q F H ?_)
 intro va hp₁ ρ₁ h₁ t₁ ra q₁ H₁ S₁ r₁ F₁
 split at q₁
 ·rename_i x
  cases r₁
  refine ⟨"str", id, PySem.F.plainAttrs_str, slot, hty, typeIs_str _ _ _, (fun _ e => nomatch e), callWith_builtin ?_ ?_⟩
  ·have := hfew
   simp only [Bool.and_eq_true, List.all_eq_true, Bool.not_eq_true'] at this
   rw [List.any_eq_false]
   intro y hy; simpa using this.1.1 y hy
  ·refine wpAny_mono (hp A ok pos vs _ hp₁ ρ₁ { s with heap := h₁, toks := t₁ } E q₁ F₁ H₁) ?_ (fun _ _ x => x)
   rintro rvs s' ⟨l, hp₂, ρ₂, h₂, t₂, rfl, q₂, H₂, S₂, r₂⟩
   refine wpAny_mono (hf A ok ρ₂ hp₂ { s with heap := h₂, toks := t₂ } x _ l rvs Q E q₂ H₂ r₂) ?_ (fun _ _ x => x)
   exact fun rv s' p => PostE.after (S₁.trans S₂) p
 ·exact q₁.elim
noncomputable def mFind : MS := fun x vas Q hp => match vas with | [v] => (match v with | .d (.str y) => Q (.d (.int (Txt.find x y))) hp | _ => False) | _ => False
theorem m_find : SoundMS K r "str.find" mFind := by
 intro A ok ρ hp s x t vas ras Q E q H hv
 cases hv with
 | nil => exact q.elim
 | cons a b => cases b with
  | cons => exact q.elim
  | nil => obtain ⟨_, rfl, q⟩ := str_inv q; cases a; exact SC.find (PostE.pure _ q H (.int ..))
noncomputable def mLower : MS := fun x vas Q hp => match vas with | [] => (Txt.lower x).length ≤ sizeLine ∧ Q (.d (.str (Txt.lower x))) hp | _ => False
theorem m_lower : SoundMS K r "str.lower" mLower := by
 intro A ok ρ hp s x t vas ras Q E q H hv
 unfold mLower at q
 split at q
 ·cases hv; exact SC.lower (by simp only [Builtin.Str.tooLong, decide_eq_false_iff_not]; lia) (PostE.pure _ q.2 H (.str ..))
 ·exact q.elim
noncomputable def strsOf : List PyData → Option (List Str)
 | [] => some []
 | .str x :: l => (strsOf l).map (x :: ·)
 | _ => none
theorem strsOf_rel {h : Heap} {μ : List Addr} : ∀ {vs : List Value} {xs : List PyData} {ts : List Str}, DRs h μ vs xs → strsOf xs = some ts → ∃ l, vs = strValues l ∧ l.map (·.1) = ts
 | _, [], _, r, e => by cases r; cases e; exact ⟨[], rfl, rfl⟩
 | _, x :: xs, ts, r, e => by
  cases r with
  | cons a b =>
   cases x with
   | str y =>
    obtain ⟨ts', e', rfl⟩ := Option.map_eq_some_iff.mp (show (strsOf xs).map (y :: ·) = some ts from e)
    obtain ⟨l, rfl, rfl⟩ := strsOf_rel b e'
    cases a
    rename_i t
    exact ⟨(y, t) :: l, rfl, rfl⟩
   | _ => cases e
noncomputable def mJoin : MS := fun x vas Q hp => match vas with
 | [v] => ∃ l ts, lget v hp = some l ∧ strsOf l = some ts ∧ JoinOk x ts = true ∧ Q (.d (.str (Txt.join x ts))) hp
 | _ => False
theorem m_join : SoundMS K r "str.join" mJoin := by
 intro A ok ρ hp s x t vas ras Q E q H hv
 unfold mJoin at q
 split at q
 ·cases hv with
  | cons a b =>
   cases b
   obtain ⟨l, ts, e1, e2, hj, q⟩ := q
   obtain ⟨ad, vs, n, rfl, h1, d1⟩ := lget_rel H a e1
   obtain ⟨l', e3, e4⟩ := strsOf_rel d1 e2
   have : vs = (strValues l').toArray := by rw [← e3]
   subst this
   exact SC.join h1.isList e4 hj fun t' k => PostE.pure _ q H (.str ..)
 ·exact q.elim
noncomputable def mSplit : MS := fun x vas Q hp => match vas with
 | [v] => match v with | .d (.str y) => y.length ≠ 0 ∧ x.length + 2 ≤ sizeLine ∧ Q (.d (.list ((Txt.split x y).map .str))) hp | _ => False
 | _ => False
theorem strs_DRs {h : Heap} {μ : List Addr} : ∀ l : List (Str × Tok), DRs h μ (strValues l) ((l.map (·.1)).map .str)
 | [] => .nil
 | (x, t) :: l => .cons (.str x t) (strs_DRs l)
open Builtin.Str in
theorem m_split : SoundMS K r "str.split" mSplit := by
 intro A ok ρ hp s x t vas ras Q E q H hv
 cases hv with
 | nil => exact q.elim
 | cons a b => cases b with
  | cons => exact q.elim
  | nil =>
   obtain ⟨y, rfl, q⟩ := str_inv q
   cases a
   rename_i u
   obtain ⟨hy0, hsz, q⟩ := q
   have hy : (y.length == 0) = false := by simpa using hy0
   have hn : (partsBetween x (occurrences x y 0 x.length (x.length + 1)) y.length).length ≤ sizeLine := by
    have e1 := StrLaws.occ_length_le x y 0 x.length (x.length + 1)
    rw [length_partsBetween]; lia
   have key : ∀ (l : List (Str × Tok)) (k : Nat), l.map (·.1) = Txt.split x y →
     PostE K ρ s Q (.ref s.heap.objs.size) { s with heap := s.heap.push { cls := .type "list", data := .seq (strValues l).toArray }, toks := k } := by
    intro l k e
    refine PostE.grown k q H (fun _ _ e => Heap.get?_push_of_some _ e) ?_
    refine .list (n := 0) (vs := (strValues l).toArray) (Heap.get?_push_size _ rfl) H.sizeMu ?_
    rw [← e]
    exact strs_DRs l
   cases h1 : (decide (x.length < y.length) || decide (strKind x < strKind y))
   ·cases hf : (occurrences x y 0 x.length (x.length + 1)).isEmpty
    ·refine call_meets PySem.F.slot_str_split (typeIs_str _ _ _) PySem.F.entry_str_split (PySem.F.args_str_split_2 _ _) (meets_str_split_sep x y t u h1 hy hf (by lia) hn) ?_
     show wants (PostE K ρ s Q) E _ { s with toks := _, heap := s.heap.push { cls := .type "list", data := .seq (strsFrom s.toks (partsBetween x (occurrences x y 0 x.length (x.length + 1)) y.length)).toArray } }
     rw [strsFrom_eq]
     exact key (numbered s.toks _) _ ((numbered_texts _ _).trans ((if_neg (ne_true_of_eq_false h1)).trans (if_neg (ne_true_of_eq_false hf))).symm)
    ·exact call_meets PySem.F.slot_str_split (typeIs_str _ _ _) PySem.F.entry_str_split (PySem.F.args_str_split_2 _ _) (meets_str_split_not_found x y t u h1 hy hf)
      (key [(x, t)] s.toks ((if_neg (ne_true_of_eq_false h1)).trans (if_pos hf)).symm)
   ·exact call_meets PySem.F.slot_str_split (typeIs_str _ _ _) PySem.F.entry_str_split (PySem.F.args_str_split_2 _ _) (meets_str_split_cannot_occur x y t u h1)
     (key [(x, t)] s.toks (if_pos h1).symm)
noncomputable abbrev ML := V → List V → (V → List O → Prop) → List O → Prop
noncomputable def SoundML (K : KX) (r : Nat) (id : String) (f : ML) : Prop :=
 ∀ A, OkA r A → ∀ ρ hp s v l rv vas ras Q E, f v vas Q hp → HRel K ρ hp s.heap → VR ρ s.heap v rv → lget v hp = some l → VRs ρ s.heap vas ras → wpAny (model K.prog K.w) A (call (.builtin id) (rv :: ras)) (PostE K ρ s Q) E s
noncomputable def xMethL (f : ML) (a : XE) (p : XL) : XE := fun vs Q => a vs fun vo hp => (lget vo hp).isSome = true ∧ p vs (fun vas hp' => (lget vo hp').isSome = true ∧ f vo vas Q hp') hp
theorem e_methL {o : Expr} {name : Str} {id : String} {args : List Expr} {apos pos : Pos} {f : ML} {a : XE} {p : XL} (hf : SoundML K r id f) (ho : SoundE K r env look o a) (hp : SoundL K r env look args p)
  (slot : Slot "list" name id) (hty : typeOf (.builtin id) = pure (.type "method_descriptor"))
  (hbase : attributeBase o name env (eval o env) = eval o env)
  (hfew : ((backTo pos (starEach args env)).all (fun x => !x.1) && (backToKw pos (keywordEach [] env)).all (fun x => x.1.isSome)
   && decide (args.length + ([] : List Keyword).length + (if ([] : List Keyword).isEmpty then 0 else 1) < 30)) = true)
  (hline : (apos.endLine == pos.line) = true) : SoundE K r env look (.Call (.Attribute o name apos) args [] pos) (xMethL f a p) := by
 intro A ok vs Q hp' ρ s E q F H
 refine wpAny_Call_method_lateS hbase hfew hline (ho.then ok q F H ?_)
 intro vo hp₁ ρ₁ h₁ t₁ ra q₁ H₁ S₁ r₁ F₁
 obtain ⟨hl, q₁⟩ := q₁
 obtain ⟨l, el⟩ := Option.isSome_iff_exists.mp hl
 obtain ⟨ad, xs, n, rfl, hL, _⟩ := lget_rel H₁ r₁ el
 refine ⟨"list", id, PySem.F.plainAttrs_list, slot, hty, ⟨_, hL, rfl⟩, (fun a e => by cases e; exact ⟨_, hL, rfl⟩), callWith_builtin ?_ ?_⟩
 ·have := hfew
  simp only [Bool.and_eq_true, List.all_eq_true, Bool.not_eq_true'] at this
  rw [List.any_eq_false]
  intro y hy; simpa using this.1.1 y hy
 ·refine wpAny_mono (hp A ok pos vs _ hp₁ ρ₁ { s with heap := h₁, toks := t₁ } E q₁ F₁ H₁) ?_ (fun _ _ x => x)
  rintro rvs s' ⟨l', hp₂, ρ₂, h₂, t₂, rfl, ⟨hl₂, q₂⟩, H₂, S₂, r₂⟩
  obtain ⟨l₂, el₂⟩ := Option.isSome_iff_exists.mp hl₂
  refine wpAny_mono (hf A ok ρ₂ hp₂ { s with heap := h₂, toks := t₂ } vo l₂ (.ref ad) l' rvs Q E q₂ H₂ (r₁.step S₂ H₁) el₂ r₂) ?_ (fun _ _ x => x)
  exact fun rv s' p => PostE.after (S₁.trans S₂) p
theorem put_list {A : Around} {ρ : Rho} {hp : List O} {s : Shared} {i : Nat} {l l' : List PyData} {p : P} {f : Array Value → Array Value} {vs : Array Value} {n : Nat} (H : HRel K ρ hp s.heap) (e : hp[i]? = some (.lst l)) (ep : ρ[i]? = some p)
  (hL : IsL s.heap p.m vs n) (hpm : p.a = p.m) (d : DRs s.heap (mu ρ) (f vs).toList l') :
  HRel K ρ (hp.set i (.lst l')) (s.heap.update p.m (Obj.mapSeq f)) ∧ Step K ρ s.heap ρ (s.heap.update p.m (Obj.mapSeq f)) := by
 have hs : Heap.SameBut p.m s.heap (s.heap.update p.m (Obj.mapSeq f)) := Heap.SameBut.update ..
 have hd : ∃ o, (s.heap.update p.m (Obj.mapSeq f)).get? p.m = some o := ⟨_, hL.update f⟩
 have S := Step.own (K := K) (List.mem_of_getElem? ep) hs hd
 refine ⟨H.own ep (List.getElem?_eq_some_iff.mp e).1 hs ?_ hd, S⟩
 exact ⟨hpm, f vs, _, hL.update f, d.step S H⟩
noncomputable def atL (v : V) (hp : List O) (k : Nat → List PyData → Prop) : Prop := match v with
 | .r i => match hp[i]? with | some (.lst l) => k i l | _ => False
 | _ => False
theorem atL_rel {ρ : Rho} {hp : List O} {s : Shared} {v : V} {rv : Value} {k : Nat → List PyData → Prop} (q : atL v hp k) (H : HRel K ρ hp s.heap) (hv : VR ρ s.heap v rv) :
  ∃ i l p vs n, v = .r i ∧ hp[i]? = some (.lst l) ∧ ρ[i]? = some p ∧ rv = .ref p.m ∧ p.a = p.m ∧ IsL s.heap p.m vs n ∧ DRs s.heap (mu ρ) vs.toList l ∧ k i l := by
 cases v with
 | r i =>
  obtain ⟨l, e, q⟩ := lst_inv q
  obtain ⟨p, ep, rfl⟩ := hv
  obtain ⟨ha, vs, n, h1, h2⟩ := H.at e ep
  exact ⟨i, l, p, vs, n, rfl, e, ep, by rw [ha], ha, h1, h2, q⟩
 | _ => exact q.elim
noncomputable def mAppend : ML := fun v vas Q hp => match vas with
 | [w] => (match w with | .d x => atL v hp fun i l => l.length ≤ sizeLine ∧ Q (.d .none) (hp.set i (.lst (l ++ [x]))) | _ => False)
 | _ => False
theorem m_append : SoundML K r "list.append" mAppend := by
  intro A ok ρ hp s v l₀ rv vas ras Q E q H hv el hvs
  cases hvs with
  | nil => exact q.elim
  | cons a b => cases b with
    | cons => exact q.elim
    | nil => rename_i w rx; cases w with
     | d x =>
      obtain ⟨i, l, p, vs, n, rfl, e, ep, rfl, ha, hL, d, hz, q⟩ := atL_rel q H hv
      have z := d.length
      simp only [Array.length_toList] at z
      obtain ⟨H', S'⟩ := put_list (A := A) (f := fun xs => xs.push rx) (l' := l ++ [x]) H e ep hL ha (by simpa using d.append (.cons a .nil))
      refine call_meets PySem.F.slot_list_append ⟨_, hL, rfl⟩ PySem.F.entry_list_append (PySem.F.args_list_append_2 _ _) (list_append p.m vs n rx (by lia)) ⟨hL, ?_⟩
      exact ⟨_, _, ρ, _, s.toks, rfl, q, H', S', .none⟩
     | _ => exact q.elim
noncomputable def mReverse : ML := fun v vas Q hp => match vas with
 | [] => atL v hp fun i l => l.length ≤ sizeLine ∧ Q (.d .none) (hp.set i (.lst l.reverse))
 | _ => False
theorem m_reverse : SoundML K r "list.reverse" mReverse := by
 intro A ok ρ hp s v l₀ rv vas ras Q E q H hv el hvs
 unfold mReverse at q
 split at q
 ·obtain ⟨i, l, p, vs, n, rfl, e, ep, rfl, ha, hL, d, hz, q⟩ := atL_rel q H hv
  cases hvs
  have z := d.length
  simp only [Array.length_toList] at z
  obtain ⟨H', S'⟩ := put_list (A := A) (f := fun xs => xs.reverse) (l' := l.reverse) H e ep hL ha (by simpa using d.reverse)
  refine call_meets PySem.F.slot_list_reverse ⟨_, hL, rfl⟩ PySem.F.entry_list_reverse (PySem.F.args_list_reverse_1 _) (AutoSeq1.list_reverse_list_0 p.m vs n (by lia)) ⟨hL, ?_⟩
  exact ⟨_, _, ρ, _, s.toks, rfl, q, H', S', .none⟩
 ·exact q.elim
noncomputable def mPop : ML := fun v vas Q hp => match vas with
 | [] => atL v hp fun i l => match l.getLast? with | some x => l.length ≤ sizeLine ∧ Q (.d x) (hp.set i (.lst l.dropLast)) | none => False
 | [w] => (match w with | .d (.int i) => i = 0 ∧ atL v hp fun i l => (match l with | x :: t => l.length ≤ sizeLine ∧ Q (.d x) (hp.set i (.lst t)) | [] => False) | _ => False)
 | _ => False
theorem erase_last {α : Type} (xs : Array α) : (xs.eraseIdxIfInBounds (xs.size - 1)).toList = xs.toList.dropLast := by
 have h : (xs.eraseIdxIfInBounds (xs.size - 1)).toList = xs.toList.eraseIdx (xs.size - 1) := by
  unfold Array.eraseIdxIfInBounds
  split
  ·simp
  ·rename_i h
   have : xs.toList = [] := by
    have : xs.size = 0 := by omega
    simpa using this
   simp [this]
 rw [h, ← Array.length_toList, List.eraseIdx_length_sub_one]
theorem erase_first {α : Type} (xs : Array α) : (xs.eraseIdxIfInBounds 0).toList = xs.toList.drop 1 := by
 unfold Array.eraseIdxIfInBounds
 split
 ·simp [List.eraseIdx_zero]
 ·rename_i h
  have : xs.toList = [] := by
   have : xs.size = 0 := by lia
   simpa using this
  simp [this]
theorem DRs.dropLast {h : Heap} {μ : List Addr} {vs : List Value} {xs : List PyData} (d : DRs h μ vs xs) : DRs h μ vs.dropLast xs.dropLast := by
 rw [List.dropLast_eq_take, List.dropLast_eq_take, d.length]; exact d.take _
theorem m_pop : SoundML K r "list.pop" mPop := by
 intro A ok ρ hp s v l₀ rv vas ras Q E q H hv el hvs
 cases hvs with
 | nil =>
  obtain ⟨i, l, p, vs, n, rfl, e, ep, rfl, ha, hL, d, q⟩ := atL_rel q H hv
  have z := d.length
  simp only [Array.length_toList] at z
  split at q
  ·rename_i x ex
   rw [List.getLast?_eq_getElem?] at ex
   obtain ⟨y, ey, dy⟩ := d.get ex
   obtain ⟨H', S'⟩ := put_list (A := A) (f := fun xs => xs.eraseIdxIfInBounds (vs.size - 1)) (l' := l.dropLast) H e ep hL ha (by rw [erase_last]; exact d.dropLast)
   refine call_meets PySem.F.slot_list_pop ⟨_, hL, rfl⟩ PySem.F.entry_list_pop (PySem.F.args_list_pop_1 _) (MeetsSeq.list_pop_last p.m vs n y (by rw [z]; simpa using ey) (by omega)) ⟨hL, ?_⟩
   exact ⟨_, _, ρ, _, s.toks, rfl, q.2, H', S', dy.step S' H⟩
  ·exact q.elim
 | cons a b => cases b with
  | cons => exact q.elim
  | nil =>
   obtain ⟨_, rfl, rfl, q₂⟩ := int_inv q
   clear q
   cases a
   obtain ⟨i, l, p, vs, n, rfl, e, ep, rfl, ha, hL, d, q⟩ := atL_rel q₂ H hv
   rename_i u
   have z := d.length
   simp only [Array.length_toList] at z
   split at q
   ·rename_i x t
    obtain ⟨y, ey, dy⟩ := d.get (k := 0) (x := x) rfl
    obtain ⟨H', S'⟩ := put_list (A := A) (f := fun xs => xs.eraseIdxIfInBounds 0) (l' := t) H e ep hL ha (by rw [erase_first]; exact d.drop 1)
    have hpos : 0 < vs.size := by rw [z]; simp
    refine call_meets PySem.F.slot_list_pop ⟨_, hL, rfl⟩ PySem.F.entry_list_pop (PySem.F.args_list_pop_2 _ _) (MeetsSeq.list_pop_at p.m vs n 0 u 0 y (by decide) (by simp [seqIndex?, hpos]) (by simpa using ey) (by omega)) ⟨hL, ?_⟩
    exact ⟨_, _, ρ, _, s.toks, rfl, q.2, H', S', dy.step S' H⟩
   ·exact q.elim
end
noncomputable def psl {α : Type} (l : List α) (lo hi : Option Int) : List α :=
 (l.drop (lo.elim 0 (clipAt l.length))).take (hi.elim l.length (clipAt l.length) - lo.elim 0 (clipAt l.length))
theorem clipAt_le (n : Nat) (i : Int) : clipAt n i ≤ n := by
 have := clipAt_cast n i
 omega
theorem strSlice_eq (x : Str) (lo hi : Option Int) : Txt.slice x lo hi = ⟨(psl x.cps.toList lo hi).toArray⟩ := by
 have e : Builtin.Str.strSliceIndices lo hi 1 x.length = (List.range (hi.elim x.length (clipAt x.length) - lo.elim 0 (clipAt x.length))).map (lo.elim 0 (clipAt x.length) + ·) := by
  rw [← sliceRange_one]
  cases lo <;> cases hi <;> simp [Builtin.Str.strSliceIndices, clipAt_cast]
 have hl : x.cps.toList.length = x.length := by simp [Str.length]
 have p : ((Builtin.Str.strSliceIndices lo hi 1 x.length).filterMap (x.cps[·]?)) = psl x.cps.toList lo hi := by
  rw [e, pick_run]
  unfold psl
  rw [hl]
 unfold Txt.slice
 split
 ·rename_i h
  rw [e] at h
  simp only [List.length_map, List.length_range] at h
  have h2 : hi.elim x.length (clipAt x.length) - lo.elim 0 (clipAt x.length) = x.length := by simpa using h
  have hb : hi.elim x.length (clipAt x.length) ≤ x.length := by cases hi <;> simp [clipAt_le]
  have : psl x.cps.toList lo hi = x.cps.toList := by
   unfold psl
   rw [hl, h2]
   rcases Nat.eq_zero_or_pos x.length with h0 | h0
   ·have : x.cps.toList = [] := by rw [h0] at hl; exact List.length_eq_zero_iff.mp hl
    rw [this]; simp
   ·have : lo.elim 0 (clipAt x.length) = 0 := by omega
    rw [this, List.drop_zero, ← hl, List.take_length]
  rw [this]
 ·rw [p]
section
variable {K : KX} {r : Nat} {env : Env} {look : Str → Option Nat}
noncomputable def opItem : Op2 := fun va vb Q hp => match vb with
 | .d (.int i) => (-2 ^ 63 ≤ i ∧ i < 2 ^ 63) ∧ (match va with
  | .d (.str x) => match Txt.charAt x i with | some c => Q (.d (.str ⟨#[c]⟩)) hp | none => False
  | .d (.tuple l) => match (seqIndex? i l.length).bind (l[·]?) with | some y => Q (.d y) hp | none => False
  | va => ∃ l, lget va hp = some l ∧ match (seqIndex? i l.length).bind (l[·]?) with | some y => Q (.d y) hp | none => False)
 | _ => False
theorem seqIndex_pos {i : Int} {n k : Nat} (h : seqIndex? i n = some k) : k < n ∧ (0 ≤ i → i.toNat = k) ∧ (i < 0 → -(n : Int) ≤ i ∧ (i + n).toNat = k) := by
 by_cases hn : i < 0
 ·simp only [seqIndex?, hn, if_true] at h
  split at h
  ·rename_i hc
   simp only [Bool.and_eq_true, decide_eq_true_eq] at hc
   simp only [Option.some.injEq] at h
   exact ⟨by omega, by omega, fun _ => ⟨by omega, h⟩⟩
  ·cases h
 ·simp only [seqIndex?, hn, if_false] at h
  split at h
  ·rename_i hc
   simp only [Bool.and_eq_true, decide_eq_true_eq] at hc
   simp only [Option.some.injEq] at h
   exact ⟨by omega, fun _ => h, fun h => absurd h (by omega)⟩
  ·cases h
theorem e_sub {value slice : Expr} {pos : Pos} {a b : XE} (ha : SoundE K r env look value a) (hb : SoundE K r env look slice b)
  (hs : ∀ o i, subscripted slice false o i = operate [o, i] (getItem o i)) : SoundE K r env look (.Subscript value slice pos) (xBin opItem a b) := by
 intro A ok vs Q hp ρ s E q F H
 refine Subscript_ (ha.then ok q F H ?_)
 intro va hp₁ ρ₁ h₁ t₁ ra q₁ H₁ S₁ r₁ F₁
 refine hb.then ok (s := { s with heap := h₁, toks := t₁ }) q₁ F₁ H₁ ?_
 intro vb hp₂ ρ₂ h₂ t₂ rb q₂ H₂ S₂ r₂ F₂
 have r₁' := r₁.step S₂ H₁
 have done : ∀ {w : V} {rw : Value} (t : Nat), Q w hp₂ → VR ρ₂ h₂ w rw → PostE K ρ s Q rw { s with heap := h₂, toks := t } := fun t q r => ⟨_, hp₂, ρ₂, h₂, t, rfl, q, H₂, S₁.trans S₂, r⟩
 unfold opItem at q₂
 split at q₂
 ·rename_i i
  cases r₂
  rename_i u
  obtain ⟨⟨hlo, hhi⟩, q₂⟩ := q₂
  split at q₂
  ·rename_i x
   cases r₁'
   split at q₂
   ·rename_i c hc
    refine tail_any (typeIs_str _ _ _) PySem.F.slot_str_getitem.lookup ?_ (hs _ _)
    exact PyProof.Rows.getItem_str (by simp only [Bool.or_eq_false_iff, decide_eq_false_iff_not]; omega) hc (done _ q₂ (.str ..))
   ·exact q₂.elim
  ·rename_i l
   cases r₁' with
   | tuple h1 h2 h3 =>
    rename_i ad xs n
    split at q₂
    ·rename_i y hy
     obtain ⟨k, hk, hy⟩ := Option.bind_eq_some_iff.mp hy
     obtain ⟨w, hw, dw⟩ := h3.get hy
     have z := h3.length
     simp only [Array.length_toList] at z
     refine tail_any (T := "tuple") ⟨_, h1, rfl⟩ PySem.F.slot_tuple_getitem.lookup ?_ (hs _ _)
     exact PyProof.Rows.getItem_tuple (items := xs) ⟨_, h1, rfl, _, rfl⟩ hlo hhi (by rw [z]; exact hk) (by simpa using hw) (done _ q₂ dw)
    ·exact q₂.elim
  ·obtain ⟨l, el, q₂⟩ := q₂
   obtain ⟨ad, xs, n, rfl, hL, d⟩ := lget_rel H₂ r₁' el
   split at q₂
   ·rename_i y hy
    obtain ⟨k, hk, hy⟩ := Option.bind_eq_some_iff.mp hy
    obtain ⟨w, hw, dw⟩ := d.get hy
    have z := d.length
    simp only [Array.length_toList] at z
    obtain ⟨p1, p2, p3⟩ := seqIndex_pos hk
    refine tail_any (T := "list") hL.isList.typeIs slot_list_getitem.lookup ?_ (hs _ _)
    rcases Int.lt_or_le i 0 with hneg | hpos
    ·have := p3 hneg
     exact wpAny_getItem_list_neg hL.isList hneg (by omega) hlo (by rw [z, this.2]; simpa using hw) (done _ q₂ dw)
    ·exact wpAny_getItem_list hL.isList hpos hhi (by rw [p2 hpos]; simpa using hw) (done _ q₂ dw)
   ·exact q₂.elim
 ·exact q₂.elim
noncomputable abbrev XP := List (Option V) → (Option Int → List O → Prop) → List O → Prop
noncomputable def pNone : XP := fun _ Q hp => Q none hp
noncomputable def pSome (a : XE) : XP := fun vs Q => a vs fun v hp => match v with | .d (.int i) => Q (some i) hp | _ => False
inductive PartW (K : KX) (ρ : Rho) (Q : Option Int → List O → Prop) (s : Shared) (rv : Value) (s' : Shared) : Prop
 | mk (o : Option Int) (hp' : List O) (ρ' : Rho) (h' : Heap) (t : Tok) : s' = { s with heap := h', toks := t } → IsPart rv o → Q o hp' → HRel K ρ' hp' h' → Step K ρ s.heap ρ' h' → PartW K ρ Q s rv s'
noncomputable def SoundP (K : KX) (r : Nat) (env : Env) (look : Str → Option Nat) (e : Option Expr) (p : XP) : Prop :=
 ∀ A, OkA r A → ∀ vs Q hp ρ s E, p vs Q hp → FRel K env look vs ρ s.heap → HRel K ρ hp s.heap →
  wpAny (model K.prog K.w) A (evalPart e env) (PartW K ρ Q s) E s
theorem p_none : SoundP K r env look none pNone := fun A ok vs Q hp ρ s E q F H => wpAny_pure ⟨none, hp, ρ, s.heap, s.toks, rfl, .none, q, H, Step.refl ..⟩
theorem p_some {e : Expr} {a : XE} (ha : SoundE K r env look e a) : SoundP K r env look (some e) (pSome a) := by
 intro A ok vs Q hp ρ s E q F H
 refine ha.then ok q F H ?_
 intro va hp₁ ρ₁ h₁ t₁ ra q₁ H₁ S₁ r₁ F₁
 obtain ⟨_, rfl, q₁⟩ := int_inv q₁
 cases r₁; exact ⟨_, hp₁, ρ₁, h₁, t₁, rfl, .int .., q₁, H₁, S₁⟩
noncomputable def sliceV (va : V) (lo hi : Option Int) (Q : V → List O → Prop) (hp : List O) : Prop := match va with
 | .d (.str x) => x.length ≤ sizeLine ∧ Q (.d (.str ⟨(psl x.cps.toList lo hi).toArray⟩)) hp
 | .d (.tuple l) => ∃ a : Nat, lo = some ((a + 1 : Nat) : Int) ∧ hi = none ∧ a + 1 ≤ l.length ∧ l.length ≤ sizeLine ∧ Q (.d (.tuple (l.drop (a + 1)))) hp
 | va => ∃ l, lget va hp = some l ∧ l.length ≤ sizeLine ∧ Q (.d (.list (psl l lo hi))) hp
noncomputable def xSlice (a : XE) (lo hi : XP) : XE := fun vs Q => a vs fun va => lo vs fun l => hi vs fun u => sliceV va l u Q
theorem psl_DRs {h : Heap} {μ : List Addr} {vs : List Value} {xs : List PyData} (d : DRs h μ vs xs) (lo hi : Option Int) : DRs h μ (psl vs lo hi) (psl xs lo hi) := by
 unfold psl
 rw [d.length]
 exact (d.drop _).take _
theorem e_slice {value : Expr} {lower upper : Option Expr} {p pos : Pos} {a : XE} {lo hi : XP} (ha : SoundE K r env look value a) (hl : SoundP K r env look lower lo) (hu : SoundP K r env look upper hi) :
  SoundE K r env look (.Subscript value (.Slice lower upper none p) pos) (xSlice a lo hi) := by
 intro A ok vs Q hp ρ s E q F H
 refine Subscript_ (ha.then ok q F H ?_)
 intro va hp₁ ρ₁ h₁ t₁ ra q₁ H₁ S₁ r₁ F₁
 refine wpAny_Slice (wpAny_mono (hl A ok vs _ hp₁ ρ₁ { s with heap := h₁, toks := t₁ } E q₁ F₁ H₁) ?_ (fun _ _ x => x))
 rintro vl s₂ ⟨l, hp₂, ρ₂, h₂, t₂, rfl, pl, q₂, H₂, S₂⟩
 refine wpAny_mono (hu A ok vs _ hp₂ ρ₂ { s with heap := h₂, toks := t₂ } E q₂ (F₁.step H₁ S₂) H₂) ?_ (fun _ _ x => x)
 rintro vu s₃ ⟨u, hp₃, ρ₃, h₃, t₃, rfl, pu, q₃, H₃, S₃⟩
 refine wpAny_pure ?_
 have r₁' := (r₁.step S₂ H₁).step S₃ H₂
 have S := (S₁.trans S₂).trans S₃
 have ops : ∀ o i, subscripted (.Slice lower upper none p) false o i = operate [i, o] (getItem o i) := fun _ _ => rfl
 have H₄ : HRel K ρ₃ hp₃ (h₃.push { cls := .type "slice", data := .fields #[vl, vu, .none] }) := H₃.push _
 have S₄ : Step K ρ₃ h₃ ρ₃ (h₃.push { cls := .type "slice", data := .fields #[vl, vu, .none] }) := Step.push ..
 have sl : (h₃.push { cls := .type "slice", data := .fields #[vl, vu, .none] }).IsSliceOf h₃.objs.size vl vu .none := Heap.IsSliceOf.new ..
 have r₄ := r₁'.step S₄ H₃
 by_cases hr : ∃ l', lget va hp₃ = some l' ∧ l'.length ≤ sizeLine ∧ Q (.d (.list (psl l' l u))) hp₃
 ·obtain ⟨xs, el, hz, q₃⟩ := hr
  have H4 : HRel K ρ₃ hp₃ (h₃.push { cls := .type "slice", data := .fields #[vl, vu, .none] }) := H₄
  obtain ⟨ad, ys, n, rfl, hL, d⟩ := lget_rel H₄ r₄ el
  have z := d.length
  simp only [Array.length_toList] at z
  refine tail_any (T := "list") hL.isList.typeIs slot_list_getitem.lookup ?_ (ops _ _)
  refine wpAny_getItem_list_slice hL.isList sl pl pu .none (by simp) ?_ (by lia)
  refine PostE.after (S.trans S₄) (PostE.grown (s := { s with heap := h₃.push { cls := .type "slice", data := .fields #[vl, vu, .none] }, toks := t₃ }) t₃ q₃ H₄ (fun _ _ e => Heap.get?_push_of_some _ e) ?_)
  refine .list (n := 0) (Heap.get?_push_size _ rfl) H₄.sizeMu ?_
  rw [slicePick_plain]
  exact (psl_DRs d l u).step (Step.push K ..) H₄
 cases va with
 | d x => cases x with
  | str x =>
   cases r₄
   rename_i tx
   refine tail_any (typeIs_str _ _ _) PySem.F.slot_str_getitem.lookup ?_ (ops _ _)
   have fin : ∀ t' k, PostE K ρ s Q (.str (Txt.slice x l u) t') { s with heap := h₃.push { cls := .type "slice", data := .fields #[vl, vu, .none] }, toks := k } := by
    intro t' k
    refine ⟨_, hp₃, ρ₃, _, k, rfl, q₃.2, H₄, S.trans S₄, ?_⟩
    rw [strSlice_eq]
    exact .str ..
   cases pl with
   | none => cases pu with
    | none => exact wpAny_getItem_str_slice (l := none) (u := none) (st := none) sl rfl (post_val_or_str ⟨Nat.le_trans (Txt.slice_le x _ _) q₃.1, fin⟩)
    | int j tj => exact wpAny_getItem_str_slice (l := none) (u := some (j, tj)) (st := none) sl rfl (post_val_or_str ⟨Nat.le_trans (Txt.slice_le x _ _) q₃.1, fin⟩)
   | int i ti => cases pu with
    | none => exact wpAny_getItem_str_slice (l := some (i, ti)) (u := none) (st := none) sl rfl (post_val_or_str ⟨Nat.le_trans (Txt.slice_le x _ _) q₃.1, fin⟩)
    | int j tj => exact wpAny_getItem_str_slice (l := some (i, ti)) (u := some (j, tj)) (st := none) sl rfl (post_val_or_str ⟨Nat.le_trans (Txt.slice_le x _ _) q₃.1, fin⟩)
  | tuple xs => cases r₄ with
   | tuple h1 h2 h3 =>
    rename_i ad ys n
    obtain ⟨a', rfl, rfl, hle, hz, q₃⟩ := q₃
    cases pl; cases pu
    rename_i tl
    have z := h3.length
    simp only [Array.length_toList] at z
    refine tail_any (T := "tuple") ⟨_, h1, rfl⟩ PySem.F.slot_tuple_getitem.lookup ?_ (ops _ _)
    refine PyProof.Rows.getItem_tuple_from (items := ys) (a := a' + 1) ⟨_, h1, rfl, _, rfl⟩ sl (by lia) (by lia) ?_ (by lia)
    refine PostE.after (S.trans S₄) (PostE.grown (s := { s with heap := h₃.push { cls := .type "slice", data := .fields #[_, .none, .none] }, toks := t₃ }) t₃ q₃ H₄ (fun _ _ e => Heap.get?_push_of_some _ e) ?_)
    exact .tuple (n := 0) (Heap.get?_push_size _ rfl) H₄.sizeMu ((h3.drop (a' + 1)).step (Step.push K ..) H₄)
  | _ => exact (hr q₃).elim
 | _ => exact (hr q₃).elim
end
noncomputable abbrev G := Option (Nat × List PyData)
noncomputable def gOk : G → List O → Prop
 | none, _ => True
 | some (j, l), hp => hp[j]? = some (.lst l)
noncomputable def signsOf (x : Str) : List PyData := x.cps.toList.map fun c => .str ⟨#[c]⟩
noncomputable def rangeL (a b c : Int) : List PyData := (List.range (Builtin.Range.rangeSize a b c).toNat).map fun (k : Nat) => .int (a + c * (k : Int))
inductive IterAt (ρ : Rho) (h : Heap) (it : Addr) : G → List PyData → Prop
 | list {l : Addr} {vs : Array Value} {n i : Nat} {xs : List PyData} : h.IsListIter it l i → IsL h l vs n → l ∉ mu ρ → DRs h (mu ρ) (vs.toList.drop i) xs → IterAt ρ h it none xs
 | mlist {j : Nat} {l : List PyData} {p : P} {i : Nat} : ρ[j]? = some p → h.IsListIter it p.m i → IterAt ρ h it (some (j, l)) (l.drop i)
 | tuple {l : Addr} {vs : Array Value} {n i : Nat} {xs : List PyData} : h.IsTupleIter it l i → IsT h l vs n → l ∉ mu ρ → DRs h (mu ρ) (vs.toList.drop i) xs → IterAt ρ h it none xs
 | ascii {x : Str} {t : Tok} {i : Nat} : h.IsStrIter it "str_ascii_iterator" x t i → IterAt ρ h it none ((signsOf x).drop i)
 | wide {x : Str} {t : Tok} {i : Nat} : h.IsStrIter it "str_iterator" x t i → IterAt ρ h it none ((signsOf x).drop i)
 | range {x step : Int} {n : Nat} : IsRangeIter h it x n step → IterAt ρ h it none ((List.range n).map fun (k : Nat) => .int (x + step * (k : Int)))
section
variable {K : KX} {ρ ρ' : Rho} {hp : List O} {h h' : Heap} {it : Addr} {g : G} {xs : List PyData}
theorem IterAt.dom (I : IterAt ρ h it g xs) : ∃ o fs, h.get? it = some o ∧ o.data = .fields fs ∧ ∃ T, o.cls = .type T ∧ ["enumerate", "zip", "dict_itemiterator", "dict_reverseitemiterator", "odict_iterator", "itertools.zip_longest", "itertools.pairwise"].contains T = false ∧ T ≠ "range" := by
 cases I with
 | list h1 => obtain ⟨o, a, b, c⟩ := h1; exact ⟨o, _, a, c, _, b, by decide, by decide⟩
 | mlist _ h1 => obtain ⟨o, a, b, c⟩ := h1; exact ⟨o, _, a, c, _, b, by decide, by decide⟩
 | tuple h1 => obtain ⟨o, a, b, c⟩ := h1; exact ⟨o, _, a, c, _, b, by decide, by decide⟩
 | ascii h1 => obtain ⟨o, a, b, c⟩ := h1; exact ⟨o, _, a, c, _, b, by decide, by decide⟩
 | wide h1 => obtain ⟨o, a, b, c⟩ := h1; exact ⟨o, _, a, c, _, b, by decide, by decide⟩
 | range h1 => exact ⟨_, _, h1, rfl, _, rfl, by decide, by decide⟩
theorem IterAt.keeps (I : IterAt ρ h it g xs) (hk : ∀ o, h.get? it = some o → h'.get? it = some o) (hd : ∀ a o vs n, h.get? a = some o → o.data = .seq vs n → a ∉ mu ρ → h'.get? a = some o ∧ a ∉ mu ρ') (hpre : ρ <+: ρ') : IterAt ρ' h' it g xs := by
 cases I with
 | list h1 h2 h3 h4 => obtain ⟨o, a, b, c⟩ := h1; exact .list ⟨o, hk _ a, b, c⟩ (hd _ _ _ _ h2 rfl h3).1 (hd _ _ _ _ h2 rfl h3).2 (h4.mono hd)
 | mlist e h1 => obtain ⟨o, a, b, c⟩ := h1; exact .mlist (pre_get hpre e) ⟨o, hk _ a, b, c⟩
 | tuple h1 h2 h3 h4 => obtain ⟨o, a, b, c⟩ := h1; exact .tuple ⟨o, hk _ a, b, c⟩ (hd _ _ _ _ h2 rfl h3).1 (hd _ _ _ _ h2 rfl h3).2 (h4.mono hd)
 | ascii h1 => obtain ⟨o, a, b, c⟩ := h1; exact .ascii ⟨o, hk _ a, b, c⟩
 | wide h1 => obtain ⟨o, a, b, c⟩ := h1; exact .wide ⟨o, hk _ a, b, c⟩
 | range h1 => exact .range (hk _ h1)
theorem drop_cons {α : Type} {l : List α} {i : Nat} {x : α} {xs : List α} (e : l.drop i = x :: xs) : l[i]? = some x ∧ l.drop (i + 1) = xs := by
 constructor
 ·have : (l.drop i)[0]? = some x := by rw [e]; rfl
  simpa using this
 ·have : (l.drop i).drop 1 = xs := by rw [e]; rfl
  simpa [List.drop_drop, Nat.add_comm] using this
theorem drop_nil {α : Type} {l : List α} {i : Nat} (e : l.drop i = []) : l[i]? = none := by
 have := List.drop_eq_nil_iff.mp e
 exact List.getElem?_eq_none this
inductive NextW (K : KX) (ρ : Rho) (hp : List O) (it : Addr) (g : G) (xs : List PyData) (x : PyData) (s : Shared) (r : Option Value) (s' : Shared) : Prop
 | mk (rv : Value) (h' : Heap) (t : Tok) : s' = { s with heap := h', toks := t } → r = some rv → DR h' (mu ρ) rv x → IterAt ρ h' it g xs → HRel K ρ hp h' → Heap.SameBut it s.heap h' → NextW K ρ hp it g xs x s r s'
inductive EndW (K : KX) (ρ : Rho) (hp : List O) (it : Addr) (s : Shared) (r : Option Value) (s' : Shared) : Prop
 | mk (h' : Heap) : s' = { s with heap := h' } → r = none → HRel K ρ hp h' → Heap.ExtBut it s.heap h' → EndW K ρ hp it s r s'
inductive StartW (ρ : Rho) (hp : List O) (k : G → List PyData → Prop) (s : Shared) (r : Value) (s' : Shared) : Prop
 | mk (it : Addr) (g : G) (xs : List PyData) (h' : Heap) : s' = { s with heap := h' } → r = .ref it → k g xs → gOk g hp → IterAt ρ h' it g xs → s.heap.get? it = none → (∀ b o, s.heap.get? b = some o → h'.get? b = some o) → StartW ρ hp k s r s'
theorem iter_next {A : Around} {s : Shared} {x : PyData} {E : Value → Shared → Prop} (I : IterAt ρ s.heap it g (x :: xs)) (H : HRel K ρ hp s.heap) (hg : gOk g hp) (hn : K.New it) (ho : Off ρ it) :
  wpAny (model K.prog K.w) A (pyNext (.ref it)) (NextW K ρ hp it g xs x s) E s := by
 have nonseq : ∀ o, s.heap.get? it = some o → ∀ vs n, o.data ≠ .seq vs n := by
  obtain ⟨o, fs, e, hd, _⟩ := I.dom
  intro o' e' vs n q
  rw [e] at e'; cases e'; rw [hd] at q; cases q
 have fin : ∀ {h' : Heap}, Heap.SameBut it s.heap h' → HRel K ρ hp h' := fun hs => H.other hn ho hs.extBut nonseq
 have kd : ∀ {h' : Heap}, Heap.SameBut it s.heap h' → ∀ a o vs n, s.heap.get? a = some o → o.data = .seq vs n → a ∉ mu ρ → h'.get? a = some o ∧ a ∉ mu ρ := by
  intro h' hs a o vs n e hd hm
  exact ⟨(hs.2 a (by rintro rfl; exact nonseq o e vs n hd)).trans e, hm⟩
 generalize hxx : x :: xs = ys at I
 cases I with
 | list h1 h2 h3 h4 =>
  subst hxx
  rename_i l vs n i
  generalize hv : vs.toList.drop i = ws at h4
  cases h4 with
  | cons d ds =>
   obtain ⟨e1, e2⟩ := drop_cons hv
   refine wpAny_pyNext_list_item h1 (IsL.isList h2) (by simpa using e1) fun h' hi hs => ?_
   exact ⟨_, h', s.toks, rfl, rfl, d.mono (kd hs), .list hi ((kd hs) _ _ _ _ h2 rfl h3).1 h3 (by rw [e2]; exact ds.mono (kd hs)), fin hs, hs⟩
 | mlist e h1 =>
  rename_i j l p i
  obtain ⟨e1, e2⟩ := drop_cons hxx.symm
  have hgo : hp[j]? = some (.lst l) := hg
  obtain ⟨_, vs, n, hL, d⟩ := H.at hgo e
  obtain ⟨w, ew, dw⟩ := d.get e1
  refine wpAny_pyNext_list_item h1 (IsL.isList hL) (by simpa using ew) fun h' hi hs => ?_
  exact ⟨_, h', s.toks, rfl, rfl, dw.mono (kd hs), by rw [← e2]; exact .mlist e hi, fin hs, hs⟩
 | tuple h1 h2 h3 h4 =>
  subst hxx
  rename_i l vs n i
  generalize hv : vs.toList.drop i = ws at h4
  cases h4 with
  | cons d ds =>
   obtain ⟨e1, e2⟩ := drop_cons hv
   refine wpAny_pyNext_tuple_item h1 ⟨_, h2, rfl, _, rfl⟩ (by simpa using e1) fun h' hi hs => ?_
   exact ⟨_, h', s.toks, rfl, rfl, d.mono (kd hs), .tuple hi ((kd hs) _ _ _ _ h2 rfl h3).1 h3 (by rw [e2]; exact ds.mono (kd hs)), fin hs, hs⟩
 | ascii h1 =>
  rename_i y t i
  obtain ⟨e1, e2⟩ := drop_cons hxx.symm
  unfold signsOf at e1
  rw [List.getElem?_map] at e1
  cases ec : y.cps.toList[i]? with
  | none => rw [ec] at e1; cases e1
  | some c =>
   rw [ec] at e1
   cases e1
   refine wpAny_pyNext_ascii_item h1 (by simpa using ec) fun h' hi hs => ?_
   exact ⟨_, h', _, rfl, rfl, .str .., by rw [← e2]; exact .ascii hi, fin hs, hs⟩
 | wide h1 =>
  rename_i y t i
  obtain ⟨e1, e2⟩ := drop_cons hxx.symm
  unfold signsOf at e1
  rw [List.getElem?_map] at e1
  cases ec : y.cps.toList[i]? with
  | none => rw [ec] at e1; cases e1
  | some c =>
   rw [ec] at e1
   cases e1
   refine wpAny_pyNext_wide_item h1 (by simpa using ec) fun h' hi hs => ?_
   exact ⟨_, h', _, rfl, rfl, .str .., by rw [← e2]; exact .wide hi, fin hs, hs⟩
 | range h1 =>
  rename_i y st n
  cases n with
  | zero => cases hxx
  | succ n =>
   rw [List.range_succ_eq_map, List.map_cons] at hxx
   injection hxx with hx1 hx2
   refine wpAny_pyNext_range_item h1 (by lia) fun h' hi hs => ?_
   have e : x = .int y := by rw [hx1]; simp
   have hi' : IsRangeIter h' it (y + st) (n : Int) st := by
    have : ((n + 1 : Nat) : Int) - 1 = (n : Int) := by lia
    rw [this] at hi; exact hi
   refine ⟨_, h', _, rfl, rfl, e ▸ .int .., ?_, fin hs, hs⟩
   rw [hx2, List.map_map]
   have : ((fun k => PyData.int (y + st * (k : Nat))) ∘ Nat.succ) = fun k : Nat => PyData.int (y + st + st * (k : Int)) := by
    funext k
    simp only [Function.comp, Nat.succ_eq_add_one]
    congr 1
    rw [Int.natCast_add, Int.mul_add]; simp; lia
   rw [this]
   exact .range hi'
theorem iter_end {A : Around} {s : Shared} {E : Value → Shared → Prop} (hh : A.handled = none) (I : IterAt ρ s.heap it g []) (H : HRel K ρ hp s.heap) (hg : gOk g hp) (hn : K.New it) (ho : Off ρ it) :
  wpAny (model K.prog K.w) A (pyNext (.ref it)) (EndW K ρ hp it s) E s := by
 have nonseq : ∀ o, s.heap.get? it = some o → ∀ vs n, o.data ≠ .seq vs n := by
  obtain ⟨o, fs, e, hd, _⟩ := I.dom
  intro o' e' vs n q
  rw [e] at e'; cases e'; rw [hd] at q; cases q
 have fin : ∀ h' : Heap, Heap.ExtBut it s.heap h' → EndW K ρ hp it s none { s with heap := h' } :=
  fun h' hs => ⟨h', rfl, rfl, H.other hn ho hs nonseq, hs⟩
 generalize hxx : ([] : List PyData) = ys at I
 cases I with
 | list h1 h2 h3 h4 =>
  subst hxx
  rename_i l vs n i
  generalize hv : vs.toList.drop i = ws at h4
  cases h4
  exact wpAny_pyNext_list_end hh h1 (IsL.isList h2) (by simpa using drop_nil hv) fin
 | mlist e h1 =>
  rename_i j l p i
  have e1 := drop_nil hxx.symm
  have hgo : hp[j]? = some (.lst l) := hg
  obtain ⟨_, vs, n, hL, d⟩ := H.at hgo e
  have z := d.length
  have : l.length ≤ i := List.getElem?_eq_none_iff.mp e1
  exact wpAny_pyNext_list_end hh h1 (IsL.isList hL) (by rw [← Array.getElem?_toList]; exact List.getElem?_eq_none (by lia)) fin
 | tuple h1 h2 h3 h4 =>
  subst hxx
  rename_i l vs n i
  generalize hv : vs.toList.drop i = ws at h4
  cases h4
  exact wpAny_pyNext_tuple_end hh h1 ⟨_, h2, rfl, _, rfl⟩ (by simpa using drop_nil hv) fin
 | ascii h1 =>
  rename_i y t i
  have e1 := drop_nil hxx.symm
  unfold signsOf at e1
  refine wpAny_pyNext_ascii_end hh h1 ?_ fin
  rw [List.getElem?_map] at e1
  simpa using e1
 | wide h1 =>
  rename_i y t i
  have e1 := drop_nil hxx.symm
  unfold signsOf at e1
  refine wpAny_pyNext_wide_end hh h1 ?_ fin
  rw [List.getElem?_map] at e1
  simpa using e1
 | range h1 =>
  rename_i y st n
  cases n with
  | zero => exact wpAny_pyNext_range_end hh h1 (by simp) fin
  | succ n => rw [List.range_succ_eq_map] at hxx; cases hxx
noncomputable def iterV (v : V) (hp : List O) (k : G → List PyData → Prop) : Prop := match v with
 | .d (.list l) => k none l
 | .d (.tuple l) => k none l
 | .d (.str x) => k none (signsOf x)
 | .rng a b c => Builtin.Range.small a b c = true ∧ k none (rangeL a b c)
 | .r i => match hp[i]? with | some (.lst l) => k (some (i, l)) l | _ => False
 | _ => False
theorem rangeSize_nn (a b c : Int) : 0 ≤ Builtin.Range.rangeSize a b c := by
 unfold Builtin.Range.rangeSize
 split
 ·split
  ·have := Int.ediv_nonneg (a := b - a - 1) (b := c) (by lia) (by lia)
   lia
  ·exact Int.le_refl _
 ·split
  ·have := Int.ediv_nonneg (a := a - b - 1) (b := -c) (by lia) (by lia)
   lia
  ·exact Int.le_refl _
theorem iter_start {A : Around} {s : Shared} {v : V} {rv : Value} {E : Value → Shared → Prop} {k : G → List PyData → Prop} (q : iterV v hp k) (hv : VR ρ s.heap v rv) (H : HRel K ρ hp s.heap) :
    wpAny (model K.prog K.w) A (pyIter rv) (StartW ρ hp k s) E s := by
  have fr : s.heap.get? s.heap.objs.size = none := get?_beyond (Nat.le_refl _)
  have pk : ∀ ob b o, s.heap.get? b = some o → (s.heap.push ob).get? b = some o := fun ob _ _ e => Heap.get?_push_of_some _ e
  cases v with
  | d y => cases y with
   | list => cases hv with
    | list h1 h2 h3 =>
      refine wpAny_pyIter_list (IsL.isList h1) ⟨_, none, _, _, rfl, rfl, q, trivial, ?_, fr, pk _⟩
      exact .list (i := 0) ⟨_, Heap.get?_push_size _ rfl, rfl, rfl⟩ (pk _ _ _ h1) h2 (by rw [List.drop_zero]; exact h3.step (Step.push K ..) H)
   | tuple => cases hv with
    | tuple h1 h2 h3 =>
      refine wpAny_pyIter_tuple ⟨_, h1, rfl, _, rfl⟩ ⟨_, none, _, _, rfl, rfl, q, trivial, ?_, fr, pk _⟩
      exact .tuple (i := 0) ⟨_, Heap.get?_push_size _ rfl, rfl, rfl⟩ (pk _ _ _ h1) h2 (by rw [List.drop_zero]; exact h3.step (Step.push K ..) H)
   | str x =>
    cases hv
    rename_i t
    cases ha : x.cps.all (· < 128) with
    | true => exact wpAny_pyIter_ascii ha ⟨_, none, _, _, rfl, rfl, q, trivial, .ascii (i := 0) ⟨_, Heap.get?_push_size _ rfl, rfl, rfl⟩, fr, pk _⟩
    | false => exact wpAny_pyIter_wide ha ⟨_, none, _, _, rfl, rfl, q, trivial, .wide (i := 0) ⟨_, Heap.get?_push_size _ rfl, rfl, rfl⟩, fr, pk _⟩
   | _ => exact q.elim
  | rng a b c =>
    obtain ⟨r, t, u, w, rfl, e, hm⟩ := hv
    refine wpAny_pyIter_range e q.1 ⟨_, none, _, _, rfl, rfl, q.2, trivial, ?_, fr, pk _⟩
    refine .range (n := (Builtin.Range.rangeSize a b c).toNat) ?_
    rw [Int.toNat_of_nonneg (rangeSize_nn a b c)]
    exact Heap.get?_push_size _ rfl
  | r i =>
    obtain ⟨p, ep, rfl⟩ := hv
    obtain ⟨l, e, q⟩ := lst_inv q
    obtain ⟨ha, vs, n, hL, d⟩ := H.at e ep
    rw [ha]
    refine wpAny_pyIter_list (IsL.isList hL) ⟨_, some (i, l), l, _, rfl, rfl, q, e, ?_, fr, pk _⟩
    exact .mlist (i := 0) (l := l) ep ⟨_, Heap.get?_push_size _ rfl, rfl, rfl⟩
  | g => exact q.elim
theorem iter_self {A : Around} {s : Shared} {E : Value → Shared → Prop} {Q : Value → Shared → Prop} (I : IterAt ρ s.heap it g xs) (q : Q (.ref it) s) : wpAny (model K.prog K.w) A (pyIter (.ref it)) Q E s := by
 cases I with
 | list h1 => exact wpAny_pyIter_listiter h1 q
 | mlist _ h1 => exact wpAny_pyIter_listiter h1 q
 | tuple h1 => exact wpAny_pyIter_tupleiter h1 q
 | ascii h1 => exact wpAny_pyIter_striter_ascii h1 q
 | wide h1 => exact wpAny_pyIter_striter_wide h1 q
 | range h1 => exact wpAny_pyIter_rangeiter h1 q
theorem iter_owned {A : Around} {s : Shared} {E : Value → Shared → Prop} {Q : Unit → Shared → Prop} {target : Expr} {v : Value} (I : IterAt ρ s.heap it g xs) (q : Q () s) : wpAny (model K.prog K.w) A (letOwnedTupleGo target (.ref it) v) Q E s := by
 obtain ⟨o, fs, e, hd, T, hc, ht, _⟩ := I.dom
 have key : wpAny (model K.prog K.w) A (do
   let (.ref r, .ref a) := (Value.ref it, v) | return
   let o ← load r
   match o.cls, o.data with
   | .type n, .fields vs =>
    if ["enumerate", "zip", "dict_itemiterator", "dict_reverseitemiterator", "odict_iterator", "itertools.zip_longest", "itertools.pairwise"].contains n && vs[0]? == some (rawInt a) then
     rule "for.unpacks-the-owned-tuple"
     updateField r 0 .none
   | _, _ => pure ()) Q E s := by
  cases v with
  | ref a =>
   refine wpAny_bind (wpAny_load e ?_)
   rw [hc, hd]
   show wpAny _ A (if (_ && _) = true then _ else _) Q E s
   rw [if_neg (by rw [ht]; simp)]
   exact wpAny_pure q
  | _ => exact wpAny_pure q
 cases target <;> first | exact wpAny_pure q | exact key
end
noncomputable def Place (env : Env) (b : Addr) : Prop := b = env.locals ∨ ∃ x, env.kindOf x = some .cell ∧ env.cells.lookup x = some b
structure StepS (K : KX) (env : Env) (ρ : Rho) (h : Heap) (ρ' : Rho) (h' : Heap) : Prop where
 pre : ρ <+: ρ'
 new : ∀ p ∈ ρ', p ∈ ρ ∨ (h.get? p.m = none ∧ ∀ a ∈ p.f, h.get? a = none)
 keep : ∀ b o, h.get? b = some o → b ≠ K.tb → b ∉ mu ρ → ¬ Place env b → h'.get? b = some o
 dom : ∀ b o, h.get? b = some o → ∃ o', h'.get? b = some o'
section
variable {K : KX} {env : Env} {look : Str → Option Nat} {vs : List (Option V)} {ρ ρ₁ ρ₂ ρ' : Rho} {hp : List O} {h h₁ h₂ h' : Heap}
theorem Step.toS (S : Step K ρ h ρ' h') : StepS K env ρ h ρ' h' := ⟨S.pre, S.new, fun b o e a c _ => S.keep b o e a c, S.dom⟩
theorem StepS.notMu (S : StepS K env ρ h ρ' h') {b : Addr} {o : Obj} (hb : h.get? b = some o) (hn : b ∉ mu ρ) : b ∉ mu ρ' := by
 intro hm
 obtain ⟨p, hp, rfl⟩ := List.mem_map.mp hm
 rcases S.new p hp with q | q
 ·exact hn (List.mem_map.mpr ⟨p, q, rfl⟩)
 ·rw [q.1] at hb; cases hb
theorem StepS.trans (a : StepS K env ρ h ρ₁ h₁) (b : StepS K env ρ₁ h₁ ρ₂ h₂) : StepS K env ρ h ρ₂ h₂ :=
 ⟨a.pre.trans b.pre, fun p hp => (b.new p hp).elim (fun q => a.new p q) fun q => .inr ⟨none_of_dom a.dom q.1, fun x hx => none_of_dom a.dom (q.2 x hx)⟩,
  fun x o e h1 h2 h3 => b.keep x o (a.keep x o e h1 h2 h3) h1 (a.notMu e h2) h3, fun x o e => let ⟨o', e'⟩ := a.dom x o e; b.dom x o' e'⟩
theorem StepS.refl (K : KX) (env : Env) (ρ : Rho) (h : Heap) : StepS K env ρ h ρ h := (Step.refl K ρ h).toS
theorem FRel.notPlace (F : FRel K env look vs ρ h) {b : Addr} {o : Obj} (e : h.get? b = some o) (h1 : ∀ es n, o.data ≠ .dict es n) (h2 : ∀ v, o.data ≠ .cell v) : ¬ Place env b := by
 rintro (rfl | ⟨x, hx, hc⟩)
 ·obtain ⟨m, ⟨o', es, ep, e', d, _⟩, _⟩ := F.ns
  rw [e] at e'; cases e'; exact h1 _ _ d
 ·obtain ⟨c, o', ov, a1, _, _, a4, a5, _⟩ := F.cl x (.inl hx)
  rw [hc] at a1; cases a1
  rw [e] at a4; cases a4; exact h2 _ a5
theorem FRel.seqPlace (F : FRel K env look vs ρ h) {b : Addr} {o : Obj} {xs : Array Value} {n : Nat} (e : h.get? b = some o) (hd : o.data = .seq xs n) : ¬ Place env b :=
 F.notPlace e (fun _ _ q => by rw [hd] at q; cases q) (fun _ q => by rw [hd] at q; cases q)
theorem DR.stepS (S : StepS K env ρ h ρ' h') (F : FRel K env look vs ρ h) (H : HRel K ρ hp h) {v : Value} {x : PyData} (d : DR h (mu ρ) v x) : DR h' (mu ρ') v x :=
 d.mono fun a o vs n e hd hm => ⟨S.keep a o e (H.seqTb e hd) hm (F.seqPlace e hd), S.notMu e hm⟩
theorem VR.stepS (S : StepS K env ρ h ρ' h') (F : FRel K env look vs ρ h) (H : HRel K ρ hp h) {v : V} {rv : Value} (d : VR ρ h v rv) : VR ρ' h' v rv := by
 cases v with
 | d x => exact DR.stepS S F H d
 | r i => obtain ⟨p, e, rfl⟩ := d; exact ⟨p, pre_get S.pre e, rfl⟩
 | rng a b c =>
  obtain ⟨q, t, u, v, rfl, e, hm⟩ := d
  exact ⟨q, t, u, v, rfl, S.keep _ _ e (H.tbObj e (by simp)) hm (F.notPlace e (by simp) (by simp)), S.notMu e hm⟩
 | g v => exact d
theorem IterAt.stepS {it : Addr} {g : G} {xs : List PyData} (I : IterAt ρ h it g xs) (S : StepS K env ρ h ρ' h') (F : FRel K env look vs ρ h) (H : HRel K ρ hp h) (hm : it ∉ mu ρ) (ht : it ≠ K.tb) : IterAt ρ' h' it g xs := by
 obtain ⟨o, fs, e, hd, _⟩ := I.dom
 refine I.keeps (fun o' e' => S.keep _ _ e' ht hm ?_) (fun a o vs n e hd hm => ⟨S.keep a o e (H.seqTb e hd) hm (F.seqPlace e hd), S.notMu e hm⟩) S.pre
 rw [e] at e'; cases e'
 exact F.notPlace e (fun _ _ q => by rw [hd] at q; cases q) (fun _ q => by rw [hd] at q; cases q)
inductive StoW (K : KX) (env : Env) (look : Str → Option Nat) (vs : List (Option V)) (hp : List O) (ρ : Rho) (s s' : Shared) : Prop
 | mk (h' : Heap) (t : Tok) : s' = { s with heap := h', toks := t } → FRel K env look vs ρ h' → HRel K ρ hp h' → StepS K env ρ s.heap ρ h' → StoW K env look vs hp ρ s s'
theorem store_name {A : Around} {s : Shared} {E : Value → Shared → Prop} {x : Str} {k : Nat} {v : V} {rv : Value} (hk : env.kindOf x = some .local ∨ env.kindOf x = some .cell) (hl : look x = some k)
  (F : FRel K env look vs ρ s.heap) (H : HRel K ρ hp s.heap) (hv : VR ρ s.heap v rv) :
  wpAny (model K.prog K.w) A (storeName env x rv) (fun _ => StoW K env look (vs.set k (some v)) hp ρ s) E s := by
 have slot : ∀ y j w, look y = some j → (vs.set k (some v))[j]? = some (some w) → (y = x ∧ w = v) ∨ (y ≠ x ∧ vs[j]? = some (some w)) := by
  intro y j w hy e
  rw [List.getElem?_set] at e
  by_cases hj : k = j
  ·subst hj
   rw [if_pos rfl] at e
   split at e
   ·cases e; exact .inl ⟨F.ij y x k hy hl, rfl⟩
   ·cases e
  ·rw [if_neg hj] at e
   exact .inr ⟨fun q => hj (by subst q; rw [hl] at hy; cases hy; rfl), e⟩
 rcases hk with hk | hk
 ·obtain ⟨m, n, f⟩ := F.ns
  have hkc : (env.scope.kind == .class || (env.scope.kind == .module && env.locals != env.globals)) = false := by rw [F.kd]; rfl
  obtain ⟨ol, es, ep, el, dl, _⟩ := id n
  refine wpAny_storeName_local hk n (fun h' n' hs => ?_) hkc
  have S : StepS K env ρ s.heap ρ h' := ⟨List.prefix_refl _, fun _ hp => .inl hp, fun b o e _ _ hb => (hs.2 b (fun q => hb (.inl q))).trans e, fun b o e => by
   by_cases hb : b = env.locals
   ·subst hb; obtain ⟨o', _, _, e', _⟩ := n'; exact ⟨o', e'⟩
   ·exact ⟨o, (hs.2 b hb).trans e⟩⟩
  have nonseq : ∀ o, s.heap.get? env.locals = some o → ∀ vs n, o.data ≠ .seq vs n := by
   intro o' e' vs n q
   rw [el] at e'; cases e'; rw [dl] at q; cases q
  refine ⟨h', _, rfl, ⟨F.kd, F.gl, F.bi, F.lb, F.lo, ⟨_, n', ?_⟩, ?_, F.ci, F.ij⟩, H.other F.lb F.lo hs.extBut nonseq, S⟩
  ·intro y j w hy hj e
   rcases slot y j w hj e with ⟨rfl, rfl⟩ | ⟨hne, e⟩
   ·exact ⟨rv, by simp, hv.stepS S F H⟩
   ·obtain ⟨rw', e1, e2⟩ := f y j w hy hj e
    exact ⟨rw', by simp [hne, e1], e2.stepS S F H⟩
  ·intro y hy
   obtain ⟨c, o, ov, a1, a2, a3, a4, a5, a6⟩ := F.cl y hy
   have hne : c ≠ env.locals := by rintro rfl; rw [el] at a4; cases a4; rw [dl] at a5; cases a5
   refine ⟨c, o, ov, a1, a2, a3, (hs.2 c hne).trans a4, a5, fun j w hj e => ?_⟩
   rcases slot y j w hj e with ⟨rfl, rfl⟩ | ⟨_, e⟩
   ·rcases hy with hy | hy <;> (rw [hk] at hy; cases hy)
   ·obtain ⟨rw', e1, e2⟩ := a6 j w hj e
    exact ⟨rw', e1, e2.stepS S F H⟩
 ·obtain ⟨c, o, ov, a1, a2, a3, a4, a5, a6⟩ := F.cl x (.inl hk)
  refine wpAny_storeName_cell F.kd hk a1 ⟨o, a4, a5⟩ (fun h' n' hs => ?_)
  have S : StepS K env ρ s.heap ρ h' := ⟨List.prefix_refl _, fun _ hp => .inl hp, fun b o e _ _ hb => (hs.2 b (fun q => hb (.inr ⟨x, hk, q ▸ a1⟩))).trans e, fun b o e => by
   by_cases hb : b = c
   ·subst hb; obtain ⟨o', e', _⟩ := n'; exact ⟨o', e'⟩
   ·exact ⟨o, (hs.2 b hb).trans e⟩⟩
  have nonseq : ∀ o, s.heap.get? c = some o → ∀ vs n, o.data ≠ .seq vs n := by
   intro o' e' vs n q
   rw [a4] at e'; cases e'; rw [a5] at q; cases q
  have hcl : env.locals ≠ c := by
   rintro rfl
   obtain ⟨m, ⟨ol, es, ep, el, dl, _⟩, _⟩ := F.ns
   rw [el] at a4; cases a4; rw [dl] at a5; cases a5
  refine ⟨h', _, rfl, ⟨F.kd, F.gl, F.bi, F.lb, F.lo, ?_, ?_, F.ci, F.ij⟩, H.other a2 a3 hs.extBut nonseq, S⟩
  ·obtain ⟨m, n, f⟩ := F.ns
   refine ⟨m, n.sameBut hs hcl, fun y j w hy hj e => ?_⟩
   rcases slot y j w hj e with ⟨rfl, rfl⟩ | ⟨_, e⟩
   ·rw [hk] at hy; cases hy
   ·obtain ⟨rw', e1, e2⟩ := f y j w hy hj e
    exact ⟨rw', e1, e2.stepS S F H⟩
  ·intro y hy
   by_cases hyx : y = x
   ·subst hyx
    obtain ⟨o', e', d'⟩ := n'
    refine ⟨c, o', _, a1, a2, a3, e', d', fun j w hj e => ?_⟩
    rcases slot y j w hj e with ⟨_, rfl⟩ | ⟨hne, _⟩
    ·exact ⟨rv, rfl, hv.stepS S F H⟩
    ·exact absurd rfl hne
   ·obtain ⟨c', o', ov', b1, b2, b3, b4, b5, b6⟩ := F.cl y hy
    have hne : c' ≠ c := by rintro rfl; exact hyx (F.ci y x c' b1 a1)
    refine ⟨c', o', ov', b1, b2, b3, (hs.2 c' hne).trans b4, b5, fun j w hj e => ?_⟩
    rcases slot y j w hj e with ⟨h, _⟩ | ⟨_, e⟩
    ·exact absurd h hyx
    ·obtain ⟨rw', e1, e2⟩ := b6 j w hj e
     exact ⟨rw', e1, e2.stepS S F H⟩
end
inductive FlA where
 | next | brk | cont
 | ret (v : V)
noncomputable def FlR (ρ : Rho) (h : Heap) : FlA → Flow → Prop
 | .next, .next => True
 | .brk, .brk => True
 | .cont, .cont => True
 | .ret v, .ret rv => VR ρ h v rv
 | _, _ => False
noncomputable abbrev QS := FlA → List (Option V) → List O → Prop
noncomputable abbrev XS := List (Option V) → QS → List O → Prop
inductive PostS (K : KX) (env : Env) (look : Str → Option Nat) (ρ : Rho) (s : Shared) (Q : QS) (fl : Flow) (s' : Shared) : Prop
 | mk (af : FlA) (vs' : List (Option V)) (hp' : List O) (ρ' : Rho) (h' : Heap) (t : Nat) (e : s' = { s with heap := h', toks := t }) (q : Q af vs' hp') (F : FRel K env look vs' ρ' h') (H : HRel K ρ' hp' h') (S : StepS K env ρ s.heap ρ' h') (r : FlR ρ' h' af fl)
theorem PostS.after {K : KX} {env : Env} {look : Str → Option Nat} {ρ ρ₁ : Rho} {s : Shared} {h₁ : Heap} {t₁ : Nat} {Q : QS} {fl : Flow} {s' : Shared} (S : StepS K env ρ s.heap ρ₁ h₁)
  (p : PostS K env look ρ₁ { s with heap := h₁, toks := t₁ } Q fl s') : PostS K env look ρ s Q fl s' :=
 let ⟨af, vs', hp', ρ', h', t, e, q, F, H, S', r⟩ := p
 ⟨af, vs', hp', ρ', h', t, e, q, F, H, S.trans S', r⟩
noncomputable def SoundS (K : KX) (r : Nat) (env : Env) (look : Str → Option Nat) (st : Stmt) (p : XS) : Prop :=
 ∀ A, OkA r A → ∀ vs Q hp ρ s E, p vs Q hp → FRel K env look vs ρ s.heap → HRel K ρ hp s.heap → wpAny (model K.prog K.w) A (exec st env) (PostS K env look ρ s Q) E s
noncomputable def SoundSs (K : KX) (r : Nat) (env : Env) (look : Str → Option Nat) (st : List Stmt) (p : XS) : Prop :=
 ∀ A, OkA r A → ∀ vs Q hp ρ s E, p vs Q hp → FRel K env look vs ρ s.heap → HRel K ρ hp s.heap → wpAny (model K.prog K.w) A (execs st env) (PostS K env look ρ s Q) E s
section
variable {K : KX} {r : Nat} {env : Env} {look : Str → Option Nat}
noncomputable def sNil : XS := fun vs Q => Q .next vs
noncomputable def sCons (a b : XS) : XS := fun vs Q => a vs fun fl vs' hp => match fl with | .next => b vs' Q hp | fl => Q fl vs' hp
theorem ss_nil : SoundSs K r env look [] sNil := fun A ok vs Q hp ρ s E q F H => wpAny_execs_nil ⟨_, vs, hp, ρ, s.heap, s.toks, rfl, q, F, H, StepS.refl .., trivial⟩
theorem ss_cons {st : Stmt} {rest : List Stmt} {a b : XS} (ha : SoundS K r env look st a) (hb : SoundSs K r env look rest b) : SoundSs K r env look (st :: rest) (sCons a b) := by
 intro A ok vs Q hp ρ s E q F H
 refine wpAny_execs_cons (wpAny_mono (ha A ok vs _ hp ρ s E q F H) ?_ (fun _ _ x => x))
 rintro fl s' ⟨af, vs', hp', ρ', h', t, rfl, q', F', H', S, fr⟩
 cases af <;> cases fl <;> first | exact fr.elim | skip
 ·exact wpAny_mono (hb A ok vs' Q hp' ρ' { s with heap := h', toks := t } E q' F' H') (fun fl s' p => PostS.after S p) (fun _ _ x => x)
 ·exact ⟨.brk, vs', hp', ρ', h', t, rfl, q', F', H', S, trivial⟩
 ·exact ⟨.cont, vs', hp', ρ', h', t, rfl, q', F', H', S, trivial⟩
 ·exact ⟨.ret _, vs', hp', ρ', h', t, rfl, q', F', H', S, fr⟩
noncomputable def sAssign (k : Nat) (a : XE) : XS := fun vs Q => a vs fun v hp => Q .next (vs.set k (some v)) hp
theorem s_assign {x : Str} {k : Nat} {pos' pos : Pos} {value : Expr} {a : XE} (ha : SoundE K r env look value a) (hk : env.kindOf x = some .local ∨ env.kindOf x = some .cell) (hl : look x = some k)
  (hs : swapsWith value (some (.Name x pos')) pos.line env = pure false) : SoundS K r env look (.Assign [.Name x pos'] value pos) (sAssign k a) := by
 intro A ok vs Q hp ρ s E q F H
 refine wpAny_Assign_Name (ha.then ok q F H ?_) hs
 intro va hp₁ ρ₁ h₁ t₁ ra q₁ H₁ S₁ r₁ F₁
 refine wpAny_mono (store_name (s := { s with heap := h₁, toks := t₁ }) hk hl F₁ H₁ r₁) ?_ (fun _ _ x => x)
 rintro _ s' ⟨h₂, t₂, rfl, F₂, H₂, S₂⟩
 exact ⟨.next, _, hp₁, ρ₁, h₂, t₂, rfl, q₁, F₂, H₂, S₁.toS.trans S₂, trivial⟩
noncomputable def sExpr (a : XE) : XS := fun vs Q => a vs fun _ hp => Q .next vs hp
theorem s_expr {e : Expr} {pos : Pos} {a : XE} (ha : SoundE K r env look e a) (hi : interactive env = false) (hs : swapsWith e none pos.line env = pure false) : SoundS K r env look (.Expr e pos) (sExpr a) := by
 intro A ok vs Q hp ρ s E q F H
 refine wpAny_Expr_any (ha.then ok q F H ?_) hi hs
 intro va hp₁ ρ₁ h₁ t₁ ra q₁ H₁ S₁ r₁ F₁
 exact ⟨.next, vs, hp₁, ρ₁, h₁, t₁, rfl, q₁, F₁, H₁, S₁.toS, trivial⟩
noncomputable def sRet (a : XE) : XS := fun vs Q => a vs fun v hp => Q (.ret v) vs hp
theorem s_ret {e : Expr} {pos : Pos} {a : XE} (ha : SoundE K r env look e a) : SoundS K r env look (.Return (some e) pos) (sRet a) := by
 intro A ok vs Q hp ρ s E q F H
 refine wpAny_Return_some (ha.then ok q F H ?_)
 intro va hp₁ ρ₁ h₁ t₁ ra q₁ H₁ S₁ r₁ F₁
 exact ⟨.ret va, vs, hp₁, ρ₁, h₁, t₁, rfl, q₁, F₁, H₁, S₁.toS, r₁⟩
noncomputable def sCont : XS := fun vs Q => Q .cont vs
theorem s_cont {pos : Pos} : SoundS K r env look (.Continue pos) sCont := fun A ok vs Q hp ρ s E q F H => by
 show wpAny _ A (do standAt pos; pure Flow.cont) _ E s
 exact wpAny_bind (wpAny_standAt (wpAny_pure ⟨.cont, vs, hp, ρ, s.heap, s.toks, rfl, q, F, H, StepS.refl .., trivial⟩))
noncomputable def sIf (t : XB) (a b : XS) : XS := fun vs Q => t vs fun x hp => match x with | true => a vs Q hp | false => b vs Q hp
theorem s_if {test : Expr} {body orelse : List Stmt} {pos : Pos} {t : XB} {a b : XS} (ht : SoundB K r env look test t) (ha : SoundSs K r env look body a) (hb : SoundSs K r env look orelse b) :
  SoundS K r env look (.If test body orelse pos) (sIf t a b) := by
 intro A ok vs Q hp ρ s E q F H
 refine wpAny_If (ht.then ok q F H ?_)
 intro c hp₁ ρ₁ h₁ t₁ q₁ H₁ S₁ F₁
 cases c with
 | true => exact wpAny_mono (ha A ok vs Q hp₁ ρ₁ { s with heap := h₁, toks := t₁ } E q₁ F₁ H₁) (fun rv s' p => PostS.after S₁.toS p) (fun _ _ x => x)
 | false => exact wpAny_mono (hb A ok vs Q hp₁ ρ₁ { s with heap := h₁, toks := t₁ } E q₁ F₁ H₁) (fun rv s' p => PostS.after S₁.toS p) (fun _ _ x => x)
end
noncomputable abbrev XT := V → List (Option V) → (List (Option V) → List O → Prop) → List O → Prop
inductive PostT (K : KX) (env : Env) (look : Str → Option Nat) (ρ : Rho) (s : Shared) (Q : List (Option V) → List O → Prop) (s' : Shared) : Prop
 | mk (vs' : List (Option V)) (hp' : List O) (ρ' : Rho) (h' : Heap) (t : Nat) (e : s' = { s with heap := h', toks := t }) (q : Q vs' hp') (F : FRel K env look vs' ρ' h') (H : HRel K ρ' hp' h') (S : StepS K env ρ s.heap ρ' h')
noncomputable def SoundT (K : KX) (r : Nat) (env : Env) (look : Str → Option Nat) (t : Expr) (p : XT) : Prop :=
 ∀ A, OkA r A → ∀ v vs Q hp ρ s E rv, p v vs Q hp → FRel K env look vs ρ s.heap → HRel K ρ hp s.heap → VR ρ s.heap v rv → wpAny (model K.prog K.w) A (assign t env rv) (fun _ => PostT K env look ρ s Q) E s
section
variable {K : KX} {r : Nat} {env : Env} {look : Str → Option Nat}
noncomputable def tName (k : Nat) : XT := fun v vs Q => Q (vs.set k (some v))
theorem t_name {x : Str} {k : Nat} {pos : Pos} (hk : env.kindOf x = some .local ∨ env.kindOf x = some .cell) (hl : look x = some k) : SoundT K r env look (.Name x pos) (tName k) := by
 intro A ok v vs Q hp ρ s E rv q F H hv
 refine wpAny_assign_Name (wpAny_mono (store_name hk hl F H hv) ?_ (fun _ _ x => x))
 rintro _ s' ⟨h₂, t₂, rfl, F₂, H₂, S₂⟩
 exact ⟨_, hp, ρ, h₂, t₂, rfl, q, F₂, H₂, S₂⟩
inductive DrawW (K : KX) (ρ : Rho) (hp : List O) (it : Addr) (g : G) (xs ys : List PyData) (s : Shared) (l : List Value) (s' : Shared) : Prop
 | mk (h' : Heap) (t : Tok) : s' = { s with heap := h', toks := t } → DRs h' (mu ρ) l xs → IterAt ρ h' it g ys → HRel K ρ hp h' → Heap.SameBut it s.heap h' → DrawW K ρ hp it g xs ys s l s'
inductive UnpW (K : KX) (ρ : Rho) (hp : List O) (xs : List PyData) (s : Shared) (l : List Value) (s' : Shared) : Prop
 | mk (h' : Heap) (t : Tok) : s' = { s with heap := h', toks := t } → DRs h' (mu ρ) l xs → HRel K ρ hp h' → Step K ρ s.heap ρ h' → UnpW K ρ hp xs s l s'
theorem draw_all {A : Around} {ρ : Rho} {hp : List O} {it : Addr} {g : G} (hn : K.New it) (ho : Off ρ it) (hg : gOk g hp) : ∀ (xs : List PyData) (ys : List PyData) (s : Shared) (E : Value → Shared → Prop),
  IterAt ρ s.heap it g (xs ++ ys) → HRel K ρ hp s.heap →
  wpAny (model K.prog K.w) A (draw (.ref it) xs.length) (DrawW K ρ hp it g xs ys s) E s
 | [], ys, s, E, I, H => wpAny_pure ⟨s.heap, s.toks, rfl, .nil, I, H, Heap.SameBut.refl ..⟩
 | x :: xs, ys, s, E, I, H => by
  show wpAny _ A (do match ← pyNext (.ref it) with
   | none => pure []
   | some v => return v :: (← holding [v] (draw (.ref it) xs.length))) _ E s
  refine wpAny_bind (wpAny_mono (iter_next I H hg hn ho) ?_ (fun _ _ x => x))
  rintro _ s' ⟨rv, h', t, rfl, rfl, d, I', H', hs⟩
  refine wpAny_bind (wpAny_holding (wpAny_mono (draw_all hn ho hg xs ys { s with heap := h', toks := t } E I' H') ?_ (fun _ _ x => x)))
  rintro l s'' ⟨h'', t'', rfl, d', I'', H'', hs'⟩
  have nonseq : ∀ a o vs n, h'.get? a = some o → o.data = .seq vs n → a ∉ mu ρ → h''.get? a = some o ∧ a ∉ mu ρ := by
   intro a o vs n e hd hm
   refine ⟨(hs'.2 a ?_).trans e, hm⟩
   rintro rfl
   obtain ⟨o', fs, e', hd', _⟩ := I'.dom
   rw [e] at e'; cases e'; rw [hd] at hd'; cases hd'
  exact wpAny_pure ⟨h'', t'', rfl, .cons (d.mono nonseq) d', I'', H'', hs.trans hs'⟩
theorem iter_able {A : Around} {s : Shared} {ρ : Rho} {hp : List O} {v : V} {rv : Value} {E : Value → Shared → Prop} {k : G → List PyData → Prop} {Q : Bool → Shared → Prop} (q : iterV v hp k) (hv : VR ρ s.heap v rv) (H : HRel K ρ hp s.heap) (hq : Q false s) :
  wpAny (model K.prog K.w) A (notIterableAtAll rv) Q E s := by
 have key : ∀ {T id : String}, s.TypeIs rv T → typeLookup (.type T) "__iter__" = pure (some (.builtin id)) → wpAny (model K.prog K.w) A (notIterableAtAll rv) Q E s := by
  intro T id hT hl
  unfold notIterableAtAll
  exact wpAny_bind (wpAny_specialOf hT hl (wpAny_pure hq))
 cases v with
 | d y => cases y with
  | list => cases hv with | list h1 _ _ => exact key ⟨_, h1, rfl⟩ slot_list_iter.lookup
  | tuple => cases hv with | tuple h1 _ _ => exact key ⟨_, h1, rfl⟩ PySem.F.slot_tuple_iter.lookup
  | str => cases hv; exact key (typeIs_str _ _ _) PySem.F.slot_str_iter.lookup
  | _ => exact q.elim
 | rng => obtain ⟨a, t, u, w, rfl, e, _⟩ := hv; exact key ⟨_, e, rfl⟩ PySem.F.slot_range_iter.lookup
 | r i =>
  obtain ⟨p, ep, rfl⟩ := hv
  obtain ⟨l, e, q⟩ := lst_inv q
  obtain ⟨ha, vs, n, hL, _⟩ := H.at e ep
  exact key ⟨_, ha ▸ hL, rfl⟩ slot_list_iter.lookup
 | g => exact q.elim
theorem StepS.skip {ρ ρ' : Rho} {h h₁ h₂ : Heap} {it : Addr} (S : StepS K env ρ h ρ' h₁) (hi : h.get? it = none) (hs : Heap.ExtBut it h₁ h₂) : StepS K env ρ h ρ' h₂ :=
 ⟨S.pre, S.new, fun b o e a c d => hs b o (ne_of_get? hi e) (S.keep b o e a c d), fun b o e => let ⟨o', e'⟩ := S.dom b o e; ⟨o', hs b o' (ne_of_get? hi e) e'⟩⟩
theorem Step.skip {ρ ρ' : Rho} {h h₁ h₂ : Heap} {it : Addr} (S : Step K ρ h ρ' h₁) (hi : h.get? it = none) (hs : Heap.ExtBut it h₁ h₂) : Step K ρ h ρ' h₂ :=
 ⟨S.pre, S.new, fun b o e a c => hs b o (ne_of_get? hi e) (S.keep b o e a c), fun b o e => let ⟨o', e'⟩ := S.dom b o e; ⟨o', hs b o' (ne_of_get? hi e) e'⟩⟩
theorem DRs.skip {ρ : Rho} {hp : List O} {h h' : Heap} {it : Addr} {l : List Value} {xs : List PyData} (d : DRs h (mu ρ) l xs) (hs : Heap.ExtBut it h h') (hd : ∀ o, h.get? it = some o → ∀ vs n, o.data ≠ .seq vs n) : DRs h' (mu ρ) l xs :=
 d.mono fun a o vs n e q hm => ⟨hs a o (by rintro rfl; exact hd o e vs n q) e, hm⟩
theorem unpack_items {A : Around} {s : Shared} {ρ : Rho} {hp : List O} {v : V} {rv : Value} {E : Value → Shared → Prop} {xs : List PyData} (hh : A.handled = none) (q : iterV v hp fun g ys => ys = xs) (hv : VR ρ s.heap v rv) (H : HRel K ρ hp s.heap) :
  wpAny (model K.prog K.w) A (unpackItems rv xs.length none) (UnpW K ρ hp xs s) E s := by
 unfold unpackItems
 refine wpAny_bind (iter_able q hv H ?_)
 rw [if_neg (by simp)]
 refine wpAny_bind (wpAny_holding (wpAny_mono (iter_start q hv H) ?_ (fun _ _ x => x)))
 rintro _ s' ⟨it, g, ys, h₁, rfl, rfl, rfl, hg, I, hi, hk⟩
 have H₁ : HRel K ρ hp h₁ := H.grow hk
 have S₁ : Step K ρ s.heap ρ h₁ := Step.grow hk
 have hn := H.fresh hi
 have ho := H.off hi
 refine wpAny_bind (wpAny_holding (wpAny_mono (draw_all hn ho hg ys [] { s with heap := h₁ } E (by simpa using I) H₁) ?_ (fun _ _ x => x)))
 rintro l s'' ⟨h₂, t₂, rfl, d, I₂, H₂, hs₂⟩
 show wpAny _ A (if l.length < ys.length then _ else _) _ E _
 rw [if_neg (by rw [d.length]; omega)]
 refine wpAny_bind (wpAny_holding (wpAny_mono (iter_end (s := { s with heap := h₂, toks := t₂ }) hh I₂ H₂ hg hn ho) ?_ (fun _ _ x => x)))
 rintro _ s₃ ⟨h₃, rfl, rfl, H₃, hs₃⟩
 rw [if_neg (by simp)]
 have nonseq : ∀ o, h₂.get? it = some o → ∀ vs n, o.data ≠ .seq vs n := by
  obtain ⟨o, fs, e, hd, _⟩ := I₂.dom
  intro o' e' vs n q
  rw [e] at e'; cases e'; rw [hd] at q; cases q
 exact wpAny_pure ⟨h₃, t₂, rfl, d.skip (hp := hp) hs₃ nonseq, H₃, (S₁.skip hi hs₂.extBut).skip hi hs₃⟩
noncomputable abbrev XTs := List V → List (Option V) → (List (Option V) → List O → Prop) → List O → Prop
noncomputable def SoundTs (K : KX) (r : Nat) (env : Env) (look : Str → Option Nat) (ts : List Expr) (p : XTs) : Prop :=
 ((assignEach ts env).findIdx? (·.1) = none ∧ (assignEach ts env).length = ts.length) ∧ ∀ A, OkA r A → ∀ ls vs Q hp ρ s E rvs, p ls vs Q hp → FRel K env look vs ρ s.heap → HRel K ρ hp s.heap → VRs ρ s.heap ls rvs →
  wpAny (model K.prog K.w) A (assignInOrder ((assignEach ts env).map (·.2)) rvs) (fun _ => PostT K env look ρ s Q) E s
noncomputable def tsNil : XTs := fun ls vs Q hp => match ls with | [] => Q vs hp | _ => False
noncomputable def tsCons (a : XT) (b : XTs) : XTs := fun ls vs Q hp => match ls with | v :: l => a v vs (fun vs' => b l vs' Q) hp | [] => False
theorem ts_nil : SoundTs K r env look [] tsNil := by
 refine ⟨⟨rfl, rfl⟩, ?_⟩
 intro A ok ls vs Q hp ρ s E rvs q F H hv
 cases ls with
 | nil => exact wpAny_pure ⟨vs, hp, ρ, s.heap, s.toks, rfl, q, F, H, StepS.refl ..⟩
 | cons v l => exact q.elim
theorem VRs.stepS {vs : List (Option V)} {ρ ρ' : Rho} {hp : List O} {h h' : Heap} (S : StepS K env ρ h ρ' h') (F : FRel K env look vs ρ h) (H : HRel K ρ hp h) {l : List V} {xs : List Value} (d : VRs ρ h l xs) : VRs ρ' h' l xs := by
 induction l generalizing xs with
 | nil => cases d; exact .nil
 | cons v l ih => cases d with | cons a b => exact .cons (a.stepS S F H) (ih b)
theorem ts_cons {t : Expr} {ts : List Expr} {a : XT} {b : XTs} (ha : SoundT K r env look t a) (hb : SoundTs K r env look ts b) (he : assignEach (t :: ts) env = (false, assign t env) :: assignEach ts env) : SoundTs K r env look (t :: ts) (tsCons a b) := by
 refine ⟨⟨by rw [he, List.findIdx?_cons]; simp [hb.1.1], by rw [he]; simp [hb.1.2]⟩, ?_⟩
 intro A ok ls vs Q hp ρ s E rvs q F H hv
 cases ls with
 | nil => exact q.elim
 | cons v l =>
  cases hv with
  | cons d ds =>
   rename_i x xs
   rw [he]
   show wpAny _ A (do holding xs (assign t env x); assignInOrder ((assignEach ts env).map (·.2)) xs) _ E s
   refine wpAny_bind (wpAny_holding (wpAny_mono (ha A ok v vs _ hp ρ s E x q F H d) ?_ (fun _ _ x => x)))
   rintro _ s' ⟨vs', hp', ρ', h', t', rfl, q', F', H', S'⟩
   refine wpAny_mono (hb.2 A ok l vs' Q hp' ρ' { s with heap := h', toks := t' } E xs q' F' H' (ds.stepS S' F H)) ?_ (fun _ _ x => x)
   rintro _ s'' ⟨vs'', hp'', ρ'', h'', t'', rfl, q'', F'', H'', S''⟩
   exact ⟨vs'', hp'', ρ'', h'', t'', rfl, q'', F'', H'', S'.trans S''⟩
theorem DRs.vrs {ρ : Rho} {h : Heap} : ∀ {xs : List PyData} {l : List Value}, DRs h (mu ρ) l xs → VRs ρ h (xs.map .d) l
 | [], _, d => by cases d; exact .nil
 | x :: xs, _, d => by cases d with | cons a b => exact .cons a (DRs.vrs b)
noncomputable def tTuple (n : Nat) (b : XTs) : XT := fun v vs Q hp => iterV v hp fun _ xs => xs.length = n ∧ b (xs.map .d) vs Q hp
theorem iterV_eq {v : V} {hp : List O} {k : G → List PyData → Prop} (q : iterV v hp k) : ∃ xs, (∃ g, k g xs) ∧ iterV v hp fun _ ys => ys = xs := by
 cases v with
 | d x =>
  cases x with
  | list l => exact ⟨l, ⟨_, q⟩, rfl⟩
  | tuple l => exact ⟨l, ⟨_, q⟩, rfl⟩
  | str x => exact ⟨_, ⟨_, q⟩, rfl⟩
  | _ => exact q.elim
 | r i =>
  simp only [iterV] at q ⊢
  split at q
  ·rename_i l e; exact ⟨l, ⟨_, q⟩, rfl⟩
  ·exact q.elim
 | rng a b c => exact ⟨_, ⟨_, q.2⟩, q.1, rfl⟩
 | g v => exact q.elim
theorem unpack_sound {A : Around} {ts : List Expr} {b : XTs} {v : V} {vs : List (Option V)} {Q : List (Option V) → List O → Prop} {hp : List O} {ρ : Rho} {s : Shared} {E : Value → Shared → Prop} {rv : Value} (ok : OkA r A) (hb : SoundTs K r env look ts b) (q : tTuple ts.length b v vs Q hp)
  (F : FRel K env look vs ρ s.heap) (H : HRel K ρ hp s.heap) (hv : VR ρ s.heap v rv) : wpAny (model K.prog K.w) A (unpack rv (assignEach ts env)) (fun _ => PostT K env look ρ s Q) E s := by
 obtain ⟨xs, ⟨g, hn, q⟩, qi⟩ := iterV_eq q
 unfold unpack
 rw [hb.1.1, hb.1.2, ← hn]
 refine wpAny_bind (wpAny_holding (wpAny_mono (unpack_items ok.hh qi hv H) ?_ (fun _ _ x => x)))
 rintro l s' ⟨h', t', rfl, d, H', S'⟩
 refine wpAny_mono (hb.2 A ok _ vs Q hp ρ { s with heap := h', toks := t' } E l q (F.step H S') H' d.vrs) ?_ (fun _ _ x => x)
 rintro _ s'' ⟨vs'', hp'', ρ'', h'', t'', rfl, q'', F'', H'', S''⟩
 exact ⟨vs'', hp'', ρ'', h'', t'', rfl, q'', F'', H'', S'.toS.trans S''⟩
theorem t_tuple {ts : List Expr} {k : Nat} {pos : Pos} {b : XTs} (hb : SoundTs K r env look ts b) : SoundT K r env look (.Tuple ts k pos) (tTuple ts.length b) := by
 intro A ok v vs Q hp ρ s E rv q F H hv
 show wpAny _ A (do standAt pos; unpack rv (assignEach ts env)) _ E s
 exact wpAny_bind (wpAny_standAt (unpack_sound ok hb q F H hv))
theorem VR.skip {ρ : Rho} {h h' : Heap} {it : Addr} {g : G} {xs : List PyData} (I : IterAt ρ h it g xs) (hs : Heap.ExtBut it h h') {w : V} {rw' : Value} (hw : VR ρ h w rw') : VR ρ h' w rw' := by
 obtain ⟨o, fs, e, hd, T, hc, _, hr⟩ := I.dom
 cases w with
 | d x => exact DR.mono (fun a o' vs n e' q hm => ⟨hs a o' (by rintro rfl; rw [e] at e'; cases e'; rw [hd] at q; cases q) e', hm⟩) hw
 | r i => exact hw
 | rng a b c =>
  obtain ⟨qq, t, u, w, rfl, e1, hm⟩ := hw
  refine ⟨qq, t, u, w, rfl, hs _ _ ?_ e1, hm⟩
  rintro rfl
  rw [e] at e1; cases e1
  simp only [Value.type.injEq] at hc
  exact hr hc.symm
 | g v => exact hw
theorem FRel.skip {vs : List (Option V)} {ρ : Rho} {h h' : Heap} {it : Addr} {g : G} {xs : List PyData} (F : FRel K env look vs ρ h) (I : IterAt ρ h it g xs) (hs : Heap.ExtBut it h h') : FRel K env look vs ρ h' := by
 obtain ⟨o, fs, e, hd, _⟩ := I.dom
 have hne : ∀ b ob, h.get? b = some ob → (∀ fs, ob.data ≠ .fields fs) → h'.get? b = some ob := fun b ob eb hq => hs b ob (by rintro rfl; rw [e] at eb; cases eb; exact hq _ hd) eb
 obtain ⟨m, ⟨o', es, ep, e', dd, rr⟩, f⟩ := F.ns
 refine ⟨F.kd, F.gl, F.bi, F.lb, F.lo, ⟨m, ⟨o', es, ep, hne _ _ e' (fun _ z => by rw [dd] at z; cases z), dd, rr⟩, fun x k v a b c => let ⟨rv, p, q⟩ := f x k v a b c; ⟨rv, p, q.skip I hs⟩⟩, ?_, F.ci, F.ij⟩
 intro x hx
 obtain ⟨c, o', ov, a1, a2, a3, a4, a5, a6⟩ := F.cl x hx
 exact ⟨c, o', ov, a1, a2, a3, hne _ _ a4 (fun _ z => by rw [a5] at z; cases z), a5, fun k v b1 b2 => let ⟨rv, p, q⟩ := a6 k v b1 b2; ⟨rv, p, q.skip I hs⟩⟩
theorem Off.stepS {ρ ρ' : Rho} {h h' : Heap} (S : StepS K env ρ h ρ' h') {a : Addr} {o : Obj} (ha : h.get? a = some o) (x : Off ρ a) : Off ρ' a := fun p hp => by
 rcases S.new p hp with q | q
 ·exact x p q
 ·exact ⟨ne_of_get? q.1 ha, fun hf => by rw [q.2 a hf] at ha; cases ha⟩
noncomputable def forL (g : G) (tgt : XT) (body : XS) (Q : QS) : List PyData → List (Option V) → List O → Prop
 | [], vs, hp => gOk g hp ∧ Q .next vs hp
 | x :: xs, vs, hp => gOk g hp ∧ tgt (.d x) vs (fun vs' hp' => body vs' (fun fl vs'' hp'' => match fl with
  | .next => forL g tgt body Q xs vs'' hp''
  | .cont => forL g tgt body Q xs vs'' hp''
  | .brk => Q .next vs'' hp''
  | .ret v => Q (.ret v) vs'' hp'') hp') hp
noncomputable def sFor (tgt : XT) (it : XE) (body : XS) : XS := fun vs Q => it vs fun v hp => iterV v hp fun g xs => forL g tgt body Q xs vs hp
inductive TurnI (K : KX) (env en2 : Env) (look : Str → Option Nat) (s : Shared) (ρ₁ : Rho) (h₁ : Heap) (I : Addr) (g : G) (W : List PyData → List (Option V) → List O → Prop) (X : Rho → Prop) (n : Nat) (s' : Shared) : Prop
 | mk (xs : List PyData) (vs' : List (Option V)) (hp' : List O) (ρ' : Rho) (h' : Heap) (t : Nat) (en : n = xs.length) (e : s' = { s with heap := h', toks := t }) (q : W xs vs' hp') (F : FRel K env look vs' ρ' h') (H : HRel K ρ' hp' h')
  (Ia : IterAt ρ' h' I g xs) (ho : Off ρ' I) (S : StepS K en2 ρ₁ h₁ ρ' h') (x : X ρ')
inductive TurnW (K : KX) (env : Env) (look : Str → Option Nat) (s : Shared) (ρ₁ : Rho) (h₁ : Heap) (W : List (Option V) → List O → Prop) (s' : Shared) : Prop
 | mk (vs' : List (Option V)) (hp' : List O) (ρ' : Rho) (h' : Heap) (t : Nat) (e : s' = { s with heap := h', toks := t }) (q : W vs' hp') (F : FRel K env look vs' ρ' h') (H : HRel K ρ' hp' h') (S : StepS K env ρ₁ h₁ ρ' h')
theorem s_for {target iter : Expr} {body : List Stmt} {pos : Pos} {tgt : XT} {it : XE} {b : XS} (ht : SoundT K r env look target tgt) (hi : SoundE K r env look iter it) (hb : SoundSs K r env look body b)
  (hs : ∀ x, foldedSetIterable iter env x = pure x) : SoundS K r env look (.For target iter body [] pos) (sFor tgt it b) := by
 intro A ok vs Q hp ρ s E q F H
 refine wpAny_For (hi.then ok q F H ?_) hs
 intro v hp₁ ρ₁ h₁ t₁ rv q₁ H₁ S₁ r₁ F₁
 refine wpAny_mono (iter_start (s := { s with heap := h₁, toks := t₁ }) q₁ r₁ H₁) ?_ (fun _ _ x => x)
 rintro _ s' ⟨I, g, xs, h₂, rfl, rfl, q₂, hg, Ia, hI, hk⟩
 have H₂ : HRel K ρ₁ hp₁ h₂ := H₁.grow hk
 have S₂ : Step K ρ₁ h₁ ρ₁ h₂ := Step.grow hk
 have hn := H₁.fresh hI
 refine codeAny_forLoop_any (TurnI K env env look s ρ₁ h₁ I g (forL g tgt b Q) (fun _ => True)) ?_ xs.length ⟨xs, vs, hp₁, ρ₁, h₂, t₁, rfl, rfl, q₂, F₁.step H₁ S₂, H₂, Ia, H₁.off hI, S₂.toS, trivial⟩
 rintro n s' ⟨xs, vs', hp', ρ', h', t', rfl, rfl, q', F', H', Ia', ho, S', _⟩
 cases xs with
 | nil =>
  obtain ⟨hg', q'⟩ := q'
  refine wpAny_mono (iter_end (s := { s with heap := h', toks := t' }) ok.hh Ia' H' hg' hn ho) ?_ (fun _ _ x => x)
  rintro _ s'' ⟨h'', rfl, rfl, H'', hs''⟩
  exact wpAny_execs_nil ⟨.next, vs', hp', ρ', h'', t', rfl, q', F'.skip Ia' hs'', H'', S₁.toS.trans (S'.skip hI hs''), trivial⟩
 | cons x xs =>
  obtain ⟨hg', q'⟩ := q'
  refine wpAny_mono (iter_next (s := { s with heap := h', toks := t' }) Ia' H' hg' hn ho) ?_ (fun _ _ x => x)
  rintro _ s'' ⟨rx, h'', t'', rfl, rfl, dx, Ia'', H'', hs''⟩
  refine iter_owned (s := { s with heap := h'', toks := t'' }) Ia'' ?_
  have F'' := F'.skip Ia' hs''.extBut
  have S'' := S'.skip hI hs''.extBut
  refine wpAny_mono (ht A ok (.d x) vs' _ hp' ρ' { s with heap := h'', toks := t'' } _ rx q' F'' H'' dx) ?_ (fun _ _ x => x)
  rintro _ s₃ ⟨vs₃, hp₃, ρ₃, h₃, t₃, rfl, q₃, F₃, H₃, S₃⟩
  have hI'' : ∃ o, h''.get? I = some o := let ⟨o, _, e, _⟩ := Ia''.dom; ⟨o, e⟩
  obtain ⟨oI, eI⟩ := hI''
  have Ia₃ := Ia''.stepS S₃ F'' H'' ho.mu (H''.newTb hn)
  have ho₃ := ho.stepS S₃ eI
  obtain ⟨oI₃, _, eI₃, _⟩ := Ia₃.dom
  refine wpAny_mono (hb A ok vs₃ _ hp₃ ρ₃ { s with heap := h₃, toks := t₃ } _ q₃ F₃ H₃) ?_ (fun _ _ x => x)
  rintro fl s₄ ⟨af, vs₄, hp₄, ρ₄, h₄, t₄, rfl, q₄, F₄, H₄, S₄, fr⟩
  have S₄' : StepS K env ρ₁ h₁ ρ₄ h₄ := (S''.trans S₃).trans S₄
  have more : forL g tgt b Q xs vs₄ hp₄ → ∃ m, m < (x :: xs).length ∧ TurnI K env env look s ρ₁ h₁ I g (forL g tgt b Q) (fun _ => True) m { s with heap := h₄, toks := t₄ } := fun qq =>
   ⟨xs.length, Nat.lt_succ_self _, xs, vs₄, hp₄, ρ₄, h₄, t₄, rfl, rfl, qq, F₄, H₄, Ia₃.stepS S₄ F₃ H₃ ho₃.mu (H₃.newTb hn), ho₃.stepS S₄ eI₃, S₄', trivial⟩
  cases af <;> cases fl <;> first | exact fr.elim | skip
  ·exact more q₄
  ·exact ⟨.next, vs₄, hp₄, ρ₄, h₄, t₄, rfl, q₄, F₄, H₄, S₁.toS.trans S₄', trivial⟩
  ·exact more q₄
  ·exact ⟨.ret _, vs₄, hp₄, ρ₄, h₄, t₄, rfl, q₄, F₄, H₄, S₁.toS.trans S₄', fr⟩
noncomputable def whileN (t : XB) (body : XS) (Q : QS) : Nat → List (Option V) → List O → Prop
 | 0, _, _ => False
 | n + 1, vs, hp => t vs (fun b hp' => match b with
  | false => Q .next vs hp'
  | true => body vs (fun fl vs'' hp'' => match fl with
   | .next => whileN t body Q n vs'' hp''
   | .cont => whileN t body Q n vs'' hp''
   | .brk => Q .next vs'' hp''
   | .ret v => Q (.ret v) vs'' hp'') hp') hp
noncomputable def sWhile (t : XB) (body : XS) : XS := fun vs Q hp => ∃ n, whileN t body Q n vs hp
theorem s_while {test : Expr} {body : List Stmt} {pos : Pos} {t : XB} {b : XS} (ht : SoundB K r env look test t) (hb : SoundSs K r env look body b) : SoundS K r env look (.While test body [] pos) (sWhile t b) := by
 intro A ok vs Q hp ρ s E q F H
 obtain ⟨n, q⟩ := q
 refine wpAny_While (codeAny_whileLoop (fun n => TurnW K env look s ρ s.heap (whileN t b Q n)) ?_ n
  ⟨vs, hp, ρ, s.heap, s.toks, rfl, q, F, H, StepS.refl ..⟩)
 rintro n s' ⟨vs', hp', ρ', h', t', rfl, q', F', H', S'⟩
 cases n with
 | zero => exact q'.elim
 | succ n =>
  refine ht.then ok (s := { s with heap := h', toks := t' }) q' F' H' ?_
  intro c hp₁ ρ₁ h₁ t₁ q₁ H₁ S₁ F₁
  cases c with
  | false => exact wpAny_execs_nil ⟨.next, vs', hp₁, ρ₁, h₁, t₁, rfl, q₁, F₁, H₁, S'.trans S₁.toS, trivial⟩
  | true =>
   refine wpAny_mono (hb A ok vs' _ hp₁ ρ₁ { s with heap := h₁, toks := t₁ } _ q₁ F₁ H₁) ?_ (fun _ _ x => x)
   rintro fl s₄ ⟨af, vs₄, hp₄, ρ₄, h₄, t₄, rfl, q₄, F₄, H₄, S₄, fr⟩
   have S₄' := (S'.trans S₁.toS).trans S₄
   cases af <;> cases fl <;> first | exact fr.elim | skip
   ·exact ⟨n, Nat.lt_succ_self n, vs₄, hp₄, ρ₄, h₄, t₄, rfl, q₄, F₄, H₄, S₄'⟩
   ·exact ⟨.next, vs₄, hp₄, ρ₄, h₄, t₄, rfl, q₄, F₄, H₄, S₄', trivial⟩
   ·exact ⟨n, Nat.lt_succ_self n, vs₄, hp₄, ρ₄, h₄, t₄, rfl, q₄, F₄, H₄, S₄'⟩
   ·exact ⟨.ret _, vs₄, hp₄, ρ₄, h₄, t₄, rfl, q₄, F₄, H₄, S₄', fr⟩
end
section
variable {K : KX} {r : Nat} {env : Env} {look : Str → Option Nat}
theorem inplace_list {A : Around} {s : Shared} {E : Value → Shared → Prop} {Q : Value → Shared → Prop} {l b : Addr} {xs ys : Array Value} {n n2 : Nat} (hl : IsL s.heap l xs n) (hb : IsL s.heap b ys n2)
  (hz : xs.size + ys.size ≤ sizeLine) (h : Q (.ref l) { s with heap := s.heap.update l (Obj.mapSeq fun x => x ++ ys) }) :
  wpAny (model K.prog K.w) A (inplaceOp .Add (.ref l) (.ref b)) Q E s := by
 unfold inplaceOp
 refine wpAny_holding ?_
 have ha : s.TypeIs (.ref l) "list" := ⟨_, hl, rfl⟩
 have hb' : s.TypeIs (.ref b) "list" := ⟨_, hb, rfl⟩
 have hfi : fillsInplaceSlot (.type "list") "add" (Operator.Add == .Add) = pure false := by
  unfold fillsInplaceSlot
  show (typeLookup (.type "list") (dunderI "add") >>= fun fi => pure (fi.isSome && !isSeqSlot fi)) = pure false
  rw [PySem.F.slot_list_iadd.lookup]
  show (pure (_ && !isSeqSlot (some (.builtin "list.__iadd__"))) : Sem Bool) = pure false
  rw [show isSeqSlot (some (.builtin "list.__iadd__")) = true from by decide +kernel]
  rfl
 have hsi : seqSlot? (.type "list") (dunderI "add") = pure (some (.builtin "list.__iadd__")) := PySem.seqSlot_of PySem.F.slot_list_iadd.lookup (by decide +kernel)
 refine wpAny_bind (wpAny_typeOf ha (wpAny_bind (wpAny_of_eq hfi ?_)))
 show wpAny _ A (if false = true then _ else _) Q E s
 rw [if_neg Bool.false_ne_true]
 refine wpAny_bind (wpAny_binaryOp1_none (nm := "add") ha hb' noFill_list_add ?_)
 refine wpAny_bind (wpAny_of_eq hsi ?_)
 refine wpAny_bind (wpAny_rule ?_)
 refine call_meets PySem.F.slot_list_iadd ha PySem.F.entry_list_iadd (PySem.F.args_list_iadd_2 _ _) (AutoSeq1.list___iadd___list_list_0 l xs n b ys n2 ?_ (by lia) (by lia)) ⟨hl, hb, h⟩
 simp only [Bool.and_eq_true, Builtin.List.listTooLong, decide_eq_true_eq, not_and]
 intro _; lia
noncomputable def opIAdd : Op2 := fun va vb Q hp => match va, vb with
 | .d (.int a), .d (.int b) => Q (.d (.int (a + b))) hp
 | .d (.str a), .d (.str b) => a.length + b.length ≤ sizeLine ∧ Q (.d (.str (a ++ b))) hp
 | va, vb => atL va hp fun i l1 => ∃ l2, lget vb hp = some l2 ∧ l1.length + l2.length ≤ sizeLine ∧ Q (.r i) (hp.set i (.lst (l1 ++ l2)))
theorem s_iadd : Sound2 K r (inplaceOp .Add) opIAdd := by
 intro A ok ρ hp s va vb ra rb Q E q H ha hb
 unfold opIAdd at q
 split at q
 ·cases ha; cases hb
  exact PyProof.Rows.iadd_int (PostE.pure _ q H (.int ..))
 ·cases ha; cases hb
  exact PyProof.Rows.iadd_str (fun t' tk => PostE.pure _ q.2 H (.str ..)) q.1
 ·obtain ⟨i, l, p, vs, n, rfl, e, ep, rfl, hpa, hL, d, l2, e2, hz, q⟩ := atL_rel q H ha
  obtain ⟨b, ys, n', rfl, h2, d2⟩ := lget_rel H hb e2
  have z1 := d.length
  have z2 := d2.length
  simp only [Array.length_toList] at z1 z2
  obtain ⟨H', S'⟩ := put_list (A := A) (f := fun xs => xs ++ ys) (l' := l ++ l2) H e ep hL hpa (by rw [Array.toList_append]; exact d.append d2)
  exact inplace_list hL h2 (by lia) ⟨_, _, ρ, _, s.toks, rfl, q, H', S', ⟨p, ep, by rw [hpa]⟩⟩
noncomputable def sAug (f : Op2) (k : Nat) (a : XE) : XS := fun vs Q hp => match vs[k]? with
 | some (some old) => a vs (fun v => f old v fun w hp' => Q .next (vs.set k (some w)) hp') hp
 | _ => False
theorem s_aug {x : Str} {k : Nat} {pos' pos : Pos} {op : Operator} {value : Expr} {f : Op2} {a : XE} (hf : Sound2 K r (inplaceOp op) f) (ha : SoundE K r env look value a) (hk : env.kindOf x = some .local ∨ env.kindOf x = some .cell) (hl : look x = some k) :
  SoundS K r env look (.AugAssign (.Name x pos') op value pos) (sAug f k a) := by
 intro A ok vs Q hp ρ s E q F H
 unfold sAug at q
 split at q
 ·rename_i old e
  refine wpAny_AugAssign_Name ?_
  have key : ∀ ro, VR ρ s.heap old ro → wpAny (model K.prog K.w) A (eval value env) (fun v s₂ => wpAny (model K.prog K.w) A (inplaceOp op ro v) (fun w s₃ => wpAny (model K.prog K.w) A (storeName env x w) (fun _ => PostS K env look ρ s Q .next) E s₃) E s₂) E s := by
   intro ro hro
   refine ha.then ok q F H ?_
   intro va hp₁ ρ₁ h₁ t₁ ra q₁ H₁ S₁ r₁ F₁
   refine wpAny_mono (hf A ok ρ₁ hp₁ { s with heap := h₁, toks := t₁ } old va ro ra _ E q₁ H₁ (hro.step S₁ H) r₁) ?_ (fun _ _ x => x)
   rintro rw' s₂ ⟨w, hp₂, ρ₂, h₂, t₂, rfl, q₂, H₂, S₂, r₂⟩
   refine wpAny_mono (store_name (s := { s with heap := h₂, toks := t₂ }) hk hl (F₁.step H₁ S₂) H₂ r₂) ?_ (fun _ _ x => x)
   rintro _ s' ⟨h₃, t₃, rfl, F₃, H₃, S₃⟩
   exact ⟨.next, _, hp₂, ρ₂, h₃, t₃, rfl, q₂, F₃, H₃, (S₁.trans S₂).toS.trans S₃, trivial⟩
  rcases hk with hk' | hk'
  ·obtain ⟨m, n, f⟩ := F.ns
   obtain ⟨rv, e1, e2⟩ := f x k old hk' hl e
   exact wpAny_loadName_local F.kd hk' n e1 (key rv e2)
  ·obtain ⟨c, o, ov, a1, a2, a3, a4, a5, a6⟩ := F.cl x (.inl hk')
   obtain ⟨rv, rfl, e2⟩ := a6 k old hl e
   exact wpAny_loadName_cell F.kd hk' a1 ⟨o, a4, a5⟩ (key rv e2)
 ·exact q.elim
noncomputable def putItem (vo vi : V) (x : PyData) (Q : List O → Prop) (hp : List O) : Prop := match vi with
 | .d (.int i) => (-2 ^ 63 ≤ i ∧ i < 2 ^ 63) ∧ atL vo hp fun j l => ∃ k, seqIndex? i l.length = some k ∧ Q (hp.set j (.lst (l.set k x)))
 | _ => False
inductive PutW (K : KX) (ρ : Rho) (Q : List O → Prop) (s s' : Shared) : Prop
 | mk (hp' : List O) (h' : Heap) : s' = { s with heap := h' } → Q hp' → HRel K ρ hp' h' → Step K ρ s.heap ρ h' → PutW K ρ Q s s'
theorem put_item {A : Around} {ρ : Rho} {hp : List O} {s : Shared} {vo vi : V} {x : PyData} {ro ri rx : Value} {Q : List O → Prop} {E : Value → Shared → Prop} (q : putItem vo vi x Q hp) (H : HRel K ρ hp s.heap) (ho : VR ρ s.heap vo ro) (hi : VR ρ s.heap vi ri) (hx : DR s.heap (mu ρ) rx x) :
  wpAny (model K.prog K.w) A (setItem ro ri rx) (fun _ => PutW K ρ Q s) E s := by
 unfold putItem at q
 split at q
 ·rename_i i
  cases hi
  rename_i t
  obtain ⟨⟨hlo, hhi⟩, q⟩ := q
  obtain ⟨j, l, p, vs, n, rfl, e, ep, rfl, hpa, hL, d, k, hk, q⟩ := atL_rel q H ho
  have z := d.length
  simp only [Array.length_toList] at z
  obtain ⟨hkl, p2, p3⟩ := seqIndex_pos hk
  obtain ⟨H', S'⟩ := put_list (A := A) (f := fun xs => xs.setIfInBounds k rx) (l' := l.set k x) H e ep hL hpa (by simpa using d.set k hx)
  unfold setItem
  refine wpAny_holding ?_
  have hT : s.TypeIs (.ref p.m) "list" := ⟨_, hL, rfl⟩
  refine wpAny_bind (wpAny_sequenceKey hT (by decide) ?_)
  refine wpAny_bind (wpAny_callSpecial?_slot (name := Str.ofString "__setitem__") hT slot_list_setitem
   (wpAny_call_entry slot_list_setitem hT entry_list_setitem ?_ (args_list_setitem _ _ _)))
  show wpAny _ _ (Builtin.List.listSubscript? (.int i t) >>= _) _ _ s
  refine wpAny_bind (wpAny_listSubscript_int (by simp only [Builtin.List.listFitsIndex, Bool.and_eq_true, decide_eq_true_eq]; lia) ?_)
  have hx' : vs[k]? = some (vs[k]'(by lia)) := Array.getElem?_eq_getElem (by lia)
  have fin : wpAny (model K.prog K.w) A.in1 (setSeqItemAt p.m k rx) (fun _ s' => wpAny (model K.prog K.w) A.in1 (ret .none) (fun fin s' => ∃ v, fin = .done (.ret v) ∧ wpAny (model K.prog K.w) A (pure ()) (fun _ => PutW K ρ Q s) E s') E s') E s :=
   wpAny_setSeqItemAt hL rfl (wpAny_pure ⟨.none, rfl, wpAny_pure ⟨_, _, rfl, q, H', S'⟩⟩)
  rcases Int.lt_or_le i 0 with hneg | hpos
  ·obtain ⟨m, rfl⟩ : ∃ m, i = Int.negSucc m := Int.eq_negSucc_of_lt_zero hneg
   show wpAny _ _ ((Builtin.List.listItems (.ref p.m) >>= fun xs => pure ((seqIndex? (Int.negSucc m) xs.size).bind fun j => xs[j]?.map (j, ·))) >>= _) _ _ s
   refine wpAny_bind (wpAny_bind (wpAny_listItems hL rfl (wpAny_pure ?_)))
   rw [z, hk]
   show wpAny _ _ (match Value.ref p.m, vs[k]?.map (k, ·) with | .ref a, some (j, _) => _ | _, _ => _) _ _ s
   rw [hx']
   exact wpAny_bind fin
  ·obtain ⟨m, rfl⟩ := Int.eq_ofNat_of_zero_le hpos
   have : m = k := by have := p2 hpos; lia
   subst this
   show wpAny _ _ ((seqItemAt p.m m >>= fun r => pure (r.map (m, ·))) >>= _) _ _ s
   refine wpAny_bind (wpAny_bind (wpAny_seqItemAt hL rfl (wpAny_pure ?_)))
   rw [hx']
   exact wpAny_bind fin
 ·exact q.elim
noncomputable def isD (v : V) (k : PyData → Prop) : Prop := match v with | .d x => k x | _ => False
noncomputable def sPut (o i a : XE) : XS := fun vs Q => a vs fun v => o vs fun vo => i vs fun vi hp => isD v fun x => putItem vo vi x (fun hp' => Q .next vs hp') hp
theorem s_put {o i value : Expr} {pos' pos : Pos} {po pi a : XE} (ha : SoundE K r env look value a) (ho : SoundE K r env look o po) (hi : SoundE K r env look i pi)
  (hs : swapsWith value (some (.Subscript o i pos')) pos.line env = pure false) : SoundS K r env look (.Assign [.Subscript o i pos'] value pos) (sPut po pi a) := by
 intro A ok vs Q hp ρ s E q F H
 refine wpAny_Assign_Subscript (ha.then ok q F H ?_) hs
 intro va hp₁ ρ₁ h₁ t₁ ra q₁ H₁ S₁ r₁ F₁
 refine ho.then ok (s := { s with heap := h₁, toks := t₁ }) q₁ F₁ H₁ ?_
 intro vo hp₂ ρ₂ h₂ t₂ ro q₂ H₂ S₂ r₂ F₂
 refine hi.then ok (s := { s with heap := h₂, toks := t₂ }) q₂ F₂ H₂ ?_
 intro vi hp₃ ρ₃ h₃ t₃ ri q₃ H₃ S₃ r₃ F₃
 have ra' := (r₁.step S₂ H₁).step S₃ H₂
 cases va with
 | d x =>
  refine wpAny_mono (put_item (s := { s with heap := h₃, toks := t₃ }) q₃ H₃ (r₂.step S₃ H₂) r₃ ra') ?_ (fun _ _ x => x)
  rintro _ s' ⟨hp', h', rfl, q', H', S'⟩
  exact ⟨.next, vs, hp', ρ₃, h', t₃, rfl, q', F₃.step H₃ S', H', (((S₁.trans S₂).trans S₃).trans S').toS, trivial⟩
 | _ => exact q₃.elim
end
noncomputable def lk (nm : List Str) (x : Str) : Option Nat := nm.findIdx? (· == x)
theorem lk_get {nm : List Str} {x : Str} {k : Nat} (h : lk nm x = some k) : nm[k]? = some x := by
 unfold lk at h
 obtain ⟨hk, e, _⟩ := List.findIdx?_eq_some_iff_getElem.mp h
 rw [List.getElem?_eq_getElem hk, beq_iff_eq.mp e]
structure KG (K : KX) (mg mb : Str → Option Value) : Prop where
 g : K.h0.Ns 3 mg
 g' : (3 : Addr) ≠ K.tb
 b : K.h0.Ns 0 mb
 b' : (0 : Addr) ≠ K.tb
 lim : K.h0.NoLimit
 lim' : cStatics ≠ K.tb
theorem HRel.nsOf {K : KX} {ρ : Rho} {hp : List O} {h : Heap} (H : HRel K ρ hp h) {a : Addr} {m : Str → Option Value} (n : K.h0.Ns a m) (ha : a ≠ K.tb) : h.Ns a m :=
 let ⟨o, es, ep, e, q⟩ := n; ⟨o, es, ep, H.keep _ _ e ha, q⟩
theorem HRel.limOf {K : KX} {ρ : Rho} {hp : List O} {h : Heap} (H : HRel K ρ hp h) {mg mb : Str → Option Value} (G : KG K mg mb) : h.NoLimit :=
 let ⟨mc, a, b⟩ := G.lim; ⟨mc, H.nsOf a G.lim', b⟩
structure FnAt (K : KX) (a : Addr) (fd : FuncData) (body : List Stmt) : Prop where
 ob : ∃ o, K.h0.get? a = some o ∧ o.data = .func fd
 tb : a ≠ K.tb
 bd : fd.body = .stmts body
 code : ∃ c o vs t, fd.code = .ref c ∧ K.h0.get? c = some o ∧ o.data = .fields vs ∧ vs[1]? = some (.str fd.qualname t) ∧ c ≠ K.tb
 clo : fd.closure = []
 gl : fd.globals = 3
 bi : fd.builtins = 0
 co : fd.scope.isCoroutine = false
 gen : fd.scope.isGenerator = false
 kd : fd.scope.kind = .function
noncomputable abbrev FT := List V → (V → List O → Prop) → List O → Prop
noncomputable def SoundF (K : KX) (r : Nat) (f : Value) (kn : List Str) (F : FT) : Prop :=
 ∀ A, OkA r A → ∀ ρ hp s vas ras ks Q, ∀ E : Value → Shared → Prop, ks.length = kn.length → F vas Q hp → HRel K ρ hp s.heap → VRs ρ s.heap vas (ras ++ ks) →
  codeAny (model K.prog K.w) A (.call f ⟨ras, kn.zip ks⟩) (fun r s' => match r with | .ok (.ret v) => PostE K ρ s Q v s' | .ok _ => False | .error e => E e s') s
theorem SoundF.call {K : KX} {r : Nat} {f : Value} {kn : List Str} {F : FT} (h : SoundF K r f kn F) : ∀ A, OkA r A → ∀ ρ hp s vas ras ks Q E, ks.length = kn.length → F vas Q hp → HRel K ρ hp s.heap → VRs ρ s.heap vas (ras ++ ks) →
  wpAny (model K.prog K.w) A (call f ras (kn.zip ks)) (PostE K ρ s Q) E s := fun A ok ρ hp s vas ras ks Q E hl q H R => wpAny_call (h A ok ρ hp s vas ras ks Q E hl q H R)
noncomputable abbrev BT := List V → (List V → List O → Prop) → List O → Prop
inductive BindW (K : KX) (ρ : Rho) (ps : List Str) (Q : List V → List O → Prop) (s : Shared) (binds : List (Str × Value)) (s' : Shared) : Prop
 | mk (vas' : List V) (ras' : List Value) (hp' : List O) (ρ' : Rho) (h' : Heap) (t : Tok) : s' = { s with heap := h', toks := t } → binds = ps.zip ras' → ras'.length = ps.length → Q vas' hp' → HRel K ρ' hp' h' → Step K ρ s.heap ρ' h' → VRs ρ' h' vas' ras' → BindW K ρ ps Q s binds s'
noncomputable def SoundBind (K : KX) (fd : FuncData) (kn : List Str) (ps : List Str) (bd : BT) : Prop :=
 ∀ A, A.handled = none → ∀ ρ hp s vas ras ks Q E, ks.length = kn.length → bd vas Q hp → HRel K ρ hp s.heap → VRs ρ s.heap vas (ras ++ ks) →
  wpAny (model K.prog K.w) A (bindArgs fd ⟨ras, kn.zip ks⟩) (BindW K ρ ps Q s) E s
noncomputable def bPlain (n : Nat) : BT := fun vas Q hp => vas.length = n ∧ Q vas hp
theorem b_plain {K : KX} {fd : FuncData} {ps : List Str} (h : ∀ ras : List Value, ras.length = ps.length → bindArgs fd ⟨ras, []⟩ = pure (ps.zip ras)) : SoundBind K fd [] ps (bPlain ps.length) := by
 intro A hh ρ hp s vas ras ks Q E hk q H R
 cases ks with
 | cons _ _ => simp at hk
 | nil =>
  rw [List.append_nil] at R
  have hl := R.length
  have e : ras.length = ps.length := by rw [← hl]; exact q.1
  rw [show ([] : List Str).zip ([] : List Value) = [] from rfl, h ras e]
  exact wpAny_pure ⟨vas, ras, hp, ρ, s.heap, s.toks, rfl, rfl, e, q.2, H, Step.refl .., R⟩
noncomputable def fin (keep : Bool) (n : Nat) (Q : V → List O → Prop) (v : V) (hp' : List O) : Prop :=
 match keep with
 | true => Q v hp'
 | false => match v with
  | .d x => Q (.d x) (hp'.take n)
  | .r i => if i < n then Q (.r i) (hp'.take n) else match hp'[i]? with | some (.lst l) => Q (.d (.list l)) (hp'.take n) | _ => False
  | .rng .. => False
  | .g v => Q (.g v) (hp'.take n)
theorem fin_rel {K : KX} {keep : Bool} {ρ ρ' : Rho} {hp hp' : List O} {s : Shared} {h' : Heap} {t : Nat} {Q : V → List O → Prop} {v : V} {rv : Value}
  (q : fin keep hp.length Q v hp') (H : HRel K ρ hp s.heap) (H' : HRel K ρ' hp' h') (S : Step K ρ s.heap ρ' h') (r : VR ρ' h' v rv) : PostE K ρ s Q rv { s with heap := h', toks := t } := by
 cases keep with
 | true => exact ⟨v, hp', ρ', h', t, rfl, q, H', S, r⟩
 | false =>
  have hl : ρ.length ≤ hp'.length := by rw [← H'.len]; exact S.pre.length_le
  have C := H'.cut S.pre hl
  rw [H.len] at C
  cases v with
  | d x => exact ⟨.d x, _, ρ, h', t, rfl, q, C, S.cut, DR.cut S.pre r⟩
  | r i =>
   obtain ⟨p, e, rfl⟩ := r
   unfold fin at q
   simp only at q
   split at q
   ·rename_i hi
    refine ⟨.r i, _, ρ, h', t, rfl, q, C, S.cut, ⟨p, ?_, rfl⟩⟩
    obtain ⟨u, hu⟩ := S.pre
    rw [← hu, List.getElem?_append_left (by rw [H.len]; exact hi)] at e
    exact e
   ·rename_i hi
    split at q
    ·rename_i l e'
     obtain ⟨e1, vs, n, h1, h2⟩ := H'.ob i _ p e' e
     refine ⟨.d (.list l), _, ρ, h', t, rfl, q, C, S.cut, ?_⟩
     rw [e1]
     refine DR.list h1 ?_ (DRs.cut S.pre h2)
     intro hm
     obtain ⟨u, hu⟩ := S.pre
     have hiρ : ρ.length ≤ i := by rw [H.len]; lia
     have nd := H'.nd
     rw [← hu] at nd e
     simp only [mu, List.map_append] at nd hm
     have := (List.nodup_append.mp nd).2.2 p.m hm p.m
     refine this ?_ rfl
     rw [List.getElem?_append_right hiρ] at e
     exact List.mem_map.mpr ⟨p, List.mem_of_getElem? e, rfl⟩
    ·exact q.elim
  | rng a b c => exact q.elim
  | g v => exact ⟨.g v, _, ρ, h', t, rfl, q, C, S.cut, r⟩
theorem bindL_get {kindOf : Str → Option NameKind} : ∀ {ps : List Str} {ras : List Value} {m : Str → Option Value} {k : Nat} {x : Str} {rv : Value}, ps.Nodup → ps[k]? = some x → ras[k]? = some rv → kindOf x = some .local →
  bindL kindOf (ps.zip ras) m x = some rv := by
 have skip : ∀ {ps : List Str} {ras : List Value} {m : Str → Option Value} {x : Str}, x ∉ ps → bindL kindOf (ps.zip ras) m x = m x := by
  intro ps
  induction ps with
  | nil => intros; rfl
  | cons p ps ih =>
   intro ras m x hx
   cases ras with
   | nil => rfl
   | cons a ras =>
    dsimp only [List.zip_cons_cons, bindL]
    rw [ih (fun h => hx (List.mem_cons_of_mem _ h))]
    split
    ·exact if_neg (fun h : x = p => hx (by rw [h]; exact List.mem_cons_self))
    ·rfl
 intro ps
 induction ps with
 | nil => intro ras m k x rv _ e; simp at e
 | cons p ps ih =>
  intro ras m k x rv nd e e' hl
  cases ras with
  | nil => simp at e'
  | cons a ras =>
   dsimp only [List.zip_cons_cons, bindL]
   obtain ⟨n1, n2⟩ := List.nodup_cons.mp nd
   cases k with
   | zero =>
    simp at e e'; subst e; subst e'
    rw [skip n1, if_pos hl, if_pos rfl]
   | succ k => simp at e e'; exact ih n2 e e' hl
theorem bindC_get {kindOf : Str → Option NameKind} : ∀ {ps : List Str} {ras : List Value} {m : Str → Option Value} {k : Nat} {x : Str} {rv : Value}, ps.Nodup → ps[k]? = some x → ras[k]? = some rv → kindOf x ≠ some .local →
  bindC kindOf (ps.zip ras) m x = some rv := by
 have skip : ∀ {ps : List Str} {ras : List Value} {m : Str → Option Value} {x : Str}, x ∉ ps → bindC kindOf (ps.zip ras) m x = m x := by
  intro ps
  induction ps with
  | nil => intros; rfl
  | cons p ps ih =>
   intro ras m x hx
   cases ras with
   | nil => rfl
   | cons a ras =>
    dsimp only [List.zip_cons_cons, bindC]
    rw [ih (fun h => hx (List.mem_cons_of_mem _ h))]
    split
    ·rfl
    ·exact if_neg (fun h : x = p => hx (by rw [h]; exact List.mem_cons_self))
 intro ps
 induction ps with
 | nil => intro ras m k x rv _ e; simp at e
 | cons p ps ih =>
  intro ras m k x rv nd e e' hl
  cases ras with
  | nil => simp at e'
  | cons a ras =>
   dsimp only [List.zip_cons_cons, bindC]
   obtain ⟨n1, n2⟩ := List.nodup_cons.mp nd
   cases k with
   | zero =>
    simp at e e'; subst e; subst e'
    rw [skip n1, if_neg hl, if_pos rfl]
   | succ k => simp at e e'; exact ih n2 e e' hl
theorem cellsFrom_some : ∀ (names : List (Str × NameKind)) (n : Nat) (acc : List (Str × Addr)) (x : Str), ((x, NameKind.cell) ∈ names ∨ (acc.lookup x).isSome = true) → ((cellsFrom n names acc).lookup x).isSome = true
 | [], n, acc, x, h => by
  rcases h with h | h
  ·cases h
  ·exact h
 | (y, kind) :: r, n, acc, x, h => by
  unfold cellsFrom
  split
  ·rename_i hk
   refine cellsFrom_some r (n + 1) _ x ?_
   rw [List.lookup_cons]
   cases hb : x == y with
   | true => exact .inr rfl
   | false =>
    rcases h with h | h
    ·rcases List.mem_cons.mp h with e | h
     ·cases e; simp at hb
     ·exact .inl h
    ·exact .inr h
  ·rename_i hk
   refine cellsFrom_some r n _ x ?_
   rcases h with h | h
   ·rcases List.mem_cons.mp h with e | h
    ·cases e; exact absurd rfl hk
    ·exact .inl h
   ·exact .inr h
theorem VRs.get {ρ : Rho} {h : Heap} {vs : List V} {xs : List Value} (r : VRs ρ h vs xs) {k : Nat} {v : V} (e : vs[k]? = some v) : ∃ x, xs[k]? = some x ∧ VR ρ h v x := by
 induction vs generalizing xs k with
 | nil => simp at e
 | cons w vs ih =>
  cases r with
  | cons a b =>
   cases k with
   | zero => simp at e; subst e; exact ⟨_, by simp, a⟩
   | succ k => simp at e; obtain ⟨x, e', q⟩ := ih b e; exact ⟨x, by simpa using e', q⟩
noncomputable def runFn (keep : Bool) (bd : BT) (n : Nat) (body : XS) : FT := fun vas Q hp => bd vas (fun vas' hp₁ => body (vas'.map some ++ List.replicate n none) (fun fl _ hp' => match fl with
 | .ret v => fin keep hp.length Q v hp'
 | _ => fin keep hp.length Q (.d .none) hp') hp₁) hp
theorem f_run {K : KX} {mg mb : Str → Option Value} (G : KG K mg mb) {r : Nat} {a : Addr} {fd : FuncData} {body : List Stmt} (X : FnAt K a fd body) {kn ps rest : List Str} {bd : BT} {p : XS} {keep : Bool} {n : Nat}
  (hb : SoundBind K fd kn ps bd) (nd : ps.Nodup) (hkind : ∀ x ∈ ps, fd.scope.names.lookup x = some .local ∨ fd.scope.names.lookup x = some .cell) (hfree : ∀ x, fd.scope.names.lookup x ≠ some .free)
  (hp : ∀ L, SoundSs K r (callEnvC fd L a) (lk (ps ++ rest)) body p) : SoundF K (r + 1) (.ref a) kn (runFn keep bd n p) := by
 intro A ok ρ hp₀ s vas ras ks Q E hk q H R
 obtain ⟨o, ho, hd⟩ := X.ob
 refine codeAny_call_function (fd := fd) (by have := ok.dp; lia) (H.keep _ _ ho X.tb) hd X.co X.gen X.bd ?_ ?_
 ·obtain ⟨c, oc, vs, t, e1, e2, e3, e4, e5⟩ := X.code
  exact ⟨c, oc, vs, t, e1, H.keep _ _ e2 e5, e3, e4⟩
 refine wpAny_mono (hb A.in1 ok.hh ρ hp₀ s vas ras ks _ _ hk q H R) ?_ (fun _ _ x => x)
 rintro binds s₁ ⟨vas', ras', hp₁, ρ₁, h₁, t₁, rfl, rfl, hl', q₁, H₁, S₁, R₁⟩
 rw [X.clo]
 refine wpAny_newFunctionEnv_cells X.kd ?_ ?_
 ·intro x hx
  obtain ⟨x1, x2⟩ := x
  have hm : x1 ∈ ps := (List.of_mem_zip hx).1
  rcases hkind x1 hm with e | e
  ·exact .inl e
  ·exact .inr ⟨e, cellsFrom_some _ _ _ _ (.inl (mem_of_lookup e))⟩
 intro env he s₂ I
 have he' : env = callEnvC fd h₁.objs.size a := he
 have hs₂ : ∃ h₂ t₂, s₂ = { s with heap := h₂, toks := t₂ } := by
  obtain ⟨h₂, t₂, e⟩ := I.toInCall.same
  exact ⟨h₂, t₂, e⟩
 obtain ⟨h₂, t₂, rfl⟩ := hs₂
 have keep₂ : ∀ b o, h₁.get? b = some o → h₂.get? b = some o := I.toInCall.keep
 have H₂ : HRel K ρ₁ hp₁ h₂ := H₁.grow keep₂
 have S₂ : Step K ρ₁ h₁ ρ₁ h₂ := Step.grow keep₂
 have R₂ := R₁.step S₂ H₁
 have hloc : env.locals = h₁.objs.size := by rw [he']; rfl
 have hkof : ∀ x, env.kindOf x = fd.scope.names.lookup x := by intro x; rw [he']; rfl
 have hcell : env.cells = cellsFrom (h₁.objs.size + 1) fd.scope.names [] := by rw [he']; rfl
 have hvs : ∀ (k : Nat) (v : V), (vas'.map some ++ List.replicate n none)[k]? = some (some v) → vas'[k]? = some v := by
  intro k v e
  by_cases hk : k < vas'.length
  ·rw [List.getElem?_append_left (by simpa using hk), List.getElem?_map] at e
   cases e' : vas'[k]? with
   | none => rw [e'] at e; cases e
   | some w => rw [e'] at e; simpa using e
  ·rw [List.getElem?_append_right (by simpa using hk), List.getElem?_replicate] at e
   split at e <;> cases e
 have hps : ∀ (x : Str) (k : Nat) (v : V), lk (ps ++ rest) x = some k → vas'[k]? = some v → ps[k]? = some x := by
  intro x k v e e'
  have := lk_get e
  have hk : k < ps.length := by rw [← hl', ← R₁.length]; exact (List.getElem?_eq_some_iff.mp e').1
  rwa [List.getElem?_append_left hk] at this
 have newc : ∀ c, h₁.objs.size ≤ c → K.New c ∧ Off ρ₁ c := fun c hc => ⟨H₁.fresh (get?_beyond hc), H₁.off (get?_beyond hc)⟩
 have F : FRel K env (lk (ps ++ rest)) (vas'.map some ++ List.replicate n none) ρ₁ h₂ := by
  refine ⟨by rw [he']; exact X.kd, by rw [he']; exact X.gl, by rw [he']; exact X.bi, ?_, ?_, ?_, ?_, ?_, ?_⟩
  ·rw [hloc]; exact (newc _ (Nat.le_refl _)).1
  ·rw [hloc]; exact (newc _ (Nat.le_refl _)).2
  ·refine ⟨_, I.toInCall.ns, fun x k v hx hl e => ?_⟩
   have e1 := hvs k v e
   obtain ⟨rv, e2, e3⟩ := R₂.get e1
   exact ⟨rv, bindL_get nd (hps x k v hl e1) e2 hx, e3⟩
  ·intro x hx
   have hxc : fd.scope.names.lookup x = some .cell := by
    rcases hx with hx | hx
    ·rw [← hkof]; exact hx
    ·exact absurd (by rw [← hkof]; exact hx) (hfree x)
   have is : (env.cells.lookup x).isSome = true := by rw [hcell]; exact cellsFrom_some _ _ _ _ (.inl (mem_of_lookup hxc))
   obtain ⟨c, hc⟩ := Option.isSome_iff_exists.mp is
   have hab := I.above x c (mem_of_lookup hc)
   rw [hloc] at hab
   obtain ⟨oc, g1, g2⟩ := I.cell x c hc
   refine ⟨c, oc, _, hc, (newc c (Nat.le_of_lt hab)).1, (newc c (Nat.le_of_lt hab)).2, g1, g2, fun k v hl e => ?_⟩
   have e1 := hvs k v e
   obtain ⟨rv, e2, e3⟩ := R₂.get e1
   refine ⟨rv, bindC_get nd (hps x k v hl e1) e2 ?_, e3⟩
   rw [hkof, hxc]; simp
  ·intro x y c h1 h2
   exact name_of_addr I.apart (mem_of_lookup h1) (mem_of_lookup h2)
  ·intro x y k h1 h2
   have e1 := lk_get h1
   have e2 := lk_get h2
   rw [e1] at e2; cases e2; rfl
 refine ⟨H₂.limOf G, codeAny_func ?_⟩
 have ok' : OkA r (A.deeper env) := ⟨ok.hh, by have := ok.dp; show A.depth + 1 + r < _; lia, by have := ok.un; show A.units + 3 + _ + 200 < _; lia⟩
 have hp' : SoundSs K r env (lk (ps ++ rest)) body p := by rw [he']; exact hp _
 refine wpAny_mono (hp' (A.deeper env) ok' _ _ hp₁ ρ₁ { s with heap := h₂, toks := t₂ } _ q₁ F H₂) ?_ (fun _ _ x => x)
 rintro fl s₃ ⟨af, vs', hp₃, ρ₃, h₃, t₃, rfl, q₃, F₃, H₃, S₃, fr⟩
 have S : Step K ρ s.heap ρ₃ h₃ := by
  refine S₁.trans ⟨S₃.pre, ?_, ?_, ?_⟩
  ·intro p hp
   rcases S₃.new p hp with x | x
   ·exact .inl x
   ·exact .inr ⟨none_of_dom S₂.dom x.1, fun b hb => none_of_dom S₂.dom (x.2 b hb)⟩
  ·intro b o e hb hm
   refine S₃.keep b o (keep₂ _ _ e) hb hm ?_
   have hlt := Heap.lt_size e
   rintro (z | ⟨x, _, hc⟩)
   ·rw [hloc] at z; exact absurd hlt (by rw [z]; exact Nat.lt_irrefl _)
   ·have := I.above x b (mem_of_lookup hc); rw [hloc] at this; exact absurd hlt (Nat.not_lt.mpr (Nat.le_of_lt this))
  ·intro b o e; exact S₃.dom b o (keep₂ _ _ e)
 have dn : VR ρ₃ h₃ (.d .none) .none := .none
 cases af <;> cases fl <;> first | exact fr.elim | skip
 ·exact fin_rel q₃ H H₃ S dn
 ·exact fin_rel q₃ H H₃ S dn
 ·exact fin_rel q₃ H H₃ S dn
 ·exact fin_rel q₃ H H₃ S fr
section
variable {K : KX} {mg mb : Str → Option Value} {r : Nat} {env : Env} {look : Str → Option Nat}
noncomputable def xCall (F : FT) (p : XL) : XE := fun vs Q => p vs fun l hp => F l Q hp
theorem e_call (G : KG K mg mb) {f : Str} {a : Addr} {fd : FuncData} {body : List Stmt} {args : List Expr} {p pos : Pos} {F : FT} {l : XL} (X : FnAt K a fd body) (hF : SoundF K r (.ref a) [] F) (hl : SoundL K r env look args l)
  (hk : env.kindOf f = some .globalImplicit) (hg : mg f = some (.ref a)) (hd : (f == ("__debug__" : Str)) = false) (hb : ∀ t : List (Bool × Sem Value), backTo pos (starEach args env) = t → ∀ x ∈ t, x.1 = false) :
  SoundE K r env look (.Call (.Name f p) args [] pos) (xCall F l) := by
 intro A ok vs Q hp ρ s E q FR H
 refine wpAny_Call_Name_kw (Calls.Name_function_global FR.kd hk (Calls.loadGlobal_global (mg := mg) ?_ hg ?_) hd)
 ·rw [FR.gl]; exact H.nsOf G.g G.g'
 obtain ⟨o, ho, hdd⟩ := X.ob
 refine callWith_function_kw (o := o) (fd := fd) ?_
 have base := hl A ok pos vs _ hp ρ s E q FR H
 have fin : ∀ rvs s', PostL K ρ s (fun l hp => F l Q hp) rvs s' → (s'.heap.get? a = some o ∧ o.data = .func fd) ∧ wpAny (model K.prog K.w) A (call (.ref a) ([] ++ rvs) []) (PostE K ρ s Q) E s' := by
  rintro rvs s' ⟨l, hp₁, ρ₁, h₁, t₁, rfl, q₁, H₁, S₁, r₁⟩
  refine ⟨⟨H₁.keep _ _ ho X.tb, hdd⟩, wpAny_mono (hF.call A ok ρ₁ hp₁ { s with heap := h₁, toks := t₁ } l rvs [] Q E rfl q₁ H₁ (by rw [List.append_nil]; exact r₁)) (fun _ _ x => PostE.after S₁ x) (fun _ _ x => x)⟩
 have hb' := hb _ rfl
 show wpAny _ A (evalArgs (.ref a) true (backTo pos (starEach args env)) []) _ E s
 revert base hb'
 generalize backTo pos (starEach args env) = T
 intro base hb'
 cases T with
 | nil =>
  refine PySem.evalArgs_none ⟨⟨H.keep _ _ ho X.tb, hdd⟩, fun Γ p hΓ => ?_⟩
  have base' : wpAny (model K.prog K.w) A (spliced []) (fun rvs s' => (s'.heap.get? a = some o ∧ o.data = .func fd) ∧ wpAny (model K.prog K.w) A (call (.ref a) ([] ++ rvs) []) (PostE K ρ s Q) E s') E s :=
   wpAny_mono base (fun rvs s' x => fin rvs s' x) (fun _ _ x => x)
  exact (base' Γ p hΓ).2 Γ p hΓ
 | cons x rest =>
  obtain ⟨b, t⟩ := x
  have hb0 : b = false := hb' (b, t) List.mem_cons_self
  subst hb0
  exact Calls.evalArgs_plain (wpAny_mono base (fun rvs s' x => fin rvs s' x) (fun _ _ x => x))
end
section
variable {K : KX} {mg mb : Str → Option Value} {r : Nat} {env : Env} {look : Str → Option Nat}
noncomputable def SoundV (K : KX) (r : Nat) (f : Value) (F : FT) : Prop :=
 ∀ A, OkA r A → ∀ ρ hp s vas ras Q E, F vas Q hp → HRel K ρ hp s.heap → VRs ρ s.heap vas ras → wpAny (model K.prog K.w) A (call f ras) (PostE K ρ s Q) E s
theorem callWith_typeS {M : Model} {A : Around} {E : Value → Shared → Prop} {s : Shared} {pos : Pos} {T : String} {first : List Value} {trees : List (Bool × Sem Value)} {Q : Value → Shared → Prop}
  (hp : trees.any (·.1) = false) (h : wpAny M A (spliced trees) (fun vs s₁ => wpAny M A (call (.type T) (first ++ vs)) Q E s₁) E s) : wpAny M A (callWith pos (.type T) first trees []) Q E s := by
 refine PySem.callWith_type hp ?_
 cases trees with
 | nil =>
  refine PySem.evalArgs_none (fun Γ p hΓ => ?_)
  exact h Γ p hΓ Γ p hΓ
 | cons x rest =>
  obtain ⟨b, t⟩ := x
  simp only [List.any_cons, Bool.or_eq_false_iff] at hp
  obtain ⟨rfl, _⟩ := hp
  exact Calls.evalArgs_plain h
theorem e_bcall (G : KG K mg mb) {f : Str} {id : String} {args : List Expr} {p pos : Pos} {F : FT} {l : XL} (hF : SoundV K r (.builtin id) F) (hl : SoundL K r env look args l)
  (hk : env.kindOf f = some .globalImplicit) (hg : mg f = none) (hm : mb f = some (.builtin id)) (hd : (f == ("__debug__" : Str)) = false) (hb : (backTo pos (starEach args env)).any (·.1) = false) :
  SoundE K r env look (.Call (.Name f p) args [] pos) (xCall F l) := by
 intro A ok vs Q hp ρ s E q FR H
 refine wpAny_Call_Name_kw (Calls.Name_function_global FR.kd hk (Calls.loadGlobal_builtin (mg := mg) (mb := mb) ?_ hg ?_ hm ?_) hd)
 ·rw [FR.gl]; exact H.nsOf G.g G.g'
 ·rw [FR.bi]; exact H.nsOf G.b G.b'
 refine callWith_builtin hb (wpAny_mono (hl A ok pos vs _ hp ρ s E q FR H) ?_ (fun _ _ x => x))
 rintro rvs s' ⟨l, hp₁, ρ₁, h₁, t₁, rfl, q₁, H₁, S₁, r₁⟩
 exact wpAny_mono (hF A ok ρ₁ hp₁ { s with heap := h₁, toks := t₁ } l rvs Q E q₁ H₁ r₁) (fun _ _ x => PostE.after S₁ x) (fun _ _ x => x)
theorem e_tcall (G : KG K mg mb) {f : Str} {id : String} {args : List Expr} {p pos : Pos} {F : FT} {l : XL} (hF : SoundV K r (.type id) F) (hl : SoundL K r env look args l)
  (hk : env.kindOf f = some .globalImplicit) (hg : mg f = none) (hm : mb f = some (.type id)) (hd : (f == ("__debug__" : Str)) = false) (hb : (backTo pos (starEach args env)).any (·.1) = false) :
  SoundE K r env look (.Call (.Name f p) args [] pos) (xCall F l) := by
 intro A ok vs Q hp ρ s E q FR H
 refine wpAny_Call_Name_kw (Calls.Name_function_global FR.kd hk (Calls.loadGlobal_builtin (mg := mg) (mb := mb) ?_ hg ?_ hm ?_) hd)
 ·rw [FR.gl]; exact H.nsOf G.g G.g'
 ·rw [FR.bi]; exact H.nsOf G.b G.b'
 refine callWith_typeS hb (wpAny_mono (hl A ok pos vs _ hp ρ s E q FR H) ?_ (fun _ _ x => x))
 rintro rvs s' ⟨l, hp₁, ρ₁, h₁, t₁, rfl, q₁, H₁, S₁, r₁⟩
 exact wpAny_mono (hF A ok ρ₁ hp₁ { s with heap := h₁, toks := t₁ } l rvs Q E q₁ H₁ r₁) (fun _ _ x => PostE.after S₁ x) (fun _ _ x => x)
noncomputable def fLen : FT := fun vas Q hp => match vas with
 | [v] => (match v with
  | .d (.str x) => (x.length : Int) < 2 ^ 63 ∧ Q (.d (.int x.length)) hp
  | v => match lget v hp with | some l => (l.length : Int) < 2 ^ 63 ∧ Q (.d (.int l.length)) hp | none => False)
 | _ => False
inductive StrI (P : Str → Prop) (T : Prop) (v : V) : Prop
 | str (i : Str) : v = .d (.str i) → P i → StrI P T v
 | rest : T → StrI P T v
theorem strI {P : Str → Prop} {T : V → Prop} {v : V} (q : (match v with | .d (.str i) => P i | v => T v)) : StrI P (T v) v := by
 cases v with
 | d x => cases x with
  | str i => exact .str i rfl q
  | _ => exact .rest q
 | _ => exact .rest q
theorem f_len : SoundV K r (.builtin "len") fLen := by
 intro A ok ρ hp s vas ras Q E q H R
 cases R with
 | nil => exact q.elim
 | cons a b => cases b with
  | cons => exact q.elim
  | nil =>
   obtain ⟨x, rfl, q⟩ | q := strI q
   ·cases a
    exact PyProof.Rows.len_str (by lia) (PostE.pure _ q.2 H (.int ..))
   ·split at q
    ·rename_i l e
     obtain ⟨aa, vs, n, rfl, h1, h3⟩ := lget_rel H a e
     have e : vs.size = l.length := by rw [← h3.length]; simp
     refine PyProof.Rows.len_list (items := vs) ⟨_, h1, rfl, n, rfl⟩ (by rw [e]; lia) ?_
     rw [e]
     exact PostE.pure _ q.2 H (.int ..)
    ·exact q.elim
noncomputable def fRange : FT := fun vas Q hp => match vas with
 | [v] => (match v with | .d (.int n) => Q (.rng 0 n 1) hp | _ => False)
 | [u, v, w] => (match u with | .d (.int a) => (match v with | .d (.int b) => (match w with | .d (.int c) => c ≠ 0 ∧ c.natAbs < 2 ^ 64 ∧ Q (.rng a b c) hp | _ => False) | _ => False) | _ => False)
 | _ => False
theorem f_range : SoundV K r (.type "range") fRange := by
 intro A ok ρ hp s vas ras Q E q H R
 cases R with
 | nil => exact q.elim
 | cons a R => cases R with
  | nil =>
   obtain ⟨_, rfl, q⟩ := int_inv q
   cases a
   refine call_range_1 ?_
   exact PostE.grown _ q H (fun _ _ e => Heap.get?_push_of_some _ e) ⟨_, _, _, _, rfl, Heap.get?_push_size _ rfl, H.sizeMu⟩
  | cons b R => cases R with
   | nil => exact q.elim
   | cons c R => cases R with
    | cons => exact q.elim
    | nil =>
     obtain ⟨_, rfl, q⟩ := int_inv q
     obtain ⟨_, rfl, q⟩ := int_inv q
     obtain ⟨_, rfl, q⟩ := int_inv q
     cases a; cases b; cases c
     refine call_range_3 q.1 ?_ (.inl (noPylong q.2.1))
     exact PostE.grown _ q.2.2 H (fun _ _ e => Heap.get?_push_of_some _ e) ⟨_, _, _, _, rfl, Heap.get?_push_size _ rfl, H.sizeMu⟩
noncomputable def fAbs : FT := fun vas Q hp => match vas with
 | [v] => (match v with | .d (.int n) => Q (.d (.int (if n < 0 then -n else n))) hp | _ => False)
 | _ => False
theorem f_abs : SoundV K r (.builtin "abs") fAbs := by
 intro A ok ρ hp s vas ras Q E q H R
 cases R with
 | nil => exact q.elim
 | cons a R => cases R with
  | cons => exact q.elim
  | nil =>
   obtain ⟨_, rfl, q⟩ := int_inv q
   cases a
   exact call_abs_int (fun u tk => PostE.pure _ q H (.int ..))
end
noncomputable def clo (cells : List (Str × Addr)) : List (Str × NameKind) → List (Str × Addr) → List (Str × Addr)
 | [], acc => acc
 | (n, k) :: r, acc => if k == .free then clo cells r ((n, (cells.lookup n).getD 0) :: acc) else clo cells r acc
theorem closureFor_clo {env : Env} {scope : Scope} (h : ∀ x ∈ scope.names, x.2 = .free → (env.cells.lookup x.1).isSome = true) : closureFor scope env = pure (clo env.cells scope.names []) := by
 have key : ∀ (names : List (Str × NameKind)) (acc : List (Str × Addr)), (∀ x ∈ names, x.2 = .free → (env.cells.lookup x.1).isSome = true) →
   (forIn names acc (fun (x : Str × NameKind) (cs : List (Str × Addr)) => (if x.2 == .free then (do let a ← cellOf env x.1; pure (ForInStep.yield ((x.1, a) :: cs))) else pure (ForInStep.yield cs) : Sem (ForInStep (List (Str × Addr)))))) = pure (clo env.cells names acc) := by
  intro names
  induction names with
  | nil => intro acc _; rfl
  | cons x r ih =>
   intro acc hx
   obtain ⟨n, k⟩ := x
   rw [List.forIn_cons]
   unfold clo
   cases hk : (k == NameKind.free) with
   | true =>
    have hk' : k = .free := by simpa using hk
    have hs := hx (n, k) List.mem_cons_self hk'
    obtain ⟨c, hc⟩ := Option.isSome_iff_exists.mp hs
    simp only [hk, if_true]
    have e : cellOf env n = pure c := by unfold cellOf; rw [hc]
    rw [e]
    have := ih ((n, c) :: acc) (fun y hy => hx y (List.mem_cons_of_mem _ hy))
    rw [show (env.cells.lookup n).getD 0 = c by rw [hc]; rfl]
    rw [← this]
    rfl
   | false =>
    dsimp only [hk, Bool.false_eq_true, if_false]
    exact ih acc (fun y hy => hx y (List.mem_cons_of_mem _ hy))
 unfold closureFor
 have := key scope.names [] h
 exact (congrArg (fun t => t >>= fun cs => (pure cs : Sem (List (Str × Addr)))) this)
theorem clo_lookup {cells : List (Str × Addr)} : ∀ {names : List (Str × NameKind)} {acc : List (Str × Addr)} {x : Str} {c : Addr}, (∀ y ∈ names, y.2 = .free → (cells.lookup y.1).isSome = true) →
  (∀ y d, acc.lookup y = some d → cells.lookup y = some d) → (clo cells names acc).lookup x = some c → cells.lookup x = some c
 | [], acc, x, c, _, ha, h => ha x c h
 | (n, k) :: r, acc, x, c, hn, ha, h => by
  unfold clo at h
  split at h
  ·rename_i hk
   refine clo_lookup (fun y hy => hn y (List.mem_cons_of_mem _ hy)) ?_ h
   intro y d hy
   rw [List.lookup_cons] at hy
   cases hb : y == n with
   | true =>
    rw [hb] at hy
    have e := beq_iff_eq.mp hb
    subst e
    obtain ⟨c', hc'⟩ := Option.isSome_iff_exists.mp (hn (y, k) List.mem_cons_self (by simpa using hk))
    simp only at hc'
    rw [hc'] at hy ⊢
    simpa using hy
   | false => rw [hb] at hy; exact ha y d hy
  ·exact clo_lookup (fun y hy => hn y (List.mem_cons_of_mem _ hy)) ha h
theorem clo_some {cells : List (Str × Addr)} : ∀ {names : List (Str × NameKind)} {acc : List (Str × Addr)} {x : Str}, ((x, NameKind.free) ∈ names ∨ (acc.lookup x).isSome = true) → ((clo cells names acc).lookup x).isSome = true
 | [], acc, x, h => by
  rcases h with h | h
  ·cases h
  ·exact h
 | (y, kind) :: r, acc, x, h => by
  unfold clo
  split
  ·rename_i hk
   refine clo_some ?_
   rw [List.lookup_cons]
   cases hb : x == y with
   | true => exact .inr rfl
   | false =>
    rcases h with h | h
    ·rcases List.mem_cons.mp h with e | h
     ·cases e; simp at hb
     ·exact .inl h
    ·exact .inr h
  ·rename_i hk
   refine clo_some ?_
   rcases h with h | h
   ·rcases List.mem_cons.mp h with e | h
    ·cases e; exact absurd rfl hk
    ·exact .inl h
   ·exact .inr h
theorem lookup_mapk {f : Str → NameKind → NameKind} : ∀ {names : List (Str × NameKind)} {x : Str}, (names.map fun y => (y.1, f y.1 y.2)).lookup x = (names.lookup x).map (f x)
 | [], x => rfl
 | (n, k) :: r, x => by
  simp only [List.map_cons, List.lookup_cons]
  cases hb : x == n with
  | true => have := beq_iff_eq.mp hb; subst this; rfl
  | false => exact lookup_mapk
theorem kind_relabel {scope : Scope} {env env' : Env} {x : Str} (he : env'.scope = relabel scope env) (hx : env'.kindOf x = some .cell ∨ env'.kindOf x = some .free) (hc : scope.names.lookup x ≠ some .cell) : scope.names.lookup x = some .free := by
 have e : env'.kindOf x = (scope.names.lookup x).map (fun k => if (k == .free && env.scope.kind == .function && env.kindOf x == some .cell) then .cell else k) := by
  show env'.scope.names.lookup x = _
  rw [he]
  rw [← lookup_mapk (f := fun n k => if (k == .free && env.scope.kind == .function && env.kindOf n == some .cell) then .cell else k)]
  unfold relabel
  congr 1
  apply List.map_congr_left
  rintro ⟨n, k⟩ _
  simp only
  split <;> rfl
 rw [e] at hx
 cases hl : scope.names.lookup x with
 | none => rw [hl] at hx; rcases hx with h | h <;> cases h
 | some k =>
  rw [hl] at hx hc
  cases k with
  | free => rfl
  | cell => exact absurd rfl hc
  | _ => rcases hx with h | h <;> cases h
noncomputable def lkC (on : List Str) (look : Str → Option Nat) (x : Str) : Option Nat := match lk on x with | some k => some k | none => (look x).map (· + on.length)
theorem lk_lt {nm : List Str} {x : Str} {k : Nat} (h : lk nm x = some k) : k < nm.length := (List.getElem?_eq_some_iff.mp (lk_get h)).1
section
variable {K : KX} {r : Nat} {env : Env} {look : Str → Option Nat}
noncomputable abbrev Env.bare (env : Env) : Env := { env with cells := [] }
theorem Place.bare {b : Addr} (h : Place (Env.bare env) b) : b = env.locals := by
 rcases h with h | ⟨x, _, hc⟩
 ·exact h
 ·cases hc
theorem StepS.wide {ρ ρ' : Rho} {h h' : Heap} (S : StepS K (Env.bare env) ρ h ρ' h') : StepS K env ρ h ρ' h' :=
 ⟨S.pre, S.new, fun b o e a c d => S.keep b o e a c (fun z => d (.inl z.bare)), S.dom⟩
inductive PostTL (K : KX) (env : Env) (look : Str → Option Nat) (ρ : Rho) (s : Shared) (Q : List (Option V) → List O → Prop) (s' : Shared) : Prop
 | mk (vs' : List (Option V)) (hp' : List O) (ρ' : Rho) (h' : Heap) (t : Nat) (e : s' = { s with heap := h', toks := t }) (q : Q vs' hp') (F : FRel K env look vs' ρ' h') (H : HRel K ρ' hp' h') (S : StepS K (Env.bare env) ρ s.heap ρ' h')
noncomputable def SoundTL (K : KX) (r : Nat) (env : Env) (look : Str → Option Nat) (t : Expr) (p : XT) : Prop :=
 ∀ A, OkA r A → ∀ v vs Q hp ρ s E rv, p v vs Q hp → FRel K env look vs ρ s.heap → HRel K ρ hp s.heap → VR ρ s.heap v rv → wpAny (model K.prog K.w) A (assign t env rv) (fun _ => PostTL K env look ρ s Q) E s
theorem tl_name {x : Str} {k : Nat} {pos : Pos} (hk : env.kindOf x = some .local) (hl : look x = some k) : SoundTL K r env look (.Name x pos) (tName k) := by
 intro A ok v vs Q hp ρ s E rv q F H hv
 have slot : ∀ y j w, look y = some j → (vs.set k (some v))[j]? = some (some w) → (y = x ∧ w = v) ∨ (y ≠ x ∧ vs[j]? = some (some w)) := by
  intro y j w hy e
  rw [List.getElem?_set] at e
  by_cases hj : k = j
  ·subst hj
   rw [if_pos rfl] at e
   split at e
   ·cases e; exact .inl ⟨F.ij y x k hy hl, rfl⟩
   ·cases e
  ·rw [if_neg hj] at e
   exact .inr ⟨fun q => hj (by subst q; rw [hl] at hy; cases hy; rfl), e⟩
 obtain ⟨m, n, f⟩ := F.ns
 have hkc : (env.scope.kind == .class || (env.scope.kind == .module && env.locals != env.globals)) = false := by rw [F.kd]; rfl
 obtain ⟨ol, es, ep, el, dl, _⟩ := id n
 refine wpAny_assign_Name (wpAny_storeName_local hk n (fun h' n' hs => ?_) hkc)
 have S : StepS K (Env.bare env) ρ s.heap ρ h' := ⟨List.prefix_refl _, fun _ hp => .inl hp, fun b o e _ _ hb => (hs.2 b (fun q => hb (.inl q))).trans e, fun b o e => by
  by_cases hb : b = env.locals
  ·subst hb; obtain ⟨o', _, _, e', _⟩ := n'; exact ⟨o', e'⟩
  ·exact ⟨o, (hs.2 b hb).trans e⟩⟩
 have nonseq : ∀ o, s.heap.get? env.locals = some o → ∀ vs n, o.data ≠ .seq vs n := by
  intro o' e' vs n q
  rw [el] at e'; cases e'; rw [dl] at q; cases q
 refine ⟨_, hp, ρ, h', _, rfl, q, ⟨F.kd, F.gl, F.bi, F.lb, F.lo, ⟨_, n', ?_⟩, ?_, F.ci, F.ij⟩, H.other F.lb F.lo hs.extBut nonseq, S⟩
 ·intro y j w hy hj e
  rcases slot y j w hj e with ⟨rfl, rfl⟩ | ⟨hne, e⟩
  ·exact ⟨rv, by simp, hv.stepS S.wide F H⟩
  ·obtain ⟨rw', e1, e2⟩ := f y j w hy hj e
   exact ⟨rw', by simp [hne, e1], e2.stepS S.wide F H⟩
 ·intro y hy
  obtain ⟨c, o, ov, a1, a2, a3, a4, a5, a6⟩ := F.cl y hy
  have hne : c ≠ env.locals := by rintro rfl; rw [el] at a4; cases a4; rw [dl] at a5; cases a5
  refine ⟨c, o, ov, a1, a2, a3, (hs.2 c hne).trans a4, a5, fun j w hj e => ?_⟩
  rcases slot y j w hj e with ⟨rfl, rfl⟩ | ⟨_, e⟩
  ·rcases hy with hy | hy <;> (rw [hk] at hy; cases hy)
  ·obtain ⟨rw', e1, e2⟩ := a6 j w hj e
   exact ⟨rw', e1, e2.stepS S.wide F H⟩
noncomputable def SoundTsL (K : KX) (r : Nat) (env : Env) (look : Str → Option Nat) (ts : List Expr) (p : XTs) : Prop :=
 ((assignEach ts env).findIdx? (·.1) = none ∧ (assignEach ts env).length = ts.length) ∧ ∀ A, OkA r A → ∀ ls vs Q hp ρ s E rvs, p ls vs Q hp → FRel K env look vs ρ s.heap → HRel K ρ hp s.heap → VRs ρ s.heap ls rvs →
  wpAny (model K.prog K.w) A (assignInOrder ((assignEach ts env).map (·.2)) rvs) (fun _ => PostTL K env look ρ s Q) E s
theorem tls_nil : SoundTsL K r env look [] tsNil := by
 refine ⟨⟨rfl, rfl⟩, ?_⟩
 intro A ok ls vs Q hp ρ s E rvs q F H hv
 cases ls with
 | nil => exact wpAny_pure ⟨vs, hp, ρ, s.heap, s.toks, rfl, q, F, H, StepS.refl ..⟩
 | cons v l => exact q.elim
theorem tls_cons {t : Expr} {ts : List Expr} {a : XT} {b : XTs} (ha : SoundTL K r env look t a) (hb : SoundTsL K r env look ts b) (he : assignEach (t :: ts) env = (false, assign t env) :: assignEach ts env) : SoundTsL K r env look (t :: ts) (tsCons a b) := by
 refine ⟨⟨by rw [he, List.findIdx?_cons]; simp [hb.1.1], by rw [he]; simp [hb.1.2]⟩, ?_⟩
 intro A ok ls vs Q hp ρ s E rvs q F H hv
 cases ls with
 | nil => exact q.elim
 | cons v l =>
  cases hv with
  | cons d ds =>
   rename_i x xs
   rw [he]
   show wpAny _ A (do holding xs (assign t env x); assignInOrder ((assignEach ts env).map (·.2)) xs) _ E s
   refine wpAny_bind (wpAny_holding (wpAny_mono (ha A ok v vs _ hp ρ s E x q F H d) ?_ (fun _ _ x => x)))
   rintro _ s' ⟨vs', hp', ρ', h', t', rfl, q', F', H', S'⟩
   refine wpAny_mono (hb.2 A ok l vs' Q hp' ρ' { s with heap := h', toks := t' } E xs q' F' H' (ds.stepS S'.wide F H)) ?_ (fun _ _ x => x)
   rintro _ s'' ⟨vs'', hp'', ρ'', h'', t'', rfl, q'', F'', H'', S''⟩
   exact ⟨vs'', hp'', ρ'', h'', t'', rfl, q'', F'', H'', S'.trans S''⟩
theorem tl_tuple {ts : List Expr} {k : Nat} {pos : Pos} {b : XTs} (hb : SoundTsL K r env look ts b) : SoundTL K r env look (.Tuple ts k pos) (tTuple ts.length b) := by
 intro A ok v vs Q hp ρ s E rv q F H hv
 show wpAny _ A (do standAt pos; unpack rv (assignEach ts env)) _ E s
 refine wpAny_bind (wpAny_standAt ?_)
 obtain ⟨xs, ⟨g, hn, q⟩, qi⟩ := iterV_eq q
 unfold unpack
 rw [hb.1.1, hb.1.2, ← hn]
 refine wpAny_bind (wpAny_holding (wpAny_mono (unpack_items ok.hh qi hv H) ?_ (fun _ _ x => x)))
 rintro l s' ⟨h', t', rfl, d, H', S'⟩
 refine wpAny_mono (hb.2 A ok _ vs Q hp ρ { s with heap := h', toks := t' } E l q (F.step H S') H' d.vrs) ?_ (fun _ _ x => x)
 rintro _ s'' ⟨vs'', hp'', ρ'', h'', t'', rfl, q'', F'', H'', S''⟩
 exact ⟨vs'', hp'', ρ'', h'', t'', rfl, q'', F'', H'', S'.toS.trans S''⟩
noncomputable def SoundI (K : KX) (r : Nat) (env : Env) (look : Str → Option Nat) (ifs : List Expr) (p : XB) : Prop :=
 ∀ A, OkA r A → ∀ vs Q hp ρ s E, p vs Q hp → FRel K env look vs ρ s.heap → HRel K ρ hp s.heap →
  wpAny (model K.prog K.w) A (forIn ifs true fun c r => if r = true then do let ok ← isTrue c env (eval c env); pure (ForInStep.yield ok) else pure (ForInStep.yield r)) (PostB K ρ s Q) E s
noncomputable def iNil : XB := fun _ Q => Q true
theorem i_nil : SoundI K r env look [] iNil := fun A ok vs Q hp ρ s E q F H => wpAny_tests_nil (PostB.pure0 q H)
theorem i_one {c : Expr} {p : XB} (h : SoundB K r env look c p) : SoundI K r env look [c] p := fun A ok vs Q hp ρ s E q F H => wpAny_tests_one (h A ok vs Q hp ρ s E q F H)
noncomputable def compL (g : G) (i : Nat) (tgt : XT) (ifs : XB) (elt : XE) (Q : List PyData → List O → Prop) : List PyData → List (Option V) → List O → Prop
 | [], vs, hp => gOk g hp ∧ atL (.r i) hp fun _ l => Q l hp
 | x :: xs, vs, hp => gOk g hp ∧ tgt (.d x) vs (fun vs' hp' => ifs vs' (fun b hp'' => match b with
  | true => elt vs' (fun v hp3 => (lget (.r i) hp3).isSome = true ∧ mAppend (.r i) [v] (fun _ hp4 => compL g i tgt ifs elt Q xs vs' hp4) hp3) hp''
  | false => compL g i tgt ifs elt Q xs vs' hp'') hp') hp
noncomputable def compEnd (m : Bool) (i : Nat) (Q : V → List O → Prop) (l : List PyData) (hp : List O) : Prop := match m with
 | false => Q (.d (.list l)) (hp.take i)
 | true => Q (.r i) (hp.take (i + 1))
noncomputable def xComp (m : Bool) (n : Nat) (tgt : XT) (it : XE) (ifs : XB) (elt : XE) : XE := fun vs Q => it vs fun v hp => iterV v hp fun g xs =>
 compL g hp.length tgt ifs elt (compEnd m hp.length Q) xs (List.replicate n none ++ vs) (hp ++ [.lst []])
noncomputable def CompTurn (prog : Program) (w : World) (A : Around) (R : Result → Shared → Prop) (elt target : Expr) (ifs : List Expr) (it acc : Value) (env : Env) (M : Shared → Prop) (s : Shared) : Prop :=
 wpAny (model prog w) A (pyNext it) (fun r s₁ => match r with
   | none => R (.ok .next) s₁
   | some v => wpAny (model prog w) A (letOwnedTupleGo target it v) (fun _ s₁' => wpAny (model prog w) A (assign target env v) (fun _ s₂ =>
     wpAny (model prog w) A (forIn ifs true fun c r => if r = true then do let ok ← isTrue c env (eval c env); pure (ForInStep.yield ok) else pure (ForInStep.yield r)) (fun ok s₃ =>
      if ok = true then wpAny (model prog w) A (eval elt env) (fun x s₄ =>
       wpAny (model prog w) A (call (.builtin "list.append") [acc, x]) (fun _ s₅ => M s₅) (notedBy (model prog w) A env fun e s' => R (.error e) s') s₄) (notedBy (model prog w) A env fun e s' => R (.error e) s') s₃
      else M s₃) (notedBy (model prog w) A env fun e s' => R (.error e) s') s₂) (notedBy (model prog w) A env fun e s' => R (.error e) s') s₁') (notedBy (model prog w) A env fun e s' => R (.error e) s') s₁) (notedBy (model prog w) A env fun e s' => R (.error e) s') s
theorem codeAny_compLoop_any {prog : Program} {w : World} {A : Around} {R : Result → Shared → Prop} {s : Shared} {elt target iter : Expr} {ifs : List Expr} {scope : Scope} {pos : Pos} {it acc : Value} {env : Env} (I : Nat → Shared → Prop)
  (turn : ∀ n s, I n s → CompTurn prog w A R elt target ifs it acc env (fun s' => ∃ m, m < n ∧ I m s') s)
  (n : Nat) (h : I n s) :
  codeAny (model prog w) A (.compLoop (.ListComp elt [⟨target, iter, ifs, 0⟩] scope pos) 0 it acc env) R s := by
 refine codeAny_loop rfl I (fun n s hI => ?_) n h
 show wpAny _ A ((compTurn (.ListComp elt [⟨target, iter, ifs, 0⟩] scope pos) 0 it acc env).onRaise (fun x => do noteFrame x env; theTreesLotGoes x)) _ _ s
 refine wpAny_noted ?_
 rw [compTurn_list]
 refine wpAny_bind (wpAny_standAt (wpAny_bind (wpAny_mono (turn n s hI) (fun r s₁ h₁ => ?_) fun _ _ h' => h')))
 cases r with
 | none => exact wpAny_pure h₁
 | some v =>
  refine wpAny_bind (wpAny_mono h₁ (fun _ s₁' h₁' => ?_) fun _ _ h' => h')
  refine wpAny_bind (wpAny_mono h₁' (fun _ s₂ h₂ => wpAny_bind (wpAny_mono h₂ (fun ok s₃ h₃ => ?_) fun _ _ h' => h')) fun _ _ h' => h')
  cases ok with
  | false => exact wpAny_pure ⟨rfl, h₃⟩
  | true =>
   exact wpAny_bind (wpAny_bind (wpAny_mono h₃ (fun x s₄ h₄ => wpAny_bind (wpAny_mono h₄ (fun _ s₅ h₅ => wpAny_pure (wpAny_pure ⟨rfl, h₅⟩)) fun _ _ h' => h')) fun _ _ h' => h'))
theorem FRel.comp {vs : List (Option V)} {ρ : Rho} {h : Heap} {scope : Scope} {C : Addr} {on : List Str} (F : FRel K env look vs ρ h) (hk : scope.kind = .function) (hnc : ∀ x ∈ scope.names, x.2 ≠ .cell)
  (hfree : ∀ x ∈ scope.names, x.2 = .free → (env.kindOf x.1 = some .cell ∨ env.kindOf x.1 = some .free) ∧ lk on x.1 = none)
  (hown : ∀ x ∈ scope.names, x.2 = .local → lk on x.1 = none → look x.1 = none) (hC : K.New C) (ho : Off ρ C) (hn : h.Ns C fun _ => none) :
  FRel K (compEnvC scope (clo env.cells scope.names []) C env) (lkC on look) (List.replicate on.length none ++ vs) ρ h := by
 have hsome : ∀ x ∈ scope.names, x.2 = .free → (env.cells.lookup x.1).isSome = true := by
  intro x hx hf
  obtain ⟨c, _, _, a1, _⟩ := F.cl x.1 (hfree x hx hf).1
  simp [a1]
 have sl : ∀ (k : Nat) (v : V), (List.replicate on.length none ++ vs)[k]? = some (some v) → on.length ≤ k ∧ vs[k - on.length]? = some (some v) := by
  intro k v e
  by_cases hk : k < on.length
  ·rw [List.getElem?_append_left (by simpa using hk), List.getElem?_replicate] at e
   split at e <;> cases e
  ·rw [List.getElem?_append_right (by simpa using hk)] at e
   exact ⟨by omega, by simpa using e⟩
 have lkc : ∀ x k, lkC on look x = some k → on.length ≤ k → lk on x = none ∧ look x = some (k - on.length) := by
  intro x k e hle
  unfold lkC at e
  split at e
  ·rename_i j hj
   cases e
   have := lk_lt hj
   omega
  ·rename_i hj
   refine ⟨hj, ?_⟩
   cases hl : look x with
   | none => rw [hl] at e; cases e
   | some j => rw [hl] at e; simp at e; subst e; simp
 have hkind : ∀ x, (compEnvC scope (clo env.cells scope.names []) C env).kindOf x = some NameKind.local → lk on x = none → look x = none := by
  intro x hx hl
  have e : (compEnvC scope (clo env.cells scope.names []) C env).kindOf x = (scope.names.lookup x).map (fun k => if (k == .free && env.scope.kind == .function && env.kindOf x == some .cell) then .cell else k) := by
   show (relabel scope env).names.lookup x = _
   rw [← lookup_mapk (f := fun n k => if (k == .free && env.scope.kind == .function && env.kindOf n == some .cell) then .cell else k)]
   unfold relabel
   congr 1
   apply List.map_congr_left
   rintro ⟨n, k⟩ _
   simp only
   split <;> rfl
  rw [e] at hx
  cases hq : scope.names.lookup x with
  | none => rw [hq] at hx; cases hx
  | some k =>
   rw [hq] at hx
   simp only [Option.map_some, Option.some.injEq] at hx
   split at hx
   ·cases hx
   ·subst hx; exact hown _ (mem_of_lookup hq) rfl hl
 refine ⟨?_, F.gl, F.bi, hC, ho, ?_, ?_, ?_, ?_⟩
 ·show (relabel scope env).kind = _; exact hk
 ·refine ⟨_, hn, fun x k v hx hl e => ?_⟩
  obtain ⟨h1, h2⟩ := sl k v e
  obtain ⟨h3, h4⟩ := lkc x k hl h1
  rw [hkind x hx h3] at h4; cases h4
 ·intro x hx
  have hf := kind_relabel (env' := compEnvC scope (clo env.cells scope.names []) C env) rfl hx (fun e => hnc _ (mem_of_lookup e) rfl)
  have hm := mem_of_lookup hf
  obtain ⟨hk', hlk⟩ := hfree _ hm rfl
  obtain ⟨c, hc⟩ := Option.isSome_iff_exists.mp (clo_some (cells := env.cells) (acc := []) (.inl hm))
  have hc' := clo_lookup (acc := []) hsome (fun _ _ h => nomatch h) hc
  obtain ⟨c', o, ov, a1, a2, a3, a4, a5, a6⟩ := F.cl x hk'
  rw [hc'] at a1; cases a1
  refine ⟨c, o, ov, hc, a2, a3, a4, a5, fun k v hl e => ?_⟩
  obtain ⟨h1, h2⟩ := sl k v e
  obtain ⟨h3, h4⟩ := lkc x k hl h1
  exact a6 _ v h4 h2
 ·intro x y c h1 h2
  exact F.ci x y c (clo_lookup (acc := []) hsome (fun _ _ h => nomatch h) h1) (clo_lookup (acc := []) hsome (fun _ _ h => nomatch h) h2)
 ·intro x y k h1 h2
  by_cases hle : on.length ≤ k
  ·exact F.ij x y _ (lkc x k h1 hle).2 (lkc y k h2 hle).2
  ·have own : ∀ z, lkC on look z = some k → lk on z = some k := by
    intro z e
    unfold lkC at e
    split at e
    ·rename_i j hj; cases e; exact hj
    ·cases hl : look z with
     | none => rw [hl] at e; cases e
     | some j => rw [hl] at e; simp at e; omega
   have e1 := lk_get (own x h1)
   have e2 := lk_get (own y h2)
   rw [e1] at e2; cases e2; rfl
theorem comp_turn {A : Around} (ok : OkA r A) {elt target : Expr} {ifs : List Expr} {tgt : XT} {pi : XB} {pe : XE} {ce : Env} {lk2 : Str → Option Nat} {ρ : Rho} {h₁ : Heap} {s : Shared} {I : Addr} {g : G} {i : Nat} {pD : P} {Q : List PyData → List O → Prop} {R : Result → Shared → Prop}
  (ht : SoundTL K r ce lk2 target tgt) (hi : SoundI K r ce lk2 ifs pi) (he : SoundE K r ce lk2 elt pe) (hI : h₁.get? I = none) (hnI : K.New I) (hC : h₁.get? ce.locals = none) (hρ : ρ.length = i)
  (hRR : ∀ hp' ρ' h' t l m, Q l hp' → hp'[i]? = some (.lst l) → HRel K ρ' hp' h' → ρ'[i]? = some pD → Step K ρ h₁ ρ' h' → h'.Ns ce.locals m → Off ρ' ce.locals → R (.ok .next) { s with heap := h', toks := t })
  (n : Nat) (s' : Shared) (T : TurnI K ce (Env.bare ce) lk2 s ρ h₁ I g (compL g i tgt pi pe Q) (List.IsPrefix (ρ ++ [pD])) n s') :
  CompTurn K.prog K.w A R elt target ifs (.ref I) (.ref pD.a) ce (fun s' => ∃ m, m < n ∧ TurnI K ce (Env.bare ce) lk2 s ρ h₁ I g (compL g i tgt pi pe Q) (List.IsPrefix (ρ ++ [pD])) m s') s' := by
 unfold CompTurn
 obtain ⟨xs, vs', hp', ρ', h', t', rfl, rfl, q', F', H', Ia', ho, S', P'⟩ := T
 have gD : ∀ {ρ'' : Rho}, (ρ ++ [pD]) <+: ρ'' → ρ''[i]? = some pD := fun P => pre_get P (by rw [← hρ]; simp)
 cases xs with
 | nil =>
  obtain ⟨hg', q'⟩ := q'
  refine wpAny_mono (iter_end (s := { s with heap := h', toks := t' }) ok.hh Ia' H' hg' hnI ho) ?_ (fun _ _ x => x)
  rintro _ s'' ⟨h'', rfl, rfl, H'', hs''⟩
  have F'' := F'.skip Ia' hs''
  obtain ⟨m, hm, _⟩ := F''.ns
  have S := S'.skip hI hs''
  unfold atL at q'
  simp only at q'
  split at q'
  ·rename_i l e
   refine hRR hp' ρ' h'' t' l m q' e H'' (gD P') ⟨S.pre, S.new, fun b o e hb hm => S.keep b o e hb hm (fun z => ?_), S.dom⟩ hm F''.lo
   rw [z.bare, hC] at e
   cases e
  ·exact q'.elim
 | cons x xs =>
  obtain ⟨hg', q'⟩ := q'
  refine wpAny_mono (iter_next (s := { s with heap := h', toks := t' }) Ia' H' hg' hnI ho) ?_ (fun _ _ x => x)
  rintro _ s'' ⟨rx, h'', t'', rfl, rfl, dx, Ia'', H'', hs''⟩
  refine iter_owned (s := { s with heap := h'', toks := t'' }) Ia'' ?_
  have F'' := F'.skip Ia' hs''.extBut
  have S'' := S'.skip hI hs''.extBut
  clear F' H' Ia' S' hs''
  refine wpAny_mono (ht A ok (.d x) vs' _ hp' ρ' { s with heap := h'', toks := t'' } _ rx q' F'' H'' dx) ?_ (fun _ _ x => x)
  rintro _ s₃ ⟨vs₃, hp₃, ρ₃, h₃, t₃, rfl, q₃, F₃, H₃, S₃⟩
  obtain ⟨oI, _, eI, _⟩ := id Ia''.dom
  have Ia₃ := Ia''.stepS S₃.wide F'' H'' ho.mu (H''.newTb hnI)
  have ho₃ := ho.stepS S₃ eI
  obtain ⟨oI₃, _, eI₃, _⟩ := id Ia₃.dom
  have S₃' := S''.trans S₃
  refine wpAny_mono (hi A ok vs₃ _ hp₃ ρ₃ { s with heap := h₃, toks := t₃ } _ q₃ F₃ H₃) ?_ (fun _ _ x => x)
  rintro b s₄ ⟨hp₄, ρ₄, h₄, t₄, rfl, q₄, H₄, S₄⟩
  have F₄ := F₃.step H₃ S₄
  have Ia₄ := Ia₃.stepS S₄.toS F₃ H₃ ho₃.mu (H₃.newTb hnI)
  have ho₄ := ho₃.step S₄ eI₃
  obtain ⟨oI₄, _, eI₄, _⟩ := id Ia₄.dom
  cases b with
  | false => exact ⟨xs.length, Nat.lt_succ_self _, xs, vs₃, hp₄, ρ₄, h₄, t₄, rfl, rfl, q₄, F₄, H₄, Ia₄, ho₄, S₃'.trans S₄.toS, (P'.trans S₃.pre).trans S₄.pre⟩
  | true =>
   refine wpAny_mono (he A ok vs₃ _ hp₄ ρ₄ { s with heap := h₄, toks := t₄ } _ q₄ F₄ H₄) ?_ (fun _ _ x => x)
   rintro rv s₅ ⟨v, hp₅, ρ₅, h₅, t₅, rfl, q₅, H₅, S₅, r₅⟩
   have F₅ := F₄.step H₄ S₅
   have Ia₅ := Ia₄.stepS S₅.toS F₄ H₄ ho₄.mu (H₄.newTb hnI)
   have ho₅ := ho₄.step S₅ eI₄
   obtain ⟨oI₅, _, eI₅, _⟩ := id Ia₅.dom
   obtain ⟨l₅, hl₅⟩ := Option.isSome_iff_exists.mp q₅.1
   have P₅ := ((P'.trans S₃.pre).trans S₄.pre).trans S₅.pre
   refine wpAny_mono (m_append (r := r) A ok ρ₅ hp₅ { s with heap := h₅, toks := t₅ } (.r i) l₅ (.ref pD.a) [v] [rv] _ _ q₅.2 H₅ ⟨_, gD P₅, rfl⟩ hl₅ (.cons r₅ .nil)) ?_ (fun _ _ x => x)
   rintro _ s₆ ⟨v₆, hp₆, ρ₆, h₆, t₆, rfl, q₆, H₆, S₆, _⟩
   exact ⟨xs.length, Nat.lt_succ_self _, xs, vs₃, hp₆, ρ₆, h₆, t₆, rfl, rfl, q₆, F₅.step H₅ S₆, H₆, Ia₅.stepS S₆.toS F₅ H₅ ho₅.mu (H₅.newTb hnI), ho₅.step S₆ eI₅, ((S₃'.trans S₄.toS).trans S₅.toS).trans S₆.toS, P₅.trans S₆.pre⟩
theorem comp_core {A : Around} (ok : OkA r A) {elt target iter : Expr} {ifs : List Expr} {scope : Scope} {pos : Pos} {on : List Str} {tgt : XT} {pi : XB} {pe : XE} {vs : List (Option V)} {hp : List O} {ρ : Rho} {s : Shared} {h₁ : Heap} {I : Addr} {g : G} {xs : List PyData} {E : Value → Shared → Prop}
  {Q : List PyData → List O → Prop} {RR : Value → Addr → Result → Shared → Prop}
  (hk : scope.kind = .function) (hnc : ∀ x ∈ scope.names, x.2 ≠ .cell) (hfree : ∀ x ∈ scope.names, x.2 = .free → (env.kindOf x.1 = some .cell ∨ env.kindOf x.1 = some .free) ∧ lk on x.1 = none)
  (hown : ∀ x ∈ scope.names, x.2 = .local → lk on x.1 = none → look x.1 = none)
  (ht : ∀ cl C, SoundTL K r (compEnvC scope cl C env) (lkC on look) target tgt) (hi : ∀ cl C, SoundI K r (compEnvC scope cl C env) (lkC on look) ifs pi) (he : ∀ cl C, SoundE K r (compEnvC scope cl C env) (lkC on look) elt pe)
  (q : compL g hp.length tgt pi pe Q xs (List.replicate on.length none ++ vs) (hp ++ [.lst []])) (F : FRel K env look vs ρ h₁) (H : HRel K ρ hp h₁)
  (hk₁ : ∀ b o, h₁.get? b = some o → s.heap.get? b = some o) (hI : h₁.get? I = none) (Ia : IterAt ρ s.heap I g xs)
  (hRR : ∀ D C hp' ρ' h' t l m, Q l hp' → hp'[hp.length]? = some (.lst l) → HRel K ρ' hp' h' → ρ'[hp.length]? = some ⟨D, D, []⟩ → Step K ρ h₁ ρ' h' → h'.Ns C m → h₁.get? C = none → K.New C → Off ρ' C →
   RR (.ref D) C (.ok .next) { s with heap := h', toks := t }) :
  wpAny (model K.prog K.w) A (newList []) (fun acc s₃ => wpAny (model K.prog K.w) A (newFunctionEnv scope env.globals (clo env.cells scope.names []) [] env.qual none .none (some env)) (fun cenv s₄ =>
   codeAny (model K.prog K.w) A (.compStart (.ListComp elt [⟨target, iter, ifs, 0⟩] scope pos) 0 (.ref I) acc { cenv with scope := relabel scope env }) (RR acc cenv.locals) s₄) E s₃) E s := by
 have Hs : HRel K ρ hp s.heap := H.grow hk₁
 have S₀ : Step K ρ h₁ ρ s.heap := Step.grow hk₁
 have hnI := H.fresh hI
 refine wpAny_newList ?_ (Nat.zero_le _)
 refine wpAny_newFunctionEnv hnc (fun x hx => nomatch hx) (fun h₂ hns hsb => ?_) hk
 dsimp only at hns hsb ⊢
 have hD : s.heap.get? s.heap.objs.size = none := get?_beyond (Nat.le_refl _)
 generalize hC' : (s.heap.push { cls := .type "list", data := .seq ([] : List Value).toArray }).objs.size = C at hns hsb ⊢
 have hCs : C = s.heap.objs.size + 1 := by rw [← hC', Heap.size_push]
 have hCn : s.heap.get? C = none := get?_beyond (by rw [hCs]; exact Nat.le_succ _)
 have hDC : s.heap.objs.size ≠ C := by rw [hCs]; exact Nat.ne_of_lt (Nat.lt_succ_self _)
 have keep₂ : ∀ b o, (s.heap.push { cls := .type "list", data := .seq ([] : List Value).toArray }).get? b = some o → h₂.get? b = some o := by
  intro b o e
  have hb : b ≠ C := by rw [← hC']; exact Nat.ne_of_lt (Heap.lt_size e)
  exact (hsb.2 b hb).trans (Heap.get?_push_of_some _ e)
 have keepD : ∀ b o, s.heap.get? b = some o → h₂.get? b = some o := fun b o e => keep₂ b o (Heap.get?_push_of_some _ e)
 have hLD : IsL h₂ s.heap.objs.size #[] 0 := keep₂ _ _ (Heap.get?_push_size _ rfl)
 obtain ⟨H₂, S₂⟩ := Hs.add keepD (p := ⟨s.heap.objs.size, s.heap.objs.size, []⟩) (o := .lst []) hD ⟨_, hLD⟩ (fun _ h => nomatch h) ⟨rfl, #[], 0, hLD, .nil⟩
 have hCoff : Off (ρ ++ [⟨s.heap.objs.size, s.heap.objs.size, []⟩]) C := by
  intro p hp
  rcases List.mem_append.mp hp with hp | hp
  ·exact Hs.off hCn p hp
  ·simp at hp; subst hp; exact ⟨fun e => hDC e.symm, fun h => nomatch h⟩
 have hCnew : K.New C := Hs.fresh hCn
 have F₂ : FRel K env look vs (ρ ++ [⟨s.heap.objs.size, s.heap.objs.size, []⟩]) h₂ := (F.step H S₀).step Hs S₂
 have Fc := F₂.comp (on := on) (C := C) hk hnc hfree hown hCnew hCoff hns
 have hC₁ : h₁.get? C = none := none_of_dom (fun b o e => ⟨o, hk₁ b o e⟩) hCn
 have Ia₂ : IterAt (ρ ++ [⟨s.heap.objs.size, s.heap.objs.size, []⟩]) h₂ I g xs := by
  refine Ia.keeps (fun o e => keepD _ _ e) (fun a o vs n e hd hm => ⟨keepD _ _ e, S₂.notMu e hm⟩) S₂.pre
 have hIoff : Off (ρ ++ [⟨s.heap.objs.size, s.heap.objs.size, []⟩]) I := by
  obtain ⟨o, _, e, _⟩ := Ia.dom
  exact (H.off hI).step S₂ e
 have hIC : I ≠ C := by
  obtain ⟨o, _, e, _⟩ := Ia.dom
  exact ne_of_get? hCn e
 have loop : ∀ t, codeAny (model K.prog K.w) A (.compLoop (.ListComp elt [⟨target, iter, ifs, 0⟩] scope pos) 0 (.ref I) (.ref s.heap.objs.size) (compEnvC scope (clo env.cells scope.names []) C env)) (RR (.ref s.heap.objs.size) C) { s with heap := h₂, toks := t } := by
  intro t
  refine codeAny_compLoop_any (TurnI K (compEnvC scope (clo env.cells scope.names []) C env) (Env.bare (compEnvC scope (clo env.cells scope.names []) C env)) (lkC on look) s ρ h₁ I g (compL g hp.length tgt pi pe Q) (List.IsPrefix (ρ ++ [⟨s.heap.objs.size, s.heap.objs.size, []⟩])))
   (fun n s' T => by
    refine comp_turn (ce := compEnvC scope (clo env.cells scope.names []) C env) (lk2 := lkC on look) (pD := ⟨s.heap.objs.size, s.heap.objs.size, []⟩) (i := hp.length) (R := RR (.ref s.heap.objs.size) C) ok (ht (clo env.cells scope.names []) C) (hi (clo env.cells scope.names []) C) (he (clo env.cells scope.names []) C) hI hnI ?_ H.len ?_ n s' T
    ·exact hC₁
    ·intro hp' ρ' h' t l m q e H' hD S hm ho
     exact hRR s.heap.objs.size C hp' ρ' h' t l m q e H' hD S hm hC₁ hCnew ho) xs.length
   ⟨xs, _, _, _, h₂, t, rfl, rfl, q, Fc, H₂, Ia₂, hIoff, (S₀.trans S₂).toS, List.prefix_refl _⟩
 exact codeAny_compStart_list (loop _) (iter_self (s := { s with heap := h₂, toks := _ }) Ia₂ (loop _))
end
section
variable {K : KX} {r : Nat} {env : Env} {look : Str → Option Nat}
theorem comp_done' {m : Bool} {Q : V → List O → Prop} {l : List PyData} {hp hp' : List O} {ρ ρ' : Rho} {s : Shared} {h' : Heap} {D : Addr} (q : compEnd m hp.length Q l hp') (e : hp'[hp.length]? = some (.lst l)) (H' : HRel K ρ' hp' h')
  (hD : ρ'[hp.length]? = some ⟨D, D, []⟩) (S : Step K ρ s.heap ρ' h') (H : HRel K ρ hp s.heap) : ∃ v hp₂ ρ₂, Q v hp₂ ∧ HRel K ρ₂ hp₂ h' ∧ Step K ρ s.heap ρ₂ h' ∧ VR ρ₂ h' v (.ref D) ∧ ρ₂ <+: ρ' := by
 have hl := (List.getElem?_eq_some_iff.mp e).1
 have hlen := H'.len
 have hρ := H.len
 cases m with
 | false =>
  have C := H'.cut S.pre (by lia)
  rw [H.len] at C
  obtain ⟨e1, vs, n, h1, h2⟩ := H'.ob _ _ _ e hD
  refine ⟨.d (.list l), _, ρ, q, C, S.cut, ?_, S.pre⟩
  refine DR.list h1 ?_ (DRs.cut S.pre h2)
  intro hm
  obtain ⟨u, hu⟩ := S.pre
  have nd := H'.nd
  rw [← hu] at nd hD
  simp only [mu, List.map_append] at nd hm
  refine (List.nodup_append.mp nd).2.2 D hm D ?_ rfl
  rw [List.getElem?_append_right (by lia)] at hD
  exact List.mem_map.mpr ⟨_, List.mem_of_getElem? hD, rfl⟩
 | true =>
  have pr : ρ'.take (hp.length + 1) <+: ρ' := List.take_prefix ..
  have ll : (ρ'.take (hp.length + 1)).length = hp.length + 1 := by rw [List.length_take]; lia
  have C := H'.cut pr (by rw [ll]; lia)
  rw [ll] at C
  refine ⟨.r hp.length, _, _, q, C, ⟨?_, fun p hp => S.new p (pr.subset hp), S.keep, S.dom⟩, ⟨⟨D, D, []⟩, ?_, rfl⟩, pr⟩
  ·refine List.prefix_take_iff.mpr ⟨S.pre, ?_⟩
   rw [H.len]; lia
  ·rw [List.getElem?_take, if_pos (Nat.lt_succ_self _)]; exact hD
theorem comp_done {m : Bool} {Q : V → List O → Prop} {l : List PyData} {hp hp' : List O} {ρ ρ' : Rho} {s : Shared} {h' : Heap} {D : Addr} (t : Nat) (q : compEnd m hp.length Q l hp') (e : hp'[hp.length]? = some (.lst l)) (H' : HRel K ρ' hp' h')
  (hD : ρ'[hp.length]? = some ⟨D, D, []⟩) (S : Step K ρ s.heap ρ' h') (H : HRel K ρ hp s.heap) : PostE K ρ s Q (.ref D) { s with heap := h', toks := t } := by
 obtain ⟨v, hp₂, ρ₂, q₂, H₂, S₂, r₂, _⟩ := comp_done' q e H' hD S H
 exact ⟨v, hp₂, ρ₂, h', t, rfl, q₂, H₂, S₂, r₂⟩
theorem Step.skipC {ρ ρ' : Rho} {h h₁ h₂ : Heap} {C : Addr} (S : Step K ρ h ρ' h₁) (hi : h.get? C = none) (hs : Heap.SameBut C h₁ h₂) : Step K ρ h ρ' h₂ := S.skip hi hs.extBut
theorem ns_nonseq {h : Heap} {C : Addr} {m : Str → Option Value} (n : h.Ns C m) : ∀ o, h.get? C = some o → ∀ vs k, o.data ≠ .seq vs k := by
 obtain ⟨o', es, ep, e', d, _⟩ := n
 intro o e vs k q
 rw [e] at e'; cases e'; rw [d] at q; cases q
theorem e_comp {elt target iter : Expr} {ifs : List Expr} {scope : Scope} {pos : Pos} (on : List Str) {m : Bool} {tgt : XT} {it : XE} {pi : XB} {pe : XE}
  (hit : SoundE K r env look iter it)
  (ht : ∀ cl C, SoundTL K r (compEnvC scope cl C env) (lkC on look) target tgt) (hi : ∀ cl C, SoundI K r (compEnvC scope cl C env) (lkC on look) ifs pi) (he : ∀ cl C, SoundE K r (compEnvC scope cl C env) (lkC on look) elt pe)
  (hk : scope.kind = .function) (hnc : ∀ x ∈ scope.names, x.2 ≠ .cell) (hfree : ∀ x ∈ scope.names, x.2 = .free → (env.kindOf x.1 = some .cell ∨ env.kindOf x.1 = some .free) ∧ lk on x.1 = none)
  (hown : ∀ x ∈ scope.names, x.2 = .local → lk on x.1 = none → look x.1 = none) (hnames : ∀ x ∈ scope.names, x.2 = .local → scope.names.lookup x.1 = some .local)
  (hs : ∀ x, foldedSetIterable iter env x = pure x) :
  SoundE K r env look (.ListComp elt [⟨target, iter, ifs, 0⟩] scope pos) (xComp m on.length tgt it pi pe) := by
 intro A ok vs Q hp ρ s E q F H
 rw [eval_ListComp]
 have hsome : ∀ x ∈ scope.names, x.2 = .free → (env.cells.lookup x.1).isSome = true := by
  intro x hx hf
  obtain ⟨c, _, _, a1, _⟩ := F.cl x.1 (hfree x hx hf).1
  simp [a1]
 refine wpAny_comprehension_free (use := none) rfl hs (closureFor_clo hsome) hk hnames (hit.then ok q F H ?_)
 intro v hp₁ ρ₁ h₁ t₁ rv q₁ H₁ S₁ r₁ F₁
 refine wpAny_mono (iter_start (s := { s with heap := h₁, toks := t₁ }) q₁ r₁ H₁) ?_ (fun _ _ x => x)
 rintro _ s' ⟨I, g, xs, h₂, rfl, rfl, q₂, hg, Ia, hI, hk₂⟩
 refine comp_core (s := { s with heap := h₂, toks := t₁ }) (RR := fun acc C => compPost (model K.prog K.w) A E none (PostE K ρ s Q) acc C) ok hk hnc hfree hown ht hi he q₂ F₁ H₁ hk₂ hI Ia ?_
 intro D C hp' ρ' h' t l mm ql el H' hD S' hn hC hCn hCo
 refine ⟨mm, hn, fun h'' hs'' => ?_⟩
 have H'' : HRel K ρ' hp' h'' := H'.other hCn hCo hs''.extBut (ns_nonseq hn)
 exact PostE.after S₁ (comp_done (s := { s with heap := h₁, toks := t₁ }) t ql el H'' hD (S'.skipC hC hs'') H₁)
end
structure KF (K : KX) (Kf : W.Frag) : Prop where
 inn : Kf.In K.h0
 ntb : ∀ a o, Kf.lookup a = some o → a ≠ K.tb
theorem KF.now {K : KX} {Kf : W.Frag} {ρ : Rho} {hp : List O} {h : Heap} (X : KF K Kf) (H : HRel K ρ hp h) : Kf.In h := fun a o e => H.keep a o (X.inn a o e) (X.ntb a o e)
theorem lookIn_ns {h : Heap} {a : Addr} {m : Str → Option Value} (n : h.Ns1 a m) {o : Obj} (e : h.get? a = some o) (name : Str) : W.lookIn name o = some (m name) := by
 obtain ⟨o', es, ep, e', hd, hk, hu, hm⟩ := n
 rw [e] at e'; cases e'
 unfold W.lookIn
 rw [hd, ← hm name]
 simp only [nsFind, findBy]
 rw [← Array.find?_toList]
 cases hf : es.toList.find? (fun e => e.key.isStr name) with
 | some en => rfl
 | none =>
  have hany : es.toList.any (·.refKey) = false := by
   rw [List.any_eq_false]
   intro x hx
   obtain ⟨n, t, hh⟩ := hk x (by simpa using hx)
   simp [DictEntry.refKey, hh]
  simp [hany]
section
variable {K : KX} {r : Nat} {env : Env} {look : Str → Option Nat} {ρ : Rho} {hp : List O} {Kf : W.Frag}
noncomputable def SoundK (K : KX) (r : Nat) (env : Env) (look : Str → Option Nat) (kws : List Keyword) (p : XL) : Prop :=
 ∀ A, OkA r A → ∀ pos vs Q hp ρ s E, p vs Q hp → FRel K env look vs ρ s.heap → HRel K ρ hp s.heap →
  wpAny (model K.prog K.w) A (evalAll ((backToKw pos (keywordEach kws env)).map (·.2))) (fun rvs s' => rvs.length = kws.length ∧ PostL K ρ s Q rvs s') E s
theorem k_nil : SoundK K r env look [] lNil := fun A ok pos vs Q hp ρ s E q F H => wpAny_evalAll_nil ⟨rfl, _, hp, ρ, s.heap, s.toks, rfl, q, H, Step.refl .., .nil⟩
theorem k_cons {n : Option Str} {e : Expr} {kp : Pos} {kws : List Keyword} {a : XE} {p : XL} (ha : SoundE K r env look e a) (hp : SoundK K r env look kws p) : SoundK K r env look (⟨n, e, kp⟩ :: kws) (lCons a p) := by
 intro A ok pos vs Q hp' ρ s E q F H
 show wpAny _ A (do let v ← (do let v ← eval e env; standAt pos; pure v); return v :: (← holding [v] (evalAll ((backToKw pos (keywordEach kws env)).map (·.2))))) _ E s
 refine wpAny_bind (wpAny_bind (ha.then ok q F H ?_))
 intro va hp₁ ρ₁ h₁ t₁ ra q₁ H₁ S₁ r₁ F₁
 refine wpAny_bind (wpAny_standAt (wpAny_pure (wpAny_bind (wpAny_holding (wpAny_mono (hp A ok pos vs _ hp₁ ρ₁ { s with heap := h₁, toks := t₁ } E q₁ F₁ H₁) ?_ (fun _ _ x => x))))))
 rintro rvs s' ⟨hlen, l, hp₂, ρ₂, h₂, t₂, rfl, q₂, H₂, S₂, r₂⟩
 exact wpAny_pure ⟨by simp [hlen], va :: l, hp₂, ρ₂, h₂, t₂, rfl, q₂, H₂, S₁.trans S₂, .cons (r₁.step S₂ H₁) r₂⟩
noncomputable def knOf (kws : List Keyword) : List Str := kws.filterMap fun k => match k with | ⟨n, _, _⟩ => n
theorem knOf_eq (pos : Pos) (kws : List Keyword) : (backToKw pos (keywordEach kws env)).filterMap (·.1) = knOf kws := by
 induction kws with
 | nil => rfl
 | cons k kws ih =>
  obtain ⟨n, e, p⟩ := k
  show ((n, _) :: backToKw pos (keywordEach kws env)).filterMap (·.1) = _
  unfold knOf
  cases n with
  | none => simpa [List.filterMap_cons, knOf] using ih
  | some n => simpa [List.filterMap_cons, knOf] using ih
theorem knOf_len {kws : List Keyword} (pos : Pos) (h : (backToKw pos (keywordEach kws env)).all (·.1.isSome) = true) : (knOf kws).length = kws.length := by
 induction kws with
 | nil => rfl
 | cons k kws ih =>
  obtain ⟨n, e, p⟩ := k
  have h' : (((n, _) :: backToKw pos (keywordEach kws env)).all (·.1.isSome)) = true := h
  simp only [List.all_cons, Bool.and_eq_true] at h'
  cases n with
  | none => cases h'.1
  | some n =>
   have := ih h'.2
   simp only [knOf] at this ⊢
   simp [List.filterMap_cons, this]
theorem eval_args {A : Around} (ok : OkA r A) {f : Value} {args : List Expr} {kws : List Keyword} {pos : Pos} {l k : XL} {vs : List (Option V)} {Q : List V → List O → Prop} {s : Shared} {E : Value → Shared → Prop}
  (hl : SoundL K r env look args l) (hk : SoundK K r env look kws k) (hb : (backTo pos (starEach args env)).any (·.1) = false) (hkn : (backToKw pos (keywordEach kws env)).all (·.1.isSome) = true)
  (q : l vs (fun vas => k vs fun kas => Q (vas ++ kas)) hp) (F : FRel K env look vs ρ s.heap) (H : HRel K ρ hp s.heap) :
  wpAny (model K.prog K.w) A (evalArgs f true (backTo pos (starEach args env)) (backToKw pos (keywordEach kws env)))
   (fun x s' => ∃ ks vas hp' ρ' h' t, x.kw = (knOf kws).zip ks ∧ ks.length = (knOf kws).length ∧ s' = { s with heap := h', toks := t } ∧ Q vas hp' ∧ HRel K ρ' hp' h' ∧ Step K ρ s.heap ρ' h' ∧ VRs ρ' h' vas (x.pos ++ ks)) E s := by
 have second : ∀ rvs s', PostL K ρ s (fun vas => k vs fun kas => Q (vas ++ kas)) rvs s' → wpAny (model K.prog K.w) A (evalAll ((backToKw pos (keywordEach kws env)).map (·.2)))
   (fun ks s₂ => ∃ vas hp' ρ' h' t, (knOf kws).zip ks = (knOf kws).zip ks ∧ ks.length = (knOf kws).length ∧ s₂ = { s with heap := h', toks := t } ∧ Q vas hp' ∧ HRel K ρ' hp' h' ∧ Step K ρ s.heap ρ' h' ∧ VRs ρ' h' vas (rvs ++ ks)) E s' := by
  rintro rvs s' ⟨vas, hp₁, ρ₁, h₁, t₁, rfl, q₁, H₁, S₁, r₁⟩
  refine wpAny_mono (hk A ok pos vs _ hp₁ ρ₁ { s with heap := h₁, toks := t₁ } E q₁ (F.step H S₁) H₁) ?_ (fun _ _ x => x)
  rintro ks s₂ ⟨hlen, kas, hp₂, ρ₂, h₂, t₂, rfl, q₂, H₂, S₂, r₂⟩
  exact ⟨vas ++ kas, hp₂, ρ₂, h₂, t₂, rfl, by rw [knOf_len pos hkn, hlen], rfl, q₂, H₂, S₁.trans S₂, (r₁.step S₂ H₁).append r₂⟩
 have base := hl A ok pos vs _ hp ρ s E q F H
 revert base hb
 generalize backTo pos (starEach args env) = T
 intro hb base
 cases T with
 | nil =>
  refine evalArgs_kw_nil hkn (fun Γ p hΓ => ?_)
  have := (wpAny_mono base second (fun _ _ x => x)) Γ p hΓ Γ p hΓ
  rw [knOf_eq]
  refine Sem.wp_mono _ _ _ ?_ (fun _ _ _ x => x) _ _ this
  rintro ks p' s' ⟨vas, hp', ρ', h', t, x⟩
  exact ⟨ks, vas, hp', ρ', h', t, x⟩
 | cons x rest =>
  obtain ⟨b, t⟩ := x
  simp only [List.any_cons, Bool.or_eq_false_iff] at hb
  obtain ⟨rfl, _⟩ := hb
  refine evalArgs_kw hkn (wpAny_mono base ?_ (fun _ _ x => x))
  intro rvs s' x
  refine wpAny_mono (second rvs s' x) ?_ (fun _ _ x => x)
  rintro ks s₂ ⟨vas, hp', ρ', h', t, x⟩
  rw [knOf_eq]
  exact ⟨ks, vas, hp', ρ', h', t, x⟩
noncomputable def atI (v : V) (hp : List O) (C : Addr) (k : Nat → List (Nat × V) → Prop) : Prop := match v with
 | .r i => match hp[i]? with | some (.inst c fs) => c = C ∧ k i fs | _ => False
 | _ => False
inductive AtI (K : KX) (ρ : Rho) (hp : List O) (h : Heap) (v : V) (rv : Value) (C : Addr) (k : Nat → List (Nat × V) → Prop) : Prop
 | mk (i : Nat) (p : P) (fs : List (Nat × V)) (ox od : Obj) (m : Str → Option Value) (e1 : v = .r i) (e2 : rv = .ref p.a) (q : k i fs) (e3 : hp[i]? = some (.inst C fs)) (e4 : ρ[i]? = some p) (e5 : W.InstAt h p.a ox C (some od)) (e6 : ox.dict = some p.m)
   (e7 : h.get? p.m = some od) (e8 : h.Ns1 p.m m)
   (e9 : ∀ k x, K.attrs[k]? = some x → match fs.lookup k with
    | some v => Held ρ h (m x) v ∧ (∀ j, v = .r j → j < i) ∧ isField v
    | none => m x = none) (e10 : ∀ x, x ∉ K.attrs → m x = none)
theorem atI_rel {h : Heap} {v : V} {rv : Value} {C : Addr} {k : Nat → List (Nat × V) → Prop} (q : atI v hp C k) (H : HRel K ρ hp h) (hv : VR ρ h v rv) :
  AtI K ρ hp h v rv C k := by
 unfold atI at q
 split at q
 ·rename_i i
  obtain ⟨p, ep, rfl⟩ := hv
  split at q
  ·rename_i c fs e
   obtain ⟨rfl, q⟩ := q
   obtain ⟨o, od, m, h1, h2, h3, h4, h5, h7, h8, h9, h10, h11⟩ := H.at e ep
   refine ⟨i, p, fs, o, od, m, rfl, rfl, q, e, ep, ⟨h1, h2, by unfold W.notCls; rw [h4], ?_⟩, h3, h7, h9, h10, h11⟩
   rw [h3]; exact h7
  ·exact q.elim
 ·exact q.elim
theorem handed_VR {h : Heap} {v : V} {rv : Value} (hv : VR ρ h v rv) : W.handedIn rv = true := by
 cases v with
 | d x => cases hv <;> rfl
 | r i => obtain ⟨p, _, rfl⟩ := hv; rfl
 | rng a b c => obtain ⟨q, _, _, _, rfl, _⟩ := hv; rfl
 | g v => obtain ⟨rfl, h⟩ := hv; cases rv <;> first | rfl | exact h.elim
noncomputable def getF (C : Addr) (k : Nat) (v : V) (Q : V → List O → Prop) (hp : List O) : Prop := atI v hp C fun _ fs => match fs.lookup k with | some w => Q w hp | none => False
theorem get_field (X : KF K Kf) {C : Addr} {k : Nat} {x : Str} {attr : Option Value} {expr : Bool} (hx : K.attrs[k]? = some x) (hg : W.plainGet Kf C x = true) (hh : W.hasDictIn Kf C = true) (ha : W.findIn Kf (.ref C) x = some attr) (hn : W.noGet Kf attr = true) :
  Sound1 K r (fun v => getAttr v x expr) (getF C k) := by
 intro A ok ρ hp s va ra Q E q H hv
 obtain ⟨i, p, fs, ox, od, m, rfl, rfl, qq, e, ep, I, hd, ho, n, hf, _⟩ := atI_rel q H hv
 have hf := hf k x hx
 clear q
 split at qq
 ·rename_i w hw
  rw [hw] at hf
  obtain ⟨⟨rv, hm, hr⟩, _⟩ := hf
  refine W.get_value (X.now H) I (W.plainGet_of hg).1 (W.findObj_own hh ha hn (by rw [lookIn_ns n ho, hm])) (handed_VR hr) ?_
  exact PostE.pure _ qq H hr
 ·exact qq.elim
end
section
variable {K : KX} {r : Nat} {env : Env} {look : Str → Option Nat} {ρ : Rho} {hp : List O} {Kf : W.Frag}
noncomputable def xUn (f : V → (V → List O → Prop) → List O → Prop) (a : XE) : XE := fun vs Q => a vs fun v => f v Q
theorem e_attr {value : Expr} {attr : Str} {pos : Pos} {f : V → (V → List O → Prop) → List O → Prop} {a : XE} (hf : Sound1 K r (fun v => getAttr v attr true) f) (ha : SoundE K r env look value a)
  (he : eval (.Attribute value attr pos) env = (do
   let o ← eval value env
   standAt pos.atName
   let r ← holding [o] (getAttr o attr true)
   letTemporaryGo value o r
   pure r)) (hg : ∀ o r, letTemporaryGo value o r = pure ()) : SoundE K r env look (.Attribute value attr pos) (xUn f a) := by
 intro A ok vs Q hp ρ s E q F H
 rw [he]
 refine wpAny_bind (ha.then ok q F H ?_)
 intro va hp₁ ρ₁ h₁ t₁ ra q₁ H₁ S₁ r₁ F₁
 refine wpAny_bind (wpAny_standAt (wpAny_bind (wpAny_holding (wpAny_mono (hf A ok ρ₁ hp₁ { s with heap := h₁, toks := t₁ } va ra Q E q₁ H₁ r₁) ?_ (fun _ _ x => x)))))
 intro rv s' p
 rw [hg]
 exact wpAny_bind (wpAny_pure (wpAny_pure (PostE.after S₁ p)))
noncomputable def putFs (k : Nat) (w : V) (fs : List (Nat × V)) : List (Nat × V) := (k, w) :: fs.filter (fun x => x.1 != k)
theorem putFs_look (k j : Nat) (w : V) (fs : List (Nat × V)) : (putFs k w fs).lookup j = if j = k then some w else fs.lookup j := by
 unfold putFs
 rw [List.lookup_cons]
 by_cases h : j = k
 ·subst h; simp
 ·have hb : (j == k) = false := by simpa using h
  rw [hb, if_neg h]
  simp only
  induction fs with
  | nil => rfl
  | cons x fs ih =>
   obtain ⟨n, v⟩ := x
   rw [List.filter_cons]
   split
   ·rw [List.lookup_cons, List.lookup_cons, ih]
   ·rename_i hn
    have : n = k := by simpa using hn
    subst this
    rw [List.lookup_cons, hb, ih]
noncomputable def setF (C : Addr) (k : Nat) (v w : V) (Q : List O → Prop) (hp : List O) : Prop := atI v hp C fun i fs => ((match w with | .r j => j < i | .rng .. => False | .g _ => False | _ => True) : Prop) ∧ Q (hp.set i (.inst C (putFs k w fs)))
inductive SetW (K : KX) (ρ : Rho) (Q : List O → Prop) (s s' : Shared) : Prop
 | mk (hp' : List O) (h' : Heap) (t : Tok) : s' = { s with heap := h', toks := t } → Q hp' → HRel K ρ hp' h' → Step K ρ s.heap ρ h' → SetW K ρ Q s s'
theorem set_field (X : KF K Kf) {C : Addr} {k : Nat} {x : Str} (hx : K.attrs[k]? = some x) (huniq : ∀ j, K.attrs[j]? = some x → j = k) (hl : K.attrs.length ≤ 1000) (hs : W.findIn Kf (.ref C) "__setattr__" = some (some (.builtin "object.__setattr__")))
  (hov : W.plainOver Kf C = true) (ht : W.takerIn Kf C x = some none) (hh : W.hasDictIn Kf C = true) {A : Around} {ρ : Rho} {hp : List O} {s : Shared} {v w : V} {rv rw' : Value} {Q : List O → Prop} {E : Value → Shared → Prop}
  (q : setF C k v w Q hp) (H : HRel K ρ hp s.heap) (hv : VR ρ s.heap v rv) (hw : VR ρ s.heap w rw') :
  wpAny (model K.prog K.w) A (setAttr rv x rw') (fun _ => SetW K ρ Q s) E s := by
 obtain ⟨i, p, fs, ox, od, m, rfl, rfl, qq, e, ep, I, hd, ho, n, hf, hout⟩ := atI_rel q H hv
 clear q
 have q := qq
 clear qq
 obtain ⟨hlow, q⟩ := q
 have hpm := List.mem_of_getElem? ep
 obtain ⟨oo, oo', mm, g1, g2, g3, g4, g5, g7, g8, g9, g10, g11⟩ := H.at e ep
 refine W.set_plain (X.now H) I hs (W.osa_open (s := { s with toks := s.toks + 1 }) (X.now H) I hov ht fun b => ?_)
 obtain ⟨cd, hc, hd'⟩ := W.any_some hh
 obtain ⟨hxo, hcl, hn, -⟩ := I
 obtain ⟨oc, odi, oda, osl⟩ := ox
 dsimp only at hcl hd
 subst hcl hd
 refine wpAny_bind (wpAny_pure (wpAny_bind (wpAny_bind (wpAny_loadPart hxo (wpAny_bind (W.Looks.here (s := { s with toks := s.toks + 1 }) (W.looks_clsIn (X.now H) hc) ?_))))))
 rw [hd']
 refine wpAny_pure (a := some p.m) (wpAny_bind (wpAny_pure (wpAny_bind ?_)))
 refine wpAny_nsSet1EFk (s := { s with toks := s.toks + 1 }) n fun h' n' hsb hcls => ?_
 have hwn : Within (fun y => if y = x then some rw' else m y) K.attrs := by
  intro y hy
  apply Classical.byContradiction
  intro hn'
  apply hy
  have : y ≠ x := by rintro rfl; exact hn' (List.mem_of_getElem? hx)
  simp [this, hout y hn']
 obtain ⟨o₂, es₂, ep₂, e₂, d₂, z₂⟩ := n'.count hwn
 refine wpAny_bind (wpAny_lookBehind e₂ (by rw [d₂]; exact pastItsLine_dict (by rw [sizeLine_eq]; omega)) ?_)
 refine wpAny_pure ?_
 have S : Step K ρ s.heap ρ h' := Step.own hpm hsb ⟨_, e₂⟩
 obtain ⟨od', e3, c3, _⟩ := hcls od ho
 have hox : h'.get? p.a = some ⟨.ref C, some p.m, oda, osl⟩ := by
  have hne : p.a ≠ p.m := by
   intro z
   have := (H.fx p hpm p.a g5).1
   exact this (z ▸ List.mem_map.mpr ⟨p, hpm, rfl⟩)
  exact (hsb.2 _ hne).trans hxo
 refine ⟨hp.set i (.inst C (putFs k w fs)), h', _, rfl, q, ?_, S⟩
 refine H.own ep (List.getElem?_eq_some_iff.mp e).1 hsb ?_ ⟨_, e₂⟩
 rw [g1] at hxo; cases hxo
 rw [g7] at ho; cases ho
 refine ⟨_, od', _, hox, rfl, rfl, g4, g5, e3, by rw [c3]; exact g8, n', ?_, ?_⟩
 ·intro j y hy
  rw [putFs_look]
  by_cases hj : j = k
  ·subst hj
   rw [if_pos rfl]
   rw [hx] at hy; cases hy
   refine ⟨⟨rw', by simp, hw.step S H⟩, ?_, ?_⟩
   ·rintro j rfl; exact hlow
   ·cases w with
    | rng => exact hlow.elim
    | g => exact hlow.elim
    | _ => trivial
  ·rw [if_neg hj]
   have hyx : y ≠ x := by rintro rfl; exact hj (huniq j hy)
   have := hf j y hy
   revert this
   cases fs.lookup j with
   | none => intro z; simp [hyx, z]
   | some u => rintro ⟨⟨ru, z1, z2⟩, z3, z4⟩; exact ⟨⟨ru, by simp [hyx, z1], z2.step S H⟩, z3, z4⟩
 ·intro y hy
  have hyx : y ≠ x := by rintro rfl; exact hy (List.mem_of_getElem? hx)
  simp [hyx, hout y hy]
end
section
variable {K : KX} {r : Nat} {env : Env} {look : Str → Option Nat} {ρ : Rho} {hp : List O} {Kf : W.Frag}
noncomputable def SoundSet (K : KX) (x : Str) (p : V → V → (List O → Prop) → List O → Prop) : Prop :=
 ∀ A ρ hp s v w rv rw' Q E, p v w Q hp → HRel K ρ hp s.heap → VR ρ s.heap v rv → VR ρ s.heap w rw' →
  wpAny (model K.prog K.w) A (setAttr rv x rw') (fun _ => SetW K ρ Q s) E s
noncomputable def sSetF (p : V → V → (List O → Prop) → List O → Prop) (o value : XE) : XS := fun vs Q => value vs fun w => o vs fun v => p v w fun hp => Q .next vs hp
theorem s_setf {x : Str} {p : V → V → (List O → Prop) → List O → Prop} {o value : Expr} {pos' pos : Pos} {a b : XE} (hp : SoundSet K x p) (ha : SoundE K r env look o a) (hb : SoundE K r env look value b)
  (hs : swapsWith value (some (.Attribute o x pos')) pos.line env = pure false) : SoundS K r env look (.Assign [.Attribute o x pos'] value pos) (sSetF p a b) := by
 intro A ok vs Q hp' ρ s E q F H
 refine plainObj_wpAny_Assign_Attribute (hb.then ok q F H ?_) hs
 intro w hp₁ ρ₁ h₁ t₁ rw' q₁ H₁ S₁ r₁ F₁
 refine ha.then ok (s := { s with heap := h₁, toks := t₁ }) q₁ F₁ H₁ ?_
 intro v hp₂ ρ₂ h₂ t₂ rv q₂ H₂ S₂ r₂ F₂
 refine wpAny_mono (hp A ρ₂ hp₂ { s with heap := h₂, toks := t₂ } v w rv rw' _ E q₂ H₂ r₂ (r₁.step S₂ H₁)) ?_ (fun _ _ x => x)
 rintro _ s' ⟨hp₃, h₃, t₃, rfl, q₃, H₃, S₃⟩
 exact ⟨.next, vs, hp₃, ρ₂, h₃, t₃, rfl, q₃, F₂.step H₂ S₃, H₃, ((S₁.trans S₂).trans S₃).toS, trivial⟩
noncomputable def sAugF (g : V → (V → List O → Prop) → List O → Prop) (op : V → V → (V → List O → Prop) → List O → Prop) (p : V → V → (List O → Prop) → List O → Prop) (o value : XE) : XS :=
 fun vs Q => o vs fun v => g v fun old => value vs fun w => op old w fun new => p v new fun hp => Q .next vs hp
theorem s_augf {x : Str} {g : V → (V → List O → Prop) → List O → Prop} {op : V → V → (V → List O → Prop) → List O → Prop} {oper : Operator} {p : V → V → (List O → Prop) → List O → Prop} {o value : Expr} {pos' pos : Pos} {a b : XE}
  (hg : Sound1 K r (fun v => getAttr v x true) g) (hop : Sound2 K r (inplaceOp oper) op) (hp : SoundSet K x p) (ha : SoundE K r env look o a) (hb : SoundE K r env look value b) :
  SoundS K r env look (.AugAssign (.Attribute o x pos') oper value pos) (sAugF g op p a b) := by
 intro A ok vs Q hp' ρ s E q F H
 refine wpAny_AugAssign_AttributeAny (ha.then ok q F H ?_)
 intro v hp₁ ρ₁ h₁ t₁ rv q₁ H₁ S₁ r₁ F₁
 refine wpAny_mono (hg A ok ρ₁ hp₁ { s with heap := h₁, toks := t₁ } v rv _ E q₁ H₁ r₁) ?_ (fun _ _ x => x)
 rintro ro s' ⟨old, hp₂, ρ₂, h₂, t₂, rfl, q₂, H₂, S₂, r₂⟩
 have F₂ := F₁.step H₁ S₂
 refine hb.then ok (s := { s with heap := h₂, toks := t₂ }) q₂ F₂ H₂ ?_
 intro w hp₃ ρ₃ h₃ t₃ rw' q₃ H₃ S₃ r₃ F₃
 refine wpAny_mono (hop A ok ρ₃ hp₃ { s with heap := h₃, toks := t₃ } old w ro rw' _ E q₃ H₃ (r₂.step S₃ H₂) r₃) ?_ (fun _ _ x => x)
 rintro rn s' ⟨new, hp₄, ρ₄, h₄, t₄, rfl, q₄, H₄, S₄, r₄⟩
 refine wpAny_mono (hp A ρ₄ hp₄ { s with heap := h₄, toks := t₄ } v new rv rn _ E q₄ H₄ (((r₁.step S₂ H₁).step S₃ H₂).step S₄ H₃) r₄) ?_ (fun _ _ x => x)
 rintro _ s' ⟨hp₅, h₅, t₅, rfl, q₅, H₅, S₅⟩
 exact ⟨.next, vs, hp₅, ρ₄, h₅, t₅, rfl, q₅, (F₃.step H₃ S₄).step H₄ S₅, H₅, ((((S₁.trans S₂).trans S₃).trans S₄).trans S₅).toS, trivial⟩
theorem set_fieldS (X : KF K Kf) {C : Addr} {k : Nat} {x : Str} (hx : K.attrs[k]? = some x) (huniq : ∀ j, K.attrs[j]? = some x → j = k) (hl : K.attrs.length ≤ 1000) (hs : W.findIn Kf (.ref C) "__setattr__" = some (some (.builtin "object.__setattr__")))
  (hov : W.plainOver Kf C = true) (ht : W.takerIn Kf C x = some none) (hh : W.hasDictIn Kf C = true) : SoundSet K x (setF C k) :=
 fun A ρ hp s v w rv rw' Q E q H hv hw => set_field X hx huniq hl hs hov ht hh q H hv hw
noncomputable def xMeth (C : Addr) (F : FT) (a : XE) (l k : XL) : XE := fun vs Q => a vs fun v hp => (atI v hp C fun _ _ => True) ∧ l vs (fun vas => k vs fun kas => F (v :: (vas ++ kas)) Q) hp
theorem e_meth (X : KF K Kf) {C f : Addr} {fd : FuncData} {body : List Stmt} {o : Expr} {name : Str} {args : List Expr} {kws : List Keyword} {apos pos : Pos} {F : FT} {a : XE} {l k : XL}
  (hF : SoundF K r (.ref f) (knOf kws) F) (Y : FnAt K f fd body) (ho : SoundE K r env look o a) (hl : SoundL K r env look args l) (hk : SoundK K r env look kws k)
  (hg : W.plainGet Kf C name = true) (hf : W.findIn Kf (.ref C) name = some (some (.ref f))) (ht : W.typeIn Kf (.ref f) = some (.type "function")) (hn : name ∉ K.attrs)
  (hbase : attributeBase o name env (eval o env) = eval o env) (hb : (backTo pos (starEach args env)).any (·.1) = false) (hkn : (backToKw pos (keywordEach kws env)).all (·.1.isSome) = true)
  (hform : methodCallForm (args.length + kws.length) (backTo pos (starEach args env)) (backToKw pos (keywordEach kws env)) = true) (hline : (apos.endLine == pos.line) = true) :
  SoundE K r env look (.Call (.Attribute o name apos) args kws pos) (xMeth C F a l k) := by
 intro A ok vs Q hp ρ s E q FR H
 rw [arm_eval_Call, hbase]
 refine wpAny_bind (ho.then ok q FR H ?_)
 intro v hp₁ ρ₁ h₁ t₁ rv q₁ H₁ S₁ r₁ F₁
 refine wpAny_bind (wpAny_standAt ?_)
 have hpos : methodCallPos true o env apos pos = pure pos := by unfold methodCallPos; simp [hline]
 unfold methodCall
 rw [hform]
 obtain ⟨i, p, fs, ox, od, m, rfl, rfl, _, e, ep, I, hd, hod, n, hfld, hout⟩ := atI_rel q₁.1 H₁ r₁
 refine wpAny_bind (wpAny_holding (W.method_fn (s := { s with heap := h₁, toks := t₁ }) (X.now H₁) I (W.plainGet_of hg).1 (W.plainGet_of hg).2 hf ht ?_ ?_))
 ·unfold W.shadowIn
  simp only
  rw [lookIn_ns n hod, hout name hn]; rfl
 refine wpAny_bind (wpAny_of_eq hpos ?_)
 obtain ⟨of, hof, hdf⟩ := Y.ob
 refine callWith_function_kw (o := of) (fd := fd) ?_
 refine wpAny_mono (eval_args (s := { s with heap := h₁, toks := t₁ }) (Q := fun l => F (V.r i :: l) Q) ok hl hk hb hkn q₁.2 F₁ H₁) ?_ (fun _ _ x => x)
 rintro x s' ⟨ks, vas, hp₂, ρ₂, h₂, t₂, hkw, hlen, rfl, q₂, H₂, S₂, r₂⟩
 refine ⟨⟨H₂.keep _ _ hof Y.tb, hdf⟩, ?_⟩
 rw [hkw]
 have r₁' : VR ρ₂ h₂ (.r i) (.ref p.a) := r₁.step S₂ H₁
 exact wpAny_mono (hF.call A ok ρ₂ hp₂ { s with heap := h₂, toks := t₂ } _ ([.ref p.a] ++ x.pos) ks Q E hlen q₂ H₂ (by rw [List.append_assoc]; exact .cons r₁' r₂)) (fun _ _ z => PostE.after (S₁.trans S₂) z) (fun _ _ z => z)
end
section
variable {K : KX} {mg mb : Str → Option Value} {r : Nat} {env : Env} {look : Str → Option Nat} {ρ : Rho} {hp : List O} {Kf : W.Frag}
noncomputable def xG (v : Value) : XE := fun _ Q => Q (.g v)
theorem e_glob (G : KG K mg mb) {f : Str} {a : Addr} {p : Pos} (hk : env.kindOf f = some .globalImplicit) (hg : mg f = some (.ref a)) (hd : (f == ("__debug__" : Str)) = false) : SoundE K r env look (.Name f p) (xG (.ref a)) := by
 intro A ok vs Q hp ρ s E q FR H
 refine Calls.Name_function_global FR.kd hk (Calls.loadGlobal_global (mg := mg) ?_ hg (PostE.pure0 q H ⟨rfl, trivial⟩)) hd
 rw [FR.gl]; exact H.nsOf G.g G.g'
theorem e_tname (G : KG K mg mb) {f : Str} {T : String} {p : Pos} (hk : env.kindOf f = some .globalImplicit) (hg : mg f = none) (hm : mb f = some (.type T)) (hd : (f == ("__debug__" : Str)) = false) : SoundE K r env look (.Name f p) (xG (.type T)) := by
 intro A ok vs Q hp ρ s E q FR H
 refine Calls.Name_function_global FR.kd hk (Calls.loadGlobal_builtin (mg := mg) (mb := mb) ?_ hg ?_ hm (PostE.pure0 q H ⟨rfl, trivial⟩)) hd
 ·rw [FR.gl]; exact H.nsOf G.g G.g'
 ·rw [FR.bi]; exact H.nsOf G.b G.b'
noncomputable def tyOf : PyData → Option String
 | .str _ => some "str"
 | .list _ => some "list"
 | _ => none
noncomputable def fType : FT := fun vas Q hp => match vas with
 | [v] => match dget v hp with | some x => (match tyOf x with | some T => Q (.g (.type T)) hp | none => False) | none => False
 | _ => False
theorem f_type : SoundV K r (.type "type") fType := by
 intro A ok ρ hp s vas ras Q E q H R
 cases R with
 | nil => exact q.elim
 | cons a b => cases b with
  | cons => exact q.elim
  | nil =>
   rename_i v rv
   have fin : ∀ T, s.TypeIs rv T → (T = "str" ∨ T = "list") → Q (.g (.type T)) hp → wpAny (model K.prog K.w) A (call (.type "type") [rv]) (PostE K ρ s Q) E s := by
    intro T key h q
    refine call_type_of key ?_ (PostE.pure0 q H ⟨rfl, trivial⟩)
    rcases h with rfl | rfl <;> decide
   cases v with
   | d y => cases y with
    | str => cases a; exact fin _ (typeIs_str _ _ _) (.inl rfl) q
    | list => cases a with | list h1 => exact fin _ ⟨_, h1, rfl⟩ (.inr rfl) q
    | _ => exact q.elim
   | r i =>
    obtain ⟨p, ep, rfl⟩ := a
    cases e : dget (.r i) hp with
    | none => change (match dget (.r i) hp with | some x => _ | none => False) at q; rw [e] at q; exact q.elim
    | some x =>
     obtain ⟨l, hl, rfl⟩ := dget_r e
     obtain ⟨ha, vs, n, hL, _⟩ := H.at hl ep
     change (match dget (.r i) hp with | some x => _ | none => False) at q
     rw [e] at q
     exact fin "list" ⟨_, ha ▸ hL, rfl⟩ (.inr rfl) q
   | _ => exact q.elim
noncomputable def tyV : V → Option String | .g (.type T) => some T | _ => none
theorem tyV_inv {v : V} {T : String} (h : tyV v = some T) : v = .g (.type T) := by
 cases v with
 | g w => cases w <;> cases h <;> rfl
 | _ => cases h
noncomputable def opIsT (neg : Bool) : Op2 := fun va vb Q hp => match tyV va with | some T => (match tyV vb with | some U => Q (.d (.bool (if neg then !(Value.type T == Value.type U) else (Value.type T == Value.type U)))) hp | none => False) | none => False
theorem isT_inv {neg : Bool} {va vb : V} {Q : V → List O → Prop} {hp : List O} (q : opIsT neg va vb Q hp) : ∃ T U, va = .g (.type T) ∧ vb = .g (.type U) ∧ Q (.d (.bool (if neg then !(Value.type T == Value.type U) else (Value.type T == Value.type U)))) hp := by
 unfold opIsT at q
 cases e1 : tyV va with
 | none => rw [e1] at q; exact q.elim
 | some T => cases e2 : tyV vb with
  | none => rw [e1, e2] at q; exact q.elim
  | some U => rw [e1, e2] at q; exact ⟨T, U, tyV_inv e1, tyV_inv e2, q⟩
theorem s_isT : Sound2 K r (compareOp .Is) (opIsT false) := by
 intro A ok ρ hp s va vb ra rb Q E q H ha hb
 obtain ⟨T, U, rfl, rfl, q⟩ := isT_inv q
 ·obtain ⟨rfl, _⟩ := ha
  obtain ⟨rfl, _⟩ := hb
  exact wpAny_is_plain rfl (PostE.pure0 q H (.bool _))
theorem s_isNotT : Sound2 K r (compareOp .IsNot) (opIsT true) := by
 intro A ok ρ hp s va vb ra rb Q E q H ha hb
 obtain ⟨T, U, rfl, rfl, q⟩ := isT_inv q
 ·obtain ⟨rfl, _⟩ := ha
  obtain ⟨rfl, _⟩ := hb
  exact wpAny_isNot_plain rfl (PostE.pure0 q H (.bool _))
end
section
variable {K : KX} {mg mb : Str → Option Value} {r : Nat} {env : Env} {look : Str → Option Nat} {ρ : Rho} {hp : List O} {Kf : W.Frag}
noncomputable def mkInst (C : Addr) (F : FT) : FT := fun vas Q hp => F (.r hp.length :: vas) (fun v hp' => v = .d .none ∧ Q (.r hp.length) hp') (hp ++ [.inst C []])
theorem f_make (X : KF K Kf) {C fI : Addr} {kn : List Str} {F : FT} (hF : SoundF K r (.ref fI) kn F) (hm : W.makesIn Kf C = true) (hi : W.findIn Kf (.ref C) "__init__" = some (some (.ref fI))) (hf : W.typeIn Kf (.ref fI) = some (.type "function")) :
  SoundF K (r + 1) (.ref C) kn (mkInst C F) := by
 intro A ok ρ hp s vas ras ks Q E hlen q H R
 obtain ⟨hh, g, d, t, os⟩ := s
 have Xn := X.now H
 refine W.make_core (W.makes_of Xn hm) (W.looks_findIn Xn hi) (fun self => W.bind_fn Xn self hf) (.inl rfl) ?_
 have keep : ∀ b o, hh.get? b = some o → ((hh.push W.emptyDict).push (W.instObj C hh.objs.size)).get? b = some o := fun b o e => Heap.get?_push_of_some _ (Heap.get?_push_of_some _ e)
 have gx : ((hh.push W.emptyDict).push (W.instObj C hh.objs.size)).get? (hh.objs.size + 1) = some (W.instObj C hh.objs.size) := by
  have := Heap.get?_push_size (o := W.instObj C hh.objs.size) (hh.push W.emptyDict) rfl
  rwa [Heap.size_push] at this
 have gd : ((hh.push W.emptyDict).push (W.instObj C hh.objs.size)).get? hh.objs.size = some W.emptyDict := Heap.get?_push_of_some _ (Heap.get?_push_size _ rfl)
 have n1 : hh.get? hh.objs.size = none := get?_beyond (Nat.le_refl _)
 have n2 : hh.get? (hh.objs.size + 1) = none := get?_beyond (Nat.le_succ _)
 obtain ⟨H', S'⟩ := H.add keep (p := ⟨hh.objs.size + 1, hh.objs.size, [hh.objs.size + 1]⟩) (o := .inst C []) n1 ⟨_, gd⟩ (by
   intro a ha
   simp at ha; subst ha
   exact ⟨n2, ⟨_, gx⟩, Nat.succ_ne_self _⟩) (by
   refine ⟨_, _, fun _ => none, gx, rfl, rfl, rfl, by simp, gd, rfl, ⟨_, #[], 0, gd, rfl, (fun e he => by simp at he), (by unfold UniqKeys; simp), fun _ => rfl⟩, ?_, fun _ _ => rfl⟩
   intro k x hx
   rfl)
 have R' : VRs (ρ ++ [⟨hh.objs.size + 1, hh.objs.size, [hh.objs.size + 1]⟩]) ((hh.push W.emptyDict).push (W.instObj C hh.objs.size)) (.r hp.length :: vas) ((.ref (hh.objs.size + 1) :: ras) ++ ks) :=
  .cons ⟨⟨hh.objs.size + 1, hh.objs.size, [hh.objs.size + 1]⟩, by rw [← H.len]; simp, rfl⟩ (R.step S' H)
 have ok' : OkA r (A.under (.builtin "type.__call__" ⟨.ref C :: ras, kn.zip ks⟩)) := by
  refine ⟨ok.hh, ?_, ?_⟩
  ·have := ok.dp
   have e := W.depth_under_kw A C ras (kn.zip ks)
   rw [e]; lia
  ·have := ok.un
   have e : (A.under (.builtin "type.__call__" ⟨.ref C :: ras, kn.zip ks⟩)).units = A.units + (Code.builtin "type.__call__" ⟨.ref C :: ras, kn.zip ks⟩).cUnits := rfl
   have e2 : (Code.builtin "type.__call__" ⟨.ref C :: ras, kn.zip ks⟩).cUnits ≤ 50 := by
    show 1 + 3 * 0 ≤ 50
    decide
   rw [e]; lia
 have W' := hF _ ok' _ _ ⟨(hh.push W.emptyDict).push (W.instObj C hh.objs.size), g, d, t, os⟩ (.r hp.length :: vas) (.ref (hh.objs.size + 1) :: ras) ks _ E hlen q H' R'
 refine codeAny_mono W' ?_
 intro rr s' hr
 rcases rr with e | (v | _ | _ | _)
 ·exact hr
 all_goals first | exact hr.elim | skip
 obtain ⟨v', hp', ρ', h', t', rfl, ⟨rfl, q'⟩, Hf, Sf, rf⟩ := hr
 cases rf
 refine ⟨rfl, .r hp.length, hp', ρ', h', t', rfl, q', Hf, S'.trans Sf, ⟨⟨hh.objs.size + 1, hh.objs.size, [hh.objs.size + 1]⟩, Sf.get (i := hp.length) (by rw [← H.len]; simp), rfl⟩⟩
theorem e_new (G : KG K mg mb) (X : KF K Kf) {f : Str} {C : Addr} {e : Expr} {rest : List Expr} {p pos : Pos} {F : FT} {l : XL} (hF : SoundF K r (.ref C) [] F) (hl : SoundL K r env look (e :: rest) l)
  (hkp : W.keepIn Kf (.ref C) = true) (hk : env.kindOf f = some .globalImplicit) (hg : mg f = some (.ref C)) (hd : (f == ("__debug__" : Str)) = false)
  (he : starEach (e :: rest) env = (false, eval e env) :: starEach rest env) (hplain : (backTo pos (starEach rest env)).any (·.1) = false) :
  SoundE K r env look (.Call (.Name f p) (e :: rest) [] pos) (xCall F l) := by
 intro A ok vs Q hp ρ s E q FR H
 refine wpAny_Call_Name_kw (Calls.Name_function_global FR.kd hk (Calls.loadGlobal_global (mg := mg) ?_ hg ?_) hd)
 ·rw [FR.gl]; exact H.nsOf G.g G.g'
 refine W.callWith_K X.inn hkp (wpAny_mono (hl A ok pos vs _ hp ρ s E q FR H) ?_ (fun _ _ x => x)) he hplain
 rintro rvs s' ⟨l, hp₁, ρ₁, h₁, t₁, rfl, q₁, H₁, S₁, r₁⟩
 refine ⟨X.now H₁, ?_⟩
 exact wpAny_mono (hF.call A ok ρ₁ hp₁ { s with heap := h₁, toks := t₁ } l rvs [] Q E rfl q₁ H₁ (by rw [List.append_nil]; exact r₁)) (fun _ _ x => PostE.after S₁ x) (fun _ _ x => x)
noncomputable def sPutOwn (C : Addr) (F : FT) (o i a : XE) : XS := fun vs Q => a vs fun va => o vs fun vo => i vs fun vi hp => (atI vo hp C fun _ _ => True) ∧ F [vo, vi, va] (fun _ hp' => Q .next vs hp') hp
theorem s_putOwn (X : KF K Kf) {C f : Addr} {o i value : Expr} {pos' pos : Pos} {po pi a : XE} {F : FT} (hF : SoundF K r (.ref f) [] F) (ha : SoundE K r env look value a) (ho : SoundE K r env look o po) (hi : SoundE K r env look i pi)
  (hq : W.noSeq Kf C = true) (hf : W.findIn Kf (.ref C) "__setitem__" = some (some (.ref f))) (ht : W.typeIn Kf (.ref f) = some (.type "function"))
  (hs : swapsWith value (some (.Subscript o i pos')) pos.line env = pure false) : SoundS K r env look (.Assign [.Subscript o i pos'] value pos) (sPutOwn C F po pi a) := by
 intro A ok vs Q hp ρ s E q FR H
 refine wpAny_Assign_Subscript (ha.then ok q FR H ?_) hs
 intro va hp₁ ρ₁ h₁ t₁ ra q₁ H₁ S₁ r₁ F₁
 refine ho.then ok (s := { s with heap := h₁, toks := t₁ }) q₁ F₁ H₁ ?_
 intro vo hp₂ ρ₂ h₂ t₂ ro q₂ H₂ S₂ r₂ F₂
 refine hi.then ok (s := { s with heap := h₂, toks := t₂ }) q₂ F₂ H₂ ?_
 intro vi hp₃ ρ₃ h₃ t₃ ri q₃ H₃ S₃ r₃ F₃
 have ra' := (r₁.step S₂ H₁).step S₃ H₂
 have ro' := r₂.step S₃ H₂
 obtain ⟨j, p, fs, ox, od, m, rfl, rfl, _, e, ep, I, hd, hod, n, hfld, hout⟩ := atI_rel q₃.1 H₃ ro'
 have Xn := X.now H₃
 unfold setItem sequenceKey
 refine wpAny_holding (wpAny_bind (wpAny_bind (W.Looks.here (s := { s with heap := h₃, toks := t₃ }) I.type ?_)))
 refine wpAny_bind (W.Looks.here (s := { s with heap := h₃, toks := t₃ }) (W.anyM_none Xn hq) ?_)
 rw [if_pos (show (!false) = true from rfl)]
 refine wpAny_pure (wpAny_bind (W.special_fn (s := { s with heap := h₃, toks := t₃ }) Xn I hf ht (wpAny_mono (hF.call A ok ρ₃ hp₃ { s with heap := h₃, toks := t₃ } [.r j, vi, va] [.ref p.a, ri, ra] [] _ E rfl q₃.2 H₃ (.cons ro' (.cons r₃ (.cons ra' .nil)))) ?_ (fun _ _ x => x))))
 rintro _ s' ⟨v, hp', ρ', h', t', rfl, q', H', S', _⟩
 exact wpAny_pure ⟨.next, vs, hp', ρ', h', t', rfl, q', F₃.step H₃ S', H', (((S₁.trans S₂).trans S₃).trans S').toS, trivial⟩
end
section
variable {K : KX} {mg mb : Str → Option Value} {r : Nat} {env : Env} {look : Str → Option Nat} {ρ : Rho} {hp : List O} {Kf : W.Frag}
noncomputable def sDelOwn (C : Addr) (F : FT) (o i : XE) : XS := fun vs Q => o vs fun vo => i vs fun vi hp => (atI vo hp C fun _ _ => True) ∧ F [vo, vi] (fun _ hp' => Q .next vs hp') hp
theorem s_delOwn (X : KF K Kf) {C f : Addr} {o i : Expr} {pos' pos : Pos} {po pi : XE} {F : FT} (hF : SoundF K r (.ref f) [] F) (ho : SoundE K r env look o po) (hi : SoundE K r env look i pi)
  (hq : W.noSeq Kf C = true) (hf : W.findIn Kf (.ref C) "__delitem__" = some (some (.ref f))) (ht : W.typeIn Kf (.ref f) = some (.type "function")) : SoundS K r env look (.Delete [.Subscript o i pos'] pos) (sDelOwn C F po pi) := by
 intro A ok vs Q hp ρ s E q FR H
 refine wpAny_Delete ?_
 show wpAny _ A (do delete (.Subscript o i pos') env; deleteEach [] env) _ E s
 refine wpAny_bind (wpAny_delete_Subscript (ho.then ok q FR H ?_))
 intro vo hp₂ ρ₂ h₂ t₂ ro q₂ H₂ S₂ r₂ F₂
 refine hi.then ok (s := { s with heap := h₂, toks := t₂ }) q₂ F₂ H₂ ?_
 intro vi hp₃ ρ₃ h₃ t₃ ri q₃ H₃ S₃ r₃ F₃
 have ro' := r₂.step S₃ H₂
 obtain ⟨j, p, fs, ox, od, m, rfl, rfl, _, e, ep, I, hd, hod, n, hfld, hout⟩ := atI_rel q₃.1 H₃ ro'
 have Xn := X.now H₃
 unfold delItem sequenceKey
 refine wpAny_holding (wpAny_bind (wpAny_bind (W.Looks.here (s := { s with heap := h₃, toks := t₃ }) I.type ?_)))
 refine wpAny_bind (W.Looks.here (s := { s with heap := h₃, toks := t₃ }) (W.anyM_none Xn hq) ?_)
 rw [if_pos (show (!false) = true from rfl)]
 refine wpAny_pure (wpAny_bind (W.special_fn (s := { s with heap := h₃, toks := t₃ }) Xn I hf ht (wpAny_mono (hF.call A ok ρ₃ hp₃ { s with heap := h₃, toks := t₃ } [.r j, vi] [.ref p.a, ri] [] _ E rfl q₃.2 H₃ (.cons ro' (.cons r₃ .nil))) ?_ (fun _ _ x => x))))
 rintro _ s' ⟨v, hp', ρ', h', t', rfl, q', H', S', _⟩
 exact wpAny_pure (wpAny_pure ⟨.next, vs, hp', ρ', h', t', rfl, q', F₃.step H₃ S', H', ((S₂.trans S₃).trans S').toS, trivial⟩)
theorem setItem_all {A : Around} {E : Value → Shared → Prop} {s : Shared} {l sl src : Addr} {items new : Array Value} {n k : Nat} {Q : Unit → Shared → Prop} (hl : IsL s.heap l items n) (hv : IsL s.heap src new k) (hne : l ≠ src)
  (hs : s.heap.IsSliceOf sl .none .none .none) (hz : items.size + new.size ≤ sizeLine) (h : ∀ f : Array Value → Array Value, f items = new → Q () { s with heap := s.heap.update l (Obj.mapSeq f) }) :
  wpAny (model K.prog K.w) A (setItem (.ref l) (.ref sl) (.ref src)) Q E s := by
 obtain ⟨os, hos, hcs, hds⟩ := id hs
 have hTs : s.TypeIs (.ref sl) "slice" := ⟨os, hos, hcs⟩
 have hT : s.TypeIs (.ref l) "list" := ⟨_, hl, rfl⟩
 have hTv : s.TypeIs (.ref src) "list" := ⟨_, hv, rfl⟩
 unfold setItem
 refine wpAny_holding ?_
 refine wpAny_bind (wpAny_sequenceKey hT (by decide) ?_)
 refine wpAny_bind (wpAny_callSpecial?_slot (name := Str.ofString "__setitem__") hT slot_list_setitem
  (wpAny_call_entry slot_list_setitem hT entry_list_setitem ?_ (args_list_setitem _ _ _)))
 show wpAny _ _ (Builtin.List.listSubscript? (.ref sl) >>= _) _ _ s
 refine wpAny_bind ?_
 unfold Builtin.List.listSubscript?
 refine wpAny_bind (wpAny_specialOf hTs slice_no_index ?_)
 dsimp only [Option.isNone_none, if_true]
 refine wpAny_pure ?_
 show wpAny _ _ (typeOf (.ref sl) >>= _) _ _ s
 refine wpAny_bind (wpAny_typeOf hTs ?_)
 rw [if_neg (by decide)]
 rw [listSliceParts_eq]
 refine wpAny_bind (wpAny_bind (wpAny_field hos hds (x := .none) rfl (wpAny_bind (wpAny_listPart .none ?_))))
 rw [if_neg (by decide)]
 refine wpAny_bind (wpAny_field hos hds (x := .none) rfl (wpAny_bind (wpAny_listPart .none ?_)))
 refine wpAny_bind (wpAny_field hos hds (x := .none) rfl (wpAny_bind (wpAny_listPart .none (wpAny_pure ?_))))
 have hsr : Builtin.List.listSameRef (.ref l) (.ref src) = false := by
  show (l == src) = false
  simpa using hne
 dsimp only
 rw [hsr]
 rw [if_neg Bool.false_ne_true]
 refine wpAny_bind ?_
 unfold Builtin.List.listAllItems
 refine wpAny_bind (wpAny_typeOf hTv ?_)
 rw [if_pos (by decide)]
 refine wpAny_listItems hv rfl ?_
 refine wpAny_bind (wpAny_listItems hl rfl ?_)
 refine wpAny_bind (wpAny_of_eq (sliceIndices_raw none none none items.size (by simp)) ?_)
 have hb : sliceBounds none none none items.size = (0, (items.size : Int), 1) := rfl
 rw [hb]
 dsimp only
 rw [if_pos (by decide)]
 refine wpAny_bind (wpAny_rule ?_)
 have htl : Builtin.List.listTooLong (items.size + new.size) = false := by
  show decide (items.size + new.size > sizeLine) = false
  simpa using hz
 rw [htl, if_neg Bool.false_ne_true]
 refine wpAny_bind (wpAny_updateSeq hl rfl ?_)
 refine wpAny_bind (wpAny_letGo (wpAny_pure ⟨.none, rfl, wpAny_pure (h _ ?_)⟩))
 have e0 : (max (0 : Int) (items.size : Int)).toNat = items.size := by omega
 rw [e0]
 simp
noncomputable def putAll (vo va : V) (Q : List O → Prop) (hp : List O) : Prop := atL vo hp fun i l => ∃ new, lget va hp = some new ∧ va ≠ .r i ∧ l.length + new.length ≤ sizeLine ∧ Q (hp.set i (.lst new))
noncomputable def sPutAll (o a : XE) : XS := fun vs Q => a vs fun va => o vs fun vo => putAll vo va fun hp' => Q .next vs hp'
theorem s_putAll {o value : Expr} {p pos' pos : Pos} {po a : XE} (ha : SoundE K r env look value a) (ho : SoundE K r env look o po)
  (hs : swapsWith value (some (.Subscript o (.Slice none none none p) pos')) pos.line env = pure false) : SoundS K r env look (.Assign [.Subscript o (.Slice none none none p) pos'] value pos) (sPutAll po a) := by
 intro A ok vs Q hp ρ s E q FR H
 refine wpAny_Assign_Subscript (ha.then ok q FR H ?_) hs
 intro va hp₁ ρ₁ h₁ t₁ ra q₁ H₁ S₁ r₁ F₁
 refine ho.then ok (s := { s with heap := h₁, toks := t₁ }) q₁ F₁ H₁ ?_
 intro vo hp₂ ρ₂ h₂ t₂ ro q₂ H₂ S₂ r₂ F₂
 have ra' := r₁.step S₂ H₁
 refine wpAny_Slice (wpAny_pure (wpAny_pure (wpAny_pure ?_)))
 have H₃ : HRel K ρ₂ hp₂ (h₂.push { cls := .type "slice", data := .fields #[.none, .none, .none] }) := H₂.push _
 have S₃ : Step K ρ₂ h₂ ρ₂ (h₂.push { cls := .type "slice", data := .fields #[.none, .none, .none] }) := Step.push ..
 have sl : (h₂.push { cls := .type "slice", data := .fields #[.none, .none, .none] }).IsSliceOf h₂.objs.size .none .none .none := Heap.IsSliceOf.new ..
 have ro₃ := r₂.step S₃ H₂
 have ra₃ := ra'.step S₃ H₂
 obtain ⟨i, l, pp, vsl, n, rfl, e, ep, rfl, hpa, hL, d, new, hn, hne, hz, q⟩ := atL_rel (s := { s with heap := h₂.push { cls := .type "slice", data := .fields #[.none, .none, .none] }, toks := t₂ }) q₂ H₃ ro₃
 obtain ⟨a', vsn, n', rfl, hL', d'⟩ := lget_rel H₃ ra₃ hn
 have z := d.length
 have z' := d'.length
 simp only [Array.length_toList] at z z'
 have hap : pp.m ≠ a' := by
  cases va with
  | d x =>
   cases ra₃ with
   | list _ hm _ => exact fun e => hm (e ▸ List.mem_map.mpr ⟨pp, List.mem_of_getElem? ep, rfl⟩)
   | tuple h1 hm _ => exact fun e => hm (e ▸ List.mem_map.mpr ⟨pp, List.mem_of_getElem? ep, rfl⟩)
  | r j =>
   obtain ⟨pj, epj, ej⟩ := ra₃
   cases ej
   ·have elj := lget_r hn
    obtain ⟨haj, _⟩ := H₃.at elj epj
    intro e'
    apply hne
    have h1 : (mu ρ₂)[i]? = some pp.m := by simp [mu, ep]
    have h2 : (mu ρ₂)[j]? = some pp.m := by simp [mu, epj, e', haj]
    have l1 := (List.getElem?_eq_some_iff.mp h1).1
    rw [(List.getElem?_inj l1 H₃.nd).mp (h1.trans h2.symm)]
  | rng => cases hn
  | g => cases hn
 refine setItem_all (s := { s with heap := h₂.push { cls := .type "slice", data := .fields #[.none, .none, .none] }, toks := t₂ }) hL hL' hap sl (by lia) ?_
 intro f hf
 obtain ⟨H', S'⟩ := put_list (A := A) (s := { s with heap := h₂.push { cls := .type "slice", data := .fields #[.none, .none, .none] }, toks := t₂ }) (f := f) (l' := new) H₃ e ep hL hpa (by rw [hf]; exact d')
 exact ⟨.next, vs, _, ρ₂, _, t₂, rfl, q, (F₂.step H₂ S₃).step H₃ S', H', (((S₁.trans S₂).trans S₃).trans S').toS, trivial⟩
end
section
variable {K : KX}
theorem b_plainK {fd : FuncData} {kn ps : List Str} (h : ∀ ras ks : List Value, ks.length = kn.length → ras.length + ks.length = ps.length → bindArgs fd ⟨ras, kn.zip ks⟩ = pure (ps.zip (ras ++ ks))) : SoundBind K fd kn ps (bPlain ps.length) := by
 intro A hh ρ hp s vas ras ks Q E hk q H R
 have hl := R.length
 rw [List.length_append] at hl
 have hq := q.1
 rw [h ras ks hk (by lia)]
 exact wpAny_pure ⟨vas, ras ++ ks, hp, ρ, s.heap, s.toks, rfl, rfl, by rw [List.length_append]; lia, q.2, H, Step.refl .., R⟩
noncomputable def bStar : BT := fun vas Q hp => match vas with
 | v :: rest => match datas rest with | some ds => ds.length ≤ sizeLine ∧ Q [v, .d (.tuple ds)] hp | none => False
 | [] => False
theorem b_star {fd : FuncData} {p1 p2 : Str} (h : ∀ (a : Value) (rest : List Value), bindArgs fd ⟨a :: rest, []⟩ = (newTuple rest >>= fun t => pure [(p1, a), (p2, t)])) : SoundBind K fd [] [p1, p2] bStar := by
 intro A hh ρ hp s vas ras ks Q E hk q H R
 cases ks with
 | cons _ _ => simp at hk
 | nil =>
  rw [List.append_nil] at R
  unfold bStar at q
  split at q
  ·rename_i v rest
   cases R with | cons a b =>
   rename_i ra rs
   split at q
   ·rename_i ds e
    have d := datas_rel b e
    have hz := d.length
    rw [show ([] : List Str).zip ([] : List Value) = [] from rfl, h]
    refine wpAny_bind (wpAny_newTuple ?_ (by lia))
    refine wpAny_pure ⟨[v, .d (.tuple ds)], [ra, .ref s.heap.objs.size], hp, ρ, _, s.toks, rfl, rfl, rfl, q.2, H.push _, Step.push .., ?_⟩
    exact .cons (a.step (Step.push K ..) H) (.cons (.tuple (n := 0) (vs := rs.toArray) (Heap.get?_push_size _ rfl) H.sizeMu (d.step (Step.push K ..) H)) .nil)
   ·exact q.elim
  ·exact q.elim
end
theorem wpAny_callBorrowed {M : Model} {A : Around} {E : Value → Shared → Prop} {s : Shared} {f : Value} {pos : List Value} {Q : Value → Shared → Prop}
  (hc : codeAny M A (.call f ⟨pos, []⟩) (fun r s' => match r with | .ok (.ret v) => Q v s' | .ok _ => False | .error e => E e s') s) : wpAny M A (callBorrowed f pos) Q E s := by
 intro Γ p hΓ
 have h := hc (Γ.enter (.call f ⟨pos, []⟩) none p) p rfl (hΓ.enter _ none p (by intro x; cases x))
 have e : Sem.wp M Γ (callBorrowed f pos) (fun a _ s' => Q a s') (fun e _ s' => E e s') p s =
   wpCode M (Γ.enter (.call f ⟨pos, []⟩) none p) (fun r s' => match r with | .ok (.ret v) => Q v s' | .ok _ => False | .error e => E e s') p s := by
  unfold callBorrowed
  show wpCode M _ _ p s = _
  congr 1
  funext r s'
  cases r with
  | error e => rfl
  | ok f => cases f <;> rfl
 rw [e]; exact h
theorem slot_ci : Slot "callable_iterator" "__next__" "callable_iterator.__next__" :=
 .of (owner := "callable_iterator") (n := "__next__") (by rw [typeLookup_type, builtinLookup_eq_fast]; kernel_rfl) (by decide +kernel) (by decide +kernel) (by decide +kernel)
  (by first | exact .inl (by decide +kernel) | exact .inr (by decide +kernel)) (by rw [isSubtype_type]; kernel_rfl)
theorem entry_ci : entryFor table "callable_iterator.__next__" = some Builtin.«callable_iterator.__next__» := entryFor_of_tree (by kernel_rfl)
theorem args_ci (a : Value) : argsOk "callable_iterator.__next__" ⟨[a], []⟩ := by unfold argsOk; kernel_rfl
theorem slot_cis : Slot "callable_iterator" "__iter__" "callable_iterator.__iter__" :=
 .of (owner := "callable_iterator") (n := "__iter__") (by rw [typeLookup_type, builtinLookup_eq_fast]; kernel_rfl) (by decide +kernel) (by decide +kernel) (by decide +kernel)
  (by first | exact .inl (by decide +kernel) | exact .inr (by decide +kernel)) (by rw [isSubtype_type]; kernel_rfl)
theorem entry_cis : entryFor table "callable_iterator.__iter__" = some Builtin.«dict_keyiterator.__iter__» := entryFor_alias (id' := "dict_keyiterator.__iter__") (by kernel_rfl) rfl (by decide +kernel) (by kernel_rfl)
theorem args_cis (a : Value) : argsOk "callable_iterator.__iter__" ⟨[a], []⟩ := by unfold argsOk; kernel_rfl
section
variable {K : KX} {r : Nat} {ρ : Rho} {hp : List O}
theorem stop_iter {α : Type} {A : Around} {s : Shared} {Q : α → Shared → Prop} {E : Value → Shared → Prop} (hh : A.handled = none)
  (h : ∀ h' e, (∀ b o, s.heap.get? b = some o → h'.get? b = some o) → ({ s with heap := h' } : Shared).TypeIs e "StopIteration" → E e { s with heap := h' }) : wpAny (model K.prog K.w) A (PySem.Builtin.SmallTypes.stopIteration : Sem α) Q E s := by
 show wpAny _ _ (newExc (.type "StopIteration") [] >>= _) _ _ _
 refine wpAny_bind ?_
 dsimp only [newExc, newTuple]
 refine wpAny_bind (wpAny_newObj_type ?_ (by size_fits))
 refine wpAny_bind (m := firstArgMember _ _) (wpAny_of_eq (a := Value.none) (by first | rfl | (dsimp only [firstArgMember]; rfl)) ?_)
 refine wpAny_newObj_type ?_ (by size_fits)
 dsimp only [raiseNew]
 refine wpAny_bind (wpAny_handled ?_)
 rw [hh]
 refine wpAny_bind (wpAny_pure (wpAny_throw ?_))
 exact h _ _ (fun b o e => Heap.get?_push_of_some _ (Heap.get?_push_of_some _ e)) ⟨_, Heap.get?_push_size _ rfl, rfl⟩
theorem borrows {A : Around} {s : Shared} {M f : Addr} {self : Value} {of : Obj} {fd : FuncData} {Q : Bool → Shared → Prop} {E : Value → Shared → Prop} (hM : s.heap.get? M = some (W.methodObj (.ref f) self)) (hf : s.heap.get? f = some of) (hd : of.data = .func fd) (h : Q true s) :
  wpAny (model K.prog K.w) A (borrowsExactly (.ref M)) Q E s := by
 unfold borrowsExactly
 refine wpAny_bind (wpAny_load hM ?_)
 show wpAny _ A (do match (← load f).data with | .func _ => pure true | _ => pure false) _ E s
 refine wpAny_bind (wpAny_load hf ?_)
 rw [hd]
 exact wpAny_pure h
noncomputable def nextC (i : Nat) (F : FT) (Q : Option V → List O → Prop) (hp : List O) : Prop := match hp[i]? with
 | some (.citer none) => Q none hp
 | some (.citer (some j)) => F [.r j] (fun v hp' => hp'[i]? = some (.citer (some j)) ∧ match v with
   | .d (.str x) => if (⟨#[]⟩ : Str) = x then Q none (hp'.set i (.citer none)) else Q (some v) hp'
   | _ => False) hp
 | _ => False
inductive PostN (K : KX) (ρ : Rho) (s : Shared) (Q : Option V → List O → Prop) (rr : Option Value) (s' : Shared) : Prop
 | mk (ov : Option V) (hp' : List O) (ρ' : Rho) (h' : Heap) (t : Nat) (e : s' = { s with heap := h', toks := t }) (q : Q ov hp') (H : HRel K ρ' hp' h') (S : Step K ρ s.heap ρ' h') (r : match ov, rr with | none, none => True | some v, some rv => VR ρ' h' v rv | _, _ => False)
theorem next_c {F : FT} {fd : FuncData} {body : List Stmt} (hF : SoundF K r (.ref K.readChar) [] F) (Y : FnAt K K.readChar fd body) {i : Nat} {Q : Option V → List O → Prop} {A : Around} (ok : OkA (r + 1) A) {s : Shared} {E : Value → Shared → Prop} {p : P}
  (q : nextC i F Q hp) (H : HRel K ρ hp s.heap) (ep : ρ[i]? = some p) : wpAny (model K.prog K.w) A (pyNext (.ref p.a)) (PostN K ρ s Q) E s := by
 have hh : A.in1.handled = none := ok.hh
 unfold nextC at q
 split at q
 ·rename_i e
  obtain ⟨ea, o, vs, h1, h2, h3, rfl⟩ := H.at e ep
  rw [ea]
  have hT : s.TypeIs (.ref p.m) "callable_iterator" := ⟨o, h1, h2⟩
  unfold pyNext
  refine wpAny_bind (wpAny_attempt (wpAny_callSpecial?_slot (name := Str.ofString "__next__") hT slot_ci (wpAny_call_entry slot_ci hT entry_ci ?_ (args_ci _))))
  show wpAny _ _ (field (.ref p.m) 2 >>= _) _ _ s
  refine wpAny_bind (wpAny_field h1 h3 (x := .bool true) rfl ?_)
  rw [if_pos (by decide)]
  refine wpAny_bind (wpAny_rule (wpAny_bind (stop_iter hh ?_)))
  intro h' ev hk hTe
  refine wpAny_bind (wpAny_isInstance (T := "StopIteration") (b := true) hTe isSubtype_stop ?_)
  exact wpAny_pure ⟨none, hp, ρ, h', s.toks, rfl, q, H.grow hk, Step.grow hk, trivial⟩
 ·rename_i j e
  obtain ⟨ea, o, vs, h1, h2, h3, hj, M, t, qq, rfl, hM, hMf, eq⟩ := H.at e ep
  rw [ea]
  have hT : s.TypeIs (.ref p.m) "callable_iterator" := ⟨o, h1, h2⟩
  obtain ⟨of, hof, hdf⟩ := Y.ob
  unfold pyNext
  refine wpAny_bind (wpAny_attempt (wpAny_callSpecial?_slot (name := Str.ofString "__next__") hT slot_ci (wpAny_call_entry slot_ci hT entry_ci ?_ (args_ci _))))
  show wpAny _ _ (field (.ref p.m) 2 >>= _) _ _ s
  refine wpAny_bind (wpAny_field h1 h3 (x := .bool false) rfl ?_)
  rw [if_neg (by decide)]
  refine wpAny_bind (wpAny_field h1 h3 (x := .ref M) rfl ?_)
  refine wpAny_bind (wpAny_attempt ?_)
  unfold callOutOfASlot
  refine wpAny_bind (borrows hM (H.keep _ _ hof Y.tb) hdf ?_)
  rw [if_pos rfl]
  have ok' : OkA r A.in1 := ⟨ok.hh, by have := ok.dp; show A.depth + r < _; lia, by have := ok.un; show A.units + 1 + _ + 200 < _; lia⟩
  refine wpAny_callBorrowed (W.method_call hM ?_)
  refine codeAny_mono (hF A.in1 ok' ρ hp s [.r j] [.ref qq.a] [] _ (fun _ _ => False) rfl q H (.cons ⟨qq, eq, rfl⟩ .nil)) ?_
  intro rr s' hr
  rcases rr with e' | (rv | _ | _ | _)
  ·exact hr.elim
  all_goals first | exact hr.elim | skip
  obtain ⟨v, hp', ρ', h', t', rfl, ⟨e', q'⟩, H', S', rv'⟩ := hr
  have ep' := S'.get ep
  obtain ⟨_, o', vs', g1, g2, g3, gj, M', t2, q2, rfl, gM, gMf, geq⟩ := H'.at e' ep'
  dsimp only
  refine wpAny_bind (wpAny_field (s := { s with heap := h', toks := t' }) g1 g3 (x := .bool false) rfl ?_)
  rw [if_neg (by decide)]
  refine wpAny_bind (wpAny_field (s := { s with heap := h', toks := t' }) g1 g3 (x := .str ⟨#[]⟩ t2) rfl ?_)
  split at q'
  ·rename_i x
   cases rv'
   refine wpAny_bind (wpAny_holding (wpAny_eqBool_str ?_))
   split at q'
   ·rename_i hx
    rw [decide_eq_true hx]
    rw [if_neg (by decide)]
    refine wpAny_bind (wpAny_rule (wpAny_bind ?_))
    show wpAny _ _ (field (.ref p.m) 0 >>= _) _ _ _
    refine wpAny_bind (wpAny_field (s := { s with heap := h', toks := t' }) g1 g3 (x := .ref M') rfl ?_)
    refine wpAny_bind ?_
    unfold slotLetsGo
    refine wpAny_bind (borrows (s := { s with heap := h', toks := t' }) gM (H'.keep _ _ hof Y.tb) hdf ?_)
    rw [if_pos rfl]
    refine wpAny_pure ?_
    obtain ⟨oc, od, oda, osl⟩ := o'
    dsimp only at g2 g3
    subst g3
    have u1 : (h'.update p.m (Obj.mapFields fun x => x.setIfInBounds 0 .none)).get? p.m = some ⟨oc, od, .fields #[.none, .str ⟨#[]⟩ t2, .bool false], osl⟩ := Heap.get?_update_self _ g1 rfl
    have u2 : ((h'.update p.m (Obj.mapFields fun x => x.setIfInBounds 0 .none)).update p.m (Obj.mapFields fun x => x.setIfInBounds 1 .none)).get? p.m = some ⟨oc, od, .fields #[.none, .none, .bool false], osl⟩ := Heap.get?_update_self _ u1 rfl
    have u3 : (((h'.update p.m (Obj.mapFields fun x => x.setIfInBounds 0 .none)).update p.m (Obj.mapFields fun x => x.setIfInBounds 1 .none)).update p.m (Obj.mapFields fun x => x.setIfInBounds 2 (.bool true))).get? p.m = some ⟨oc, od, .fields #[.none, .none, .bool true], osl⟩ := Heap.get?_update_self _ u2 rfl
    refine wpAny_bind (wpAny_setField (s := { s with heap := h', toks := t' }) g1 rfl (by simp) ?_)
    refine wpAny_bind (wpAny_setField u1 rfl (by simp) ?_)
    refine wpAny_setField u2 rfl (by simp) ?_
    have hs : Heap.SameBut p.m h' (((h'.update p.m (Obj.mapFields fun x => x.setIfInBounds 0 .none)).update p.m (Obj.mapFields fun x => x.setIfInBounds 1 .none)).update p.m (Obj.mapFields fun x => x.setIfInBounds 2 (.bool true))) :=
     ((Heap.SameBut.update ..).trans (Heap.SameBut.update ..)).trans (Heap.SameBut.update ..)
    have H₂ := H'.own (o := .citer none) ep' (List.getElem?_eq_some_iff.mp e').1 hs ⟨ea, _, _, u3, g2, rfl, rfl⟩ ⟨_, u3⟩
    have S₂ : Step K ρ' h' ρ' _ := Step.own (List.mem_of_getElem? ep') hs ⟨_, u3⟩
    refine stop_iter hh ?_
    intro h'' ev hk hTe
    refine wpAny_bind (wpAny_isInstance (T := "StopIteration") (b := true) hTe isSubtype_stop ?_)
    exact wpAny_pure ⟨none, _, ρ', h'', t', rfl, q', H₂.grow hk, (S'.trans S₂).trans (Step.grow hk), trivial⟩
   ·rename_i hx
    rw [decide_eq_false hx]
    rw [if_pos (by decide)]
    exact wpAny_pure ⟨_, rfl, wpAny_pure ⟨some (.d (.str x)), hp', ρ', h', t', rfl, q', H', S', .str ..⟩⟩
  ·exact q'.elim
 ·exact q.elim
end
section
variable {K : KX} {mg mb : Str → Option Value} {r : Nat} {env : Env} {look : Str → Option Nat} {ρ : Rho} {hp : List O} {Kf : W.Frag}
noncomputable def forC (i : Nat) (F : FT) (tgt : XT) (body : XS) (Q : QS) : Nat → List (Option V) → List O → Prop
 | 0, _, _ => False
 | n + 1, vs, hp => nextC i F (fun ov hp' => match ov with
  | none => Q .next vs hp'
  | some v => tgt v vs (fun vs' hp'' => body vs' (fun fl vs'' hp3 => match fl with
   | .next => forC i F tgt body Q n vs'' hp3
   | .cont => forC i F tgt body Q n vs'' hp3
   | .brk => Q .next vs'' hp3
   | .ret v => Q (.ret v) vs'' hp3) hp'') hp') hp
noncomputable def isC : List O → Nat → Prop := fun hp i => match hp[i]? with | some (.citer _) => True | _ => False
noncomputable def sForC (F : FT) (tgt : XT) (it : XE) (body : XS) : XS := fun vs Q => it vs fun v hp => match v with | .r i => isC hp i ∧ ∃ n, forC i F tgt body Q n vs hp | _ => False
theorem s_forC {F : FT} {fd : FuncData} {bodyF : List Stmt} (hF : SoundF K r (.ref K.readChar) [] F) (Y : FnAt K K.readChar fd bodyF) {target iter : Expr} {body : List Stmt} {pos : Pos} {tgt : XT} {it : XE} {b : XS}
  (ht : SoundT K (r + 1) env look target tgt) (hi : SoundE K (r + 1) env look iter it) (hb : SoundSs K (r + 1) env look body b)
  (hs : ∀ x, foldedSetIterable iter env x = pure x) (hlo : ∀ it v, letOwnedTupleGo target it v = pure ()) : SoundS K (r + 1) env look (.For target iter body [] pos) (sForC F tgt it b) := by
 intro A ok vs Q hp ρ s E q FR H
 refine wpAny_For (hi.then ok q FR H ?_) hs
 intro v hp₁ ρ₁ h₁ t₁ rv q₁ H₁ S₁ r₁ F₁
 split at q₁
 ·rename_i i
  obtain ⟨p, ep, rfl⟩ := r₁
  obtain ⟨hc, N, q₁⟩ := q₁
  have hT : ({ s with heap := h₁, toks := t₁ } : Shared).TypeIs (.ref p.a) "callable_iterator" := by
   unfold isC at hc
   split at hc
   ·rename_i c e
    obtain ⟨ea, o, vs, g1, g2, _⟩ := H₁.at e ep
    exact ⟨o, ea ▸ g1, g2⟩
   ·exact hc.elim
  refine wpAny_pyIter_slot hT slot_cis (wpAny_call_entry slot_cis hT entry_cis ?_ (args_cis _))
  show wpAny _ _ (ret (.ref p.a)) _ _ _
  refine wpAny_pure ⟨_, rfl, "callable_iterator", _, hT, slot_ci.lookup, ?_⟩
  refine codeAny_forLoop_any (fun n => TurnW K env look s ρ₁ h₁ (forC i F tgt b Q n)) ?_ N
   ⟨vs, hp₁, ρ₁, h₁, t₁, rfl, q₁, F₁, H₁, StepS.refl ..⟩
  rintro n s' ⟨vs', hp', ρ', h', t', rfl, q', F', H', S'⟩
  cases n with
  | zero => exact q'.elim
  | succ n =>
   have ep' := pre_get S'.pre ep
   refine wpAny_mono (next_c (s := { s with heap := h', toks := t' }) hF Y ok q' H' ep') ?_ (fun _ _ x => x)
   rintro rr s'' ⟨ov, hp₂, ρ₂, h₂, t₂, rfl, q₂, H₂, S₂, rv₂⟩
   have F₂ := F'.step H' S₂
   have S₂' := S'.trans S₂.toS
   cases ov with
   | none =>
    cases rr with
    | some _ => exact rv₂.elim
    | none => exact wpAny_execs_nil ⟨.next, vs', hp₂, ρ₂, h₂, t₂, rfl, q₂, F₂, H₂, S₁.toS.trans S₂', trivial⟩
   | some v =>
    cases rr with
    | none => exact rv₂.elim
    | some rx =>
     refine wpAny_of_eq (hlo _ _) ?_
     refine wpAny_mono (ht A ok v vs' _ hp₂ ρ₂ { s with heap := h₂, toks := t₂ } _ rx q₂ F₂ H₂ rv₂) ?_ (fun _ _ x => x)
     rintro _ s₃ ⟨vs₃, hp₃, ρ₃, h₃, t₃, rfl, q₃, F₃, H₃, S₃⟩
     refine wpAny_mono (hb A ok vs₃ _ hp₃ ρ₃ { s with heap := h₃, toks := t₃ } _ q₃ F₃ H₃) ?_ (fun _ _ x => x)
     rintro fl s₄ ⟨af, vs₄, hp₄, ρ₄, h₄, t₄, rfl, q₄, F₄, H₄, S₄, fr⟩
     have S₄' := (S₂'.trans S₃).trans S₄
     cases af <;> cases fl <;> first | exact fr.elim | skip
     ·exact ⟨n, Nat.lt_succ_self n, vs₄, hp₄, ρ₄, h₄, t₄, rfl, q₄, F₄, H₄, S₄'⟩
     ·exact ⟨.next, vs₄, hp₄, ρ₄, h₄, t₄, rfl, q₄, F₄, H₄, S₁.toS.trans S₄', trivial⟩
     ·exact ⟨n, Nat.lt_succ_self n, vs₄, hp₄, ρ₄, h₄, t₄, rfl, q₄, F₄, H₄, S₄'⟩
     ·exact ⟨.ret _, vs₄, hp₄, ρ₄, h₄, t₄, rfl, q₄, F₄, H₄, S₁.toS.trans S₄', fr⟩
 ·exact q₁.elim
end
end Mine
namespace Mine
open PySem PySem.Spec PySem.Calls PyProof.Rows Builtin Builtin.ObjectAttr
theorem entry_iter : entryFor table "iter" = some Builtin.«iter» := entryFor_of_tree (by kernel_rfl)
theorem args_iter2 (a b : Value) : argsOk "iter" ⟨[a, b], []⟩ := by unfold argsOk; kernel_rfl
theorem kind_iter : builtinKind "iter" = none := by decide +kernel
theorem plain_iter : plainId "iter" = true := by decide +kernel
theorem meth_call : typeLookup (.type "method") "__call__" = pure (some (.builtin "method.__call__")) := by rw [typeLookup_type, builtinLookup_eq_fast]; kernel_rfl
section
variable {K : KX} {mg mb : Str → Option Value} {r : Nat} {env : Env} {look : Str → Option Nat} {ρ : Rho} {hp : List O} {Kf : W.Frag}
noncomputable def xIter (C : Addr) (a : XE) : XE := fun vs Q => a vs fun v hp => atI v hp C fun i _ => Q (.r hp.length) (hp ++ [.citer (some i)])
theorem e_iter (G : KG K mg mb) (X : KF K Kf) {C : Addr} {f name : Str} {o : Expr} {ap p cp pos : Pos} {ck : Nat} {a : XE} (ho : SoundE K r env look o a)
  (hk : env.kindOf f = some .globalImplicit) (hg : mg f = none) (hm : mb f = some (.builtin "iter")) (hd : (f == ("__debug__" : Str)) = false)
  (hpg : W.plainGet Kf C name = true) (hh : W.hasDictIn Kf C = true) (ha : W.findIn Kf (.ref C) name = some (some (.ref K.readChar))) (hft : W.typeIn Kf (.ref K.readChar) = some (.type "function"))
  (hgf : W.specialIn Kf (.ref K.readChar) "__get__" = some (some (.builtin "function.__get__"))) (htk : W.takesIn Kf (.ref K.readChar) = some false) (hcn : W.copiedNames.contains name = false) (hn : name ∉ K.attrs)
  (he : eval (.Attribute o name ap) env = (do
   let o' ← eval o env
   standAt ap.atName
   let r ← holding [o'] (getAttr o' name true)
   letTemporaryGo o o' r
   pure r)) (hgo : ∀ o' r, letTemporaryGo o o' r = pure ())
  (he1 : starEach [.Attribute o name ap, .Constant (.str ⟨#[]⟩) ck cp] env = (false, eval (.Attribute o name ap) env) :: starEach [.Constant (.str ⟨#[]⟩) ck cp] env)
  (he2 : starEach [.Constant (.str ⟨#[]⟩) ck cp] env = (false, eval (.Constant (.str ⟨#[]⟩) ck cp) env) :: starEach [] env)
  (hb : (backTo pos (starEach [.Attribute o name ap, .Constant (.str ⟨#[]⟩) ck cp] env)).any (·.1) = false) :
  SoundE K r env look (.Call (.Name f p) [.Attribute o name ap, .Constant (.str ⟨#[]⟩) ck cp] [] pos) (xIter C a) := by
 intro A ok vs Q hp ρ s E q FR H
 refine wpAny_Call_Name_kw (Calls.Name_function_global FR.kd hk (Calls.loadGlobal_builtin (mg := mg) (mb := mb) ?_ hg ?_ hm ?_) hd)
 ·rw [FR.gl]; exact H.nsOf G.g G.g'
 ·rw [FR.bi]; exact H.nsOf G.b G.b'
 refine callWith_builtin hb (spliced_more ?_ he1)
 rw [he]
 refine wpAny_bind (ho.then ok q FR H ?_)
 intro v hp₁ ρ₁ h₁ t₁ rv q₁ H₁ S₁ r₁ F₁
 obtain ⟨i, pp, fs, ox, od, m, rfl, rfl, qq, e, ep, I, hdd, hod, n, hfld, hout⟩ := atI_rel q₁ H₁ r₁
 clear q₁
 have q₁ := qq
 clear qq
 have Xn := X.now H₁
 refine wpAny_bind (wpAny_standAt (wpAny_bind (wpAny_holding ?_)))
 refine W.get_bind (s := { s with heap := h₁, toks := t₁ }) Xn I (W.plainGet_of hpg).1 (W.findObj_fn hh ha hgf htk hcn (by rw [lookIn_ns n hod, hout name hn])) (W.plainGet_of hpg).2 ?_
 refine wpAny_call (W.fn_get (s := { s with heap := h₁, toks := t₁ + 1 }) Xn hft (W.handed_on rfl ?_))
 rw [hgo]
 refine wpAny_bind (wpAny_pure (wpAny_pure ?_))
 refine spliced_more (wpAny_Constant_str ?_) he2
 refine spliced_none ?_
 have n1 : h₁.get? h₁.objs.size = none := get?_beyond (Nat.le_refl _)
 have gM : (h₁.push (W.methodObj (.ref K.readChar) (.ref pp.a))).get? h₁.objs.size = some (W.methodObj (.ref K.readChar) (.ref pp.a)) := Heap.get?_push_size _ rfl
 refine call_function_entry kind_iter plain_iter entry_iter (args_iter2 _ _) ?_
 have keep : ∀ b o, h₁.get? b = some o → ((h₁.push (W.methodObj (.ref K.readChar) (.ref pp.a))).push { cls := .type "callable_iterator", data := .fields #[.ref h₁.objs.size, .str ⟨#[]⟩ (t₁ + 1), .bool false] }).get? b = some o :=
  fun b o e => Heap.get?_push_of_some _ (Heap.get?_push_of_some _ e)
 have n2 : h₁.get? (h₁.objs.size + 1) = none := get?_beyond (Nat.le_succ _)
 have gI : ((h₁.push (W.methodObj (.ref K.readChar) (.ref pp.a))).push { cls := .type "callable_iterator", data := .fields #[.ref h₁.objs.size, .str ⟨#[]⟩ (t₁ + 1), .bool false] }).get? (h₁.objs.size + 1) = some { cls := .type "callable_iterator", data := .fields #[.ref h₁.objs.size, .str ⟨#[]⟩ (t₁ + 1), .bool false] } := by
  have := Heap.get?_push_size (o := { cls := .type "callable_iterator", data := .fields #[.ref h₁.objs.size, .str ⟨#[]⟩ (t₁ + 1), .bool false] }) (h₁.push (W.methodObj (.ref K.readChar) (.ref pp.a))) rfl
  rwa [Heap.size_push] at this
 have gM' := Heap.get?_push_of_some { cls := .type "callable_iterator", data := .fields #[.ref h₁.objs.size, .str ⟨#[]⟩ (t₁ + 1), .bool false] } gM
 have hil : i < hp₁.length := (List.getElem?_eq_some_iff.mp e).1
 obtain ⟨H', S'⟩ := H₁.add keep (p := ⟨h₁.objs.size + 1, h₁.objs.size + 1, [h₁.objs.size]⟩) (o := .citer (some i)) n2 ⟨_, gI⟩ (by
   intro a ha
   simp at ha; subst ha
   exact ⟨n1, ⟨_, gM'⟩, Nat.ne_of_lt (Nat.lt_succ_self _)⟩) (by
   refine ⟨rfl, _, _, gI, rfl, rfl, hil, h₁.objs.size, t₁ + 1, pp, rfl, gM', by simp, ?_⟩
   rw [List.getElem?_append_left (by rw [H₁.len]; exact hil)]; exact ep)
 show wpAny _ _ (someArgs "iter" 1 2 _ >>= _) _ _ _
 refine wpAny_bind (wpAny_pure ?_)
 show wpAny _ _ (specialOf (.ref h₁.objs.size) "__call__" >>= _) _ _ _
 refine wpAny_bind (wpAny_specialOf (T := "method") ⟨_, gM, rfl⟩ meth_call ?_)
 rw [if_neg (by decide)]
 refine wpAny_bind (wpAny_rule (wpAny_bind (wpAny_newObj_type ?_ (by size_fits))))
 refine wpAny_pure ⟨_, rfl, ?_⟩
 rw [Heap.size_push]
 exact ⟨.r hp₁.length, _, _, _, _, rfl, q₁, H', S₁.trans S', ⟨⟨h₁.objs.size + 1, h₁.objs.size + 1, [h₁.objs.size]⟩, by rw [← H₁.len]; simp, rfl⟩⟩
end
theorem fslot : Slot "function" "__getattribute__" "object.__getattribute__" :=
 .of (owner := "object") (n := "__getattribute__") (by rw [typeLookup_type, builtinLookup_eq_fast]; kernel_rfl) (by decide +kernel) (by decide +kernel) (by decide +kernel)
  (by first | exact .inl (by decide +kernel) | exact .inr (by decide +kernel)) (by rw [isSubtype_type]; kernel_rfl)
theorem flk2 : typeLookup (.type "function") "__getattr__" = pure none := by rw [typeLookup_type, builtinLookup_eq_fast]; kernel_rfl
theorem flk3 : typeLookup (.type "function") "read" = pure none := by rw [typeLookup_type, builtinLookup_eq_fast]; kernel_rfl
theorem fentry : entryFor table "object.__getattribute__" = some Builtin.«object.__getattribute__» := entryFor_of_tree (by kernel_rfl)
theorem fargs (a b : Value) : argsOk "object.__getattribute__" ⟨[a, b], []⟩ := by unfold argsOk; kernel_rfl
section
variable {prog : Program} {w : World} {A : Around} {E : Value → Shared → Prop} {h : Heap} {g : Array GenState} {d : Drawn} {t : Nat} {os : OsState} {a D : Addr} {o : Obj} {m : Str → Option Value} {v : Value} {fd : FuncData}
theorem fn_entry {tk : Tok} {Q : Fin → Shared → Prop} (hx : h.get? a = some o) (hc : o.cls = .type "function") (hdt : o.data = .func fd) (hdi : o.dict = some D) (n : h.Ns D m) (hm : m "read" = some v) (hq : Q (.done (.ret v)) ⟨h, g, d, t, os⟩) :
  wpAny (model prog w) A (Builtin.«object.__getattribute__» ⟨[.ref a, .str "read" tk], []⟩) Q E ⟨h, g, d, t, os⟩ := by
 have hT : (⟨h, g, d, t, os⟩ : Shared).TypeIs (.ref a) "function" := ⟨_, hx, hc⟩
 unfold Builtin.«object.__getattribute__»
 refine wpAny_bind (wpAny_pure (a := (Value.ref a, [Value.str "read" tk])) ?_)
 refine wpAny_bind (wpAny_pure (wpAny_bind (wpAny_typeOf hT (wpAny_bind ?_))))
 unfold find
 refine wpAny_bind (wpAny_of_eq flk3 (wpAny_bind (wpAny_pure (wpAny_bind (wpAny_pure ?_)))))
 dsimp only
 unfold ownThenClass
 refine wpAny_bind ?_
 unfold inOwnDict ownDict
 refine wpAny_bind (wpAny_bind (wpAny_loadPart hx ?_))
 rw [hdt]
 unfold instanceDict
 refine wpAny_bind (wpAny_loadPart hx ?_)
 rw [hc]
 dsimp only
 rw [hdi]
 refine wpAny_pure ?_
 refine wpAny_nsGet (s := ⟨h, g, d, t, os⟩) n ?_
 rw [hm]
 exact wpAny_bind (wpAny_rule (wpAny_pure (wpAny_pure hq)))
theorem fn_getAttr {Q : Value → Shared → Prop} {ex : Bool} (hx : h.get? a = some o) (hc : o.cls = .type "function") (hdt : o.data = .func fd) (hdi : o.dict = some D) (n : h.Ns D m) (hm : m "read" = some v) (hv : W.handedIn v = true)
  (hq : Q v ⟨h, g, d, t + 1, os⟩) : wpAny (model prog w) A (getAttr (.ref a) "read" ex) Q E ⟨h, g, d, t, os⟩ := by
 have hT1 : (⟨h, g, d, t + 1, os⟩ : Shared).TypeIs (.ref a) "function" := ⟨_, hx, hc⟩
 unfold getAttr
 refine wpAny_bind (wpAny_mkText ?_)
 unfold getAttrBy
 refine wpAny_holding (wpAny_bind (wpAny_typeOf hT1 (wpAny_bind (wpAny_of_eq fslot.lookup ?_))))
 dsimp only
 rw [if_neg (by decide)]
 unfold getAttrByItsOwn
 refine wpAny_bind (wpAny_pure (wpAny_bind (wpAny_attempt (wpAny_holding ?_))))
 unfold callGetattribute
 rw [if_neg (show ¬ (ex && onTheHeap (Value.builtin "object.__getattribute__")) = true by cases ex <;> decide)]
 unfold boundAndCalled
 rw [fslot.bind]
 refine wpAny_bind (wpAny_pure (wpAny_call ?_))
 refine codeAny_call_builtin fslot.plain fentry (fslot.check _ _ _ _ _ _ _ _ hT1 (fargs _ _) (fn_entry hx hc hdt hdi n hm ?_))
 show wpAny _ _ (handedOut v) _ _ _
 rw [W.handedOut_of hv]
 exact wpAny_pure hq
theorem fn_getMethod {Q : Value × List Value → Shared → Prop} {pl : Sem Bool} (hx : h.get? a = some o) (hc : o.cls = .type "function") (hdt : o.data = .func fd) (hdi : o.dict = some D) (n : h.Ns D m) (hm : m "read" = some v) (hv : W.handedIn v = true)
  (hq : Q (v, []) ⟨h, g, d, t + 1, os⟩) : wpAny (model prog w) A (getMethod (.ref a) "read" pl) Q E ⟨h, g, d, t, os⟩ := by
 have hT : (⟨h, g, d, t, os⟩ : Shared).TypeIs (.ref a) "function" := ⟨_, hx, hc⟩
 have hcan := PySem.F.canon_object_ga
 unfold getMethod
 refine wpAny_bind (wpAny_specialOf hT fslot.lookup ?_)
 dsimp only
 rw [hcan, if_neg (by decide)]
 refine wpAny_bind (wpAny_specialOf hT flk2 ?_)
 rw [if_neg (by decide)]
 refine wpAny_bind (wpAny_specialOf hT flk3 ?_)
 exact wpAny_bind (fn_getAttr hx hc hdt hdi n hm hv (wpAny_pure hq))
end
end Mine
namespace Mine
open PySem PySem.Spec PySem.Calls PyProof.Rows
theorem pop_type : typeOf (.builtin "list.pop") = pure (.type "method_descriptor") := by kernel_rfl
section
variable {K : KX} {mg mb : Str → Option Value} {r : Nat} {ρ : Rho} {hp : List O}
structure ReadText (K : KX) (size : Str) (body : List Stmt) : Prop where
 bd : K.readFd.body = .stmts body
 form : ∃ p1 p2 p3 k p4 p5 p6 p7 p8 p9 p10, body = [.If (.Compare (.Name "left" p1) [.Eq] [.List [] p2] p3) [.Return (some (.Constant (.str ⟨#[]⟩) k p4)) p5] [] p6,
  .Return (some (.Call (.Attribute (.Name "left" p7) "pop" p8) [] [] p9)) p10] ∧ (p8.endLine == p9.line) = true
 co : K.readFd.scope.isCoroutine = false
 gen : K.readFd.scope.isGenerator = false
 kd : K.readFd.scope.kind = .function
 nc : ∀ x ∈ K.readFd.scope.names, x.2 ≠ .cell
 lf : K.readFd.scope.names.lookup ("left" : Str) = some NameKind.free
 sz : K.readFd.scope.names.lookup size = some NameKind.local
 bind : ∀ (fd : FuncData), fd.params = K.readFd.params → fd.defaults = .none → fd.kwdefaults = .none → ∀ v, bindArgs fd ⟨[v], []⟩ = pure [(size, v)]
noncomputable def strL (l : List Nat) : PyData := .list (l.reverse.map fun c => .str ⟨#[c]⟩)
noncomputable def readS (j : Nat) (Q : V → List O → Prop) (hp : List O) : Prop := match hp[j]? with
 | some (.stream []) => Q (.d (.str ⟨#[]⟩)) hp
 | some (.stream (c :: l)) => (l.length + 1 ≤ sizeLine ∧ okD (strL (c :: l)) = true) ∧ Q (.d (.str ⟨#[c]⟩)) (hp.set j (.stream l))
 | _ => False
theorem read_call (G : KG K mg mb) {size : Str} {body : List Stmt} (X : ReadText K size body) {A : Around} (ok : OkA (r + 1) A) {j : Nat} {p : P} {l : List Nat} {s : Shared} {Q : V → List O → Prop} {E : Value → Shared → Prop} (H : HRel K ρ hp s.heap) (e : hp[j]? = some (.stream l)) (ep : ρ[j]? = some p)
  (q : readS j Q hp) {v : Value} : ∃ d : SD, SA K.readFd s.heap p d ∧ ∀ t, codeAny (model K.prog K.w) A (.call (.ref d.R) ⟨[v], []⟩) (fun r s' => match r with | .ok (.ret v) => PostE K ρ s Q v s' | .ok _ => False | .error e => E e s') { s with toks := t } := by
 obtain ⟨d, Y, f1, f4⟩ := H.at e ep
 refine ⟨d, Y, fun t => ?_⟩
 refine codeAny_call_function (fd := d.rfd) (s := { s with toks := t }) (by have := ok.dp; lia) Y.c1 Y.c4 (by rw [Y.c9]; exact X.co) (by rw [Y.c9]; exact X.gen) (Y.c8.trans X.bd) ⟨d.cc, d.oc', d.cvs, d.t, Y.d1, Y.d2, Y.d3, Y.d4⟩ ?_
 rw [X.bind d.rfd Y.c7 Y.c12 Y.c13 v]
 refine wpAny_pure ?_
 rw [Y.c9, Y.c11]
 refine wpAny_newFunctionEnv X.nc (by intro x hx; simp at hx; subst hx; exact X.sz) (fun h₁ hns hsb => ?_) X.kd
 dsimp only at hns hsb ⊢
 have keep : ∀ b o, s.heap.get? b = some o → h₁.get? b = some o := by
  intro b o eb
  have hb : b ≠ s.heap.objs.size := Nat.ne_of_lt (Heap.lt_size eb)
  exact (hsb.2 b hb).trans (Heap.get?_push_of_some _ eb)
 have H₁ : HRel K ρ hp h₁ := H.grow keep
 have S₁ : Step K ρ s.heap ρ h₁ := Step.grow keep
 refine ⟨H₁.limOf G, codeAny_func ?_⟩
 obtain ⟨p1, p2, p3, k, p4, p5, p6, p7, p8, p9, p10, rfl, hline⟩ := X.form
 generalize hE : newEnv K.readFd.scope s.heap.objs.size d.rfd.globals [(("left" : Str), d.c)] (d.rfd.qualname ++ Str.ofString ".<locals>.") (some d.R) d.rfd.code none d.rfd.builtins = env
 have hkd : env.scope.kind = .function := by rw [← hE]; exact X.kd
 have hkl : env.kindOf "left" = some .free := by rw [← hE]; exact X.lf
 have hcl : env.cells.lookup ("left" : Str) = some d.c := by rw [← hE]; rfl
 have left : ∀ {s' : Shared} {pos : Pos} {Q' : Value → Shared → Prop} {E' : Value → Shared → Prop} {A' : Around}, s'.heap.get? d.c = some d.oc → Q' (.ref p.m) s' → wpAny (model K.prog K.w) A' (eval (.Name "left" pos) env) Q' E' s' := by
  intro s' pos Q' E' A' hc' hq'
  exact wpAny_Name (wpAny_loadName_free hkd hkl hcl ⟨d.oc, hc', Y.e2⟩ hq' (by decide)) (by decide)
 refine wpAny_execs_cons (wpAny_If (wpAny_isTrue_Compare1 (left (keep _ _ Y.e1) ?_) rfl))
 have ok' : (A.deeper env).units + 60 < cLine := by have := ok.un; show A.units + 3 + 60 < _; lia
 show wpAny _ _ (do standAt p2; newList (← spliced (backTo p2 (starEach [] env)))) _ _ _
 refine wpAny_bind (wpAny_standAt (wpAny_bind (spliced_none (wpAny_newList ?_ (Nat.zero_le _)))))
 have new₂ : (h₁.push { cls := .type "list", data := .seq ([] : List Value).toArray }).get? h₁.objs.size = some { cls := .type "list", data := .seq ([] : List Value).toArray } := Heap.get?_push_size _ rfl
 have keep₂ : ∀ b o, h₁.get? b = some o → (h₁.push { cls := .type "list", data := .seq ([] : List Value).toArray }).get? b = some o := fun b o e => Heap.get?_push_of_some _ e
 have H₂ : HRel K ρ hp (h₁.push { cls := .type "list", data := .seq ([] : List Value).toArray }) := H₁.push { cls := .type "list", data := .seq ([] : List Value).toArray }
 have S₂ : Step K ρ s.heap ρ (h₁.push { cls := .type "list", data := .seq ([] : List Value).toArray }) := S₁.trans (Step.push ..)
 generalize (h₁.push { cls := .type "list", data := .seq ([] : List Value).toArray }) = h₂ at new₂ keep₂ H₂ S₂ ⊢
 have L₁ : IsL h₂ p.m d.vs d.n := keep₂ _ _ (keep _ _ f1)
 have f4' : DRs h₂ (mu ρ) d.vs.toList (l.reverse.map fun c => .str ⟨#[c]⟩) := f4.step S₂ H
 obtain ⟨as, ra⟩ := f4'.reads
 have R1 : Reads h₂ (.ref p.m) (.list (l.reverse.map fun c => .str ⟨#[c]⟩)) _ := .list L₁ rfl rfl ra
 have R2 : Reads h₂ (.ref h₁.objs.size) (.list []) _ := .list new₂ rfl rfl .nil
 have hlay : (PyData.list (l.reverse.map fun c => .str ⟨#[c]⟩)).canLay0 = true := by
  unfold readS at q
  rw [e] at q
  cases l with
  | nil => rfl
  | cons c l => exact (okD_lay q.1.2).1
 refine SeqAt.compareEq_reads R1 R2 hlay rfl ?_ ?_
 ·have : (PyData.list []).depth ≤ 50 := by decide
  have := Nat.min_le_right (PyData.list (l.reverse.map fun c => .str ⟨#[c]⟩)).depth (PyData.list []).depth
  lia
 refine wpAny_truthy_bool ?_
 unfold readS at q
 rw [e] at q
 cases l with
 | nil =>
  refine wpAny_execs_cons (wpAny_Return_some (wpAny_Constant_str ?_))
  exact ⟨.d (.str ⟨#[]⟩), hp, ρ, _, _, rfl, q, H₂, S₂, .str ..⟩
 | cons x l =>
  have hne : (PyData.list ((x :: l).reverse.map fun c => .str ⟨#[c]⟩)).eqv (.list []) = false := by
   cases hh : (x :: l).reverse.map (fun c => (PyData.str ⟨#[c]⟩ : PyData)) with
   | nil => simp at hh
   | cons a b => rfl
  rw [hne]
  refine wpAny_execs_nil ?_
  refine wpAny_execs_cons (wpAny_Return_some ?_)
  refine wpAny_Call_method_lateS rfl rfl hline (left (keep₂ _ _ (keep _ _ Y.e1)) ?_)
  refine ⟨"list", "list.pop", PySem.F.plainAttrs_list, PySem.F.slot_list_pop, pop_type, ⟨_, L₁, rfl⟩, (fun a e => by cases e; exact ⟨_, L₁, rfl⟩), callWith_builtin rfl (spliced_none ?_)⟩
  have z := f4'.length
  simp only [Array.length_toList, List.length_map, List.length_reverse, List.length_cons] at z
  obtain ⟨y, ey, dy⟩ := f4'.get (k := d.vs.size - 1) (x := .str ⟨#[x]⟩) (by rw [z]; simp)
  refine call_meets PySem.F.slot_list_pop ⟨_, L₁, rfl⟩ PySem.F.entry_list_pop (PySem.F.args_list_pop_1 _) (MeetsSeq.list_pop_last p.m d.vs d.n y (by simpa using ey) (by have := q.1.1; lia)) ⟨L₁, ?_⟩
  have hs : Heap.SameBut p.m h₂ (h₂.update p.m (Obj.mapSeq fun xs => xs.eraseIdxIfInBounds (d.vs.size - 1))) := Heap.SameBut.update ..
  have hu := L₁.update (fun xs => xs.eraseIdxIfInBounds (d.vs.size - 1))
  have S₃ : Step K ρ h₂ ρ (h₂.update p.m (Obj.mapSeq fun xs => xs.eraseIdxIfInBounds (d.vs.size - 1))) := Step.own (List.mem_of_getElem? ep) hs ⟨_, hu⟩
  have H₃ : HRel K ρ (hp.set j (.stream l)) (h₂.update p.m (Obj.mapSeq fun xs => xs.eraseIdxIfInBounds (d.vs.size - 1))) := by
   refine H₂.own ep (List.getElem?_eq_some_iff.mp e).1 hs ?_ ⟨_, hu⟩
   have fx := H.fx p (List.mem_of_getElem? ep)
   have hpm : p.m ∈ mu ρ := List.mem_map.mpr ⟨p, List.mem_of_getElem? ep, rfl⟩
   have kk : ∀ b o, b ∈ p.f → s.heap.get? b = some o → (h₂.update p.m (Obj.mapSeq fun xs => xs.eraseIdxIfInBounds (d.vs.size - 1))).get? b = some o := by
    intro b o hb eb
    refine (hs.2 b ?_).trans (keep₂ _ _ (keep _ _ eb))
    rintro rfl; exact (fx _ hb).1 hpm
   exact ⟨{ d with vs := d.vs.eraseIdxIfInBounds (d.vs.size - 1), n := _ }, (Y.keeps (fun b o e m => kk b o m e)).vs _ _, hu, by
    show DRs _ _ (d.vs.eraseIdxIfInBounds (d.vs.size - 1)).toList _
    rw [erase_last]
    have := (f4'.step S₃ H₂).dropLast
    simpa using this⟩
  exact ⟨.d (.str ⟨#[x]⟩), _, ρ, _, _, rfl, q.2, H₃, S₂.trans S₃, dy.step S₃ H₂⟩
end
section
variable {K : KX} {mg mb : Str → Option Value} {r : Nat} {env : Env} {look : Str → Option Nat} {ρ : Rho} {hp : List O}
noncomputable def xRead (a : XE) : XE := fun vs Q => a vs fun v hp => match v with | .r j => readS j Q hp | _ => False
theorem e_read (G : KG K mg mb) {size : Str} {body : List Stmt} (X : ReadText K size body) {o : Expr} {apos pos cp : Pos} {ck : Nat} {i : Int} {a : XE} (ho : SoundE K (r + 1) env look o a)
  (hbase : attributeBase o "read" env (eval o env) = eval o env) (hline : (apos.endLine == pos.line) = true)
  (he : backTo pos (starEach [.Constant (.int i) ck cp] env) = [(false, eval (.Constant (.int i) ck cp) env)]) :
  SoundE K (r + 1) env look (.Call (.Attribute o "read" apos) [.Constant (.int i) ck cp] [] pos) (xRead a) := by
 intro A ok vs Q hp ρ s E q FR H
 rw [arm_eval_Call, hbase]
 refine wpAny_bind (ho.then ok q FR H ?_)
 intro v hp₁ ρ₁ h₁ t₁ rv q₁ H₁ S₁ r₁ F₁
 refine wpAny_bind (wpAny_standAt ?_)
 have hpos : methodCallPos true o env apos pos = pure pos := by unfold methodCallPos; simp [hline]
 have hform : methodCallForm ([Expr.Constant (.int i) ck cp].length + ([] : List Keyword).length) (backTo pos (starEach [.Constant (.int i) ck cp] env)) (backToKw pos (keywordEach [] env)) = true := by
  rw [he]; rfl
 unfold methodCall
 rw [hform, he]
 cases v with
 | r j =>
  obtain ⟨p, ep, rfl⟩ := r₁
  obtain ⟨l, e⟩ : ∃ l, hp₁[j]? = some (.stream l) := by
   change (match hp₁[j]? with | some (.stream []) => _ | some (.stream (c :: l)) => _ | _ => False) at q₁
   revert q₁
   generalize hp₁[j]? = o
   intro q
   cases o with
   | none => exact q.elim
   | some o => cases o with
    | stream l => exact ⟨l, rfl⟩
    | _ => exact q.elim
  obtain ⟨d, Y, hc⟩ := read_call (s := { s with heap := h₁, toks := t₁ }) (Q := Q) (E := E) (v := .int i (t₁ + 1)) G X ok H₁ e ep q₁
  refine wpAny_bind (wpAny_holding (fn_getMethod Y.a1 Y.a2 Y.a4 Y.a3 Y.b3 Y.b6 rfl ?_))
  refine wpAny_bind (wpAny_of_eq hpos ?_)
  refine callWith_function_kw (o := d.oR) (fd := d.rfd) ?_
  show wpAny _ A (evalArgs (.ref d.R) true [(false, eval (.Constant (.int i) ck cp) env)] []) _ _ _
  refine Calls.evalArgs_plain (Calls.spliced_cons (wpAny_Constant_int (Calls.spliced_nil ?_)))
  refine ⟨⟨Y.c1, Y.c4⟩, wpAny_mono (wpAny_call (hc _)) (fun _ _ z => PostE.after S₁ z) (fun _ _ z => z)⟩
 | _ => exact q₁.elim
end
noncomputable def compOk (scope : Scope) (env : Env) (look : Str → Option Nat) (on : List Str) : Bool :=
 decide (scope.kind = .function) && scope.names.all fun x => decide (x.2 ≠ .cell) &&
  (decide (x.2 ≠ .free) || ((decide (env.kindOf x.1 = some .cell) || decide (env.kindOf x.1 = some .free)) && (lk on x.1).isNone)) &&
  (decide (x.2 ≠ .local) || (((lk on x.1).isSome || (look x.1).isNone) && decide (scope.names.lookup x.1 = some .local)))
theorem compOk_out {scope : Scope} {env : Env} {look : Str → Option Nat} {on : List Str} (h : compOk scope env look on = true) :
  scope.kind = .function ∧ (∀ x ∈ scope.names, x.2 ≠ .cell) ∧ (∀ x ∈ scope.names, x.2 = .free → (env.kindOf x.1 = some .cell ∨ env.kindOf x.1 = some .free) ∧ lk on x.1 = none) ∧
   (∀ x ∈ scope.names, x.2 = .local → lk on x.1 = none → look x.1 = none) ∧ (∀ x ∈ scope.names, x.2 = .local → scope.names.lookup x.1 = some .local) := by
 unfold compOk at h
 simp only [Bool.and_eq_true, decide_eq_true_eq, List.all_eq_true, Bool.or_eq_true, Option.isNone_iff_eq_none] at h
 obtain ⟨h1, h2⟩ := h
 refine ⟨h1, fun x hx => (h2 x hx).1.1, fun x hx hf => ?_, fun x hx hl hn => ?_, fun x hx hl => ?_⟩
 ·rcases (h2 x hx).1.2 with z | z
  ·exact absurd hf z
  ·exact z
 ·rcases (h2 x hx).2 with z | z
  ·exact absurd hl z
  ·rcases z.1 with y | y
   ·rw [hn] at y; cases y
   ·exact y
 ·rcases (h2 x hx).2 with z | z
  ·exact absurd hl z
  ·exact z.2
section
variable {K : KX} {r : Nat} {env : Env} {look : Str → Option Nat}
theorem e_compB {elt target iter : Expr} {ifs : List Expr} {scope : Scope} {pos : Pos} (on : List Str) {m : Bool} {tgt : XT} {it : XE} {pi : XB} {pe : XE}
  (hit : SoundE K r env look iter it)
  (ht : ∀ cl C, SoundTL K r (compEnvC scope cl C env) (lkC on look) target tgt) (hi : ∀ cl C, SoundI K r (compEnvC scope cl C env) (lkC on look) ifs pi) (he : ∀ cl C, SoundE K r (compEnvC scope cl C env) (lkC on look) elt pe)
  (hok : compOk scope env look on = true) (hs : ∀ x, foldedSetIterable iter env x = pure x) :
  SoundE K r env look (.ListComp elt [⟨target, iter, ifs, 0⟩] scope pos) (xComp m on.length tgt it pi pe) :=
 let ⟨a, b, c, d, e⟩ := compOk_out hok
 e_comp on hit ht hi he a b c d e hs
end
end Mine
namespace Mine
open PySem PySem.Spec PySem.Calls PyProof.Rows Builtin Builtin.Re
theorem re_slot : Slot "re.Pattern" "search" "re.Pattern.search" :=
 .of (owner := "re.Pattern") (n := "search") (by rw [typeLookup_type, builtinLookup_eq_fast]; kernel_rfl) (by decide +kernel) (by decide +kernel) (by decide +kernel)
  (by first | exact .inl (by decide +kernel) | exact .inr (by decide +kernel)) (by rw [isSubtype_type]; kernel_rfl)
theorem re_entry : entryFor table "re.Pattern.search" = some Builtin.«re.Pattern.search» := entryFor_of_tree (by kernel_rfl)
theorem re_args (a b : Value) : argsOk "re.Pattern.search" ⟨[a, b], []⟩ := by unfold argsOk; kernel_rfl
theorem re_type : typeOf (.builtin "re.Pattern.search") = pure (.type "method_descriptor") := by kernel_rfl
theorem re_plain : PlainAttrs "re.Pattern" := ⟨⟨"object.__getattribute__", by rw [typeLookup_type, builtinLookup_eq_fast]; kernel_rfl, by decide +kernel⟩, by rw [typeLookup_type, builtinLookup_eq_fast]; kernel_rfl⟩
noncomputable def nameCode : Array Nat := #[14, 10, 4, 1, 1, 22, 0, 31, 16, 127, 0, 13, 7, 22, 0, 31, 16, 127, 0, 1]
noncomputable def valueCode : Array Nat := #[14, 14, 4, 1, 1, 9, 4294966783, 0, 0, 2147483648, 0, 0, 0, 0, 0, 13, 11, 9, 4294966783, 0, 0, 2147483648, 0, 0, 0, 0, 0, 1]
noncomputable def okC (c : Nat) : Bool := decide (32 ≤ c) && decide (c < 127)
theorem inSet_name {c : Nat} (h : okC c = true) (seen : Sre.Seen) : ∃ seen', Sre.inSet nameCode c 20 5 true seen = .ok (false, seen') := by
 simp only [okC, Bool.and_eq_true, decide_eq_true_eq] at h
 refine ⟨((seen.add 22).add 16).add 0, ?_⟩
 show (if (decide (0 ≤ c) && decide (c ≤ 31)) = true then _ else if (c == 127) = true then _ else (Except.ok (false, ((seen.add 22).add 16).add 0) : Except String (Bool × Sre.Seen))) = _
 rw [if_neg (by simp; lia), if_neg (by simp; lia)]
theorem val_bits : ∀ c : Fin 127, 32 ≤ c.val → (valueCode.getD (5 + (1 + c.val / 32)) 0).testBit (c.val % 32) = false := by decide +kernel
theorem inSet_value {c : Nat} (h : okC c = true) (seen : Sre.Seen) : ∃ seen', Sre.inSet valueCode c 28 5 true seen = .ok (false, seen') := by
 simp only [okC, Bool.and_eq_true, decide_eq_true_eq] at h
 refine ⟨(seen.add 9).add 0, ?_⟩
 show (if (decide (c < 256) && (valueCode.getD (5 + (1 + c / 32)) 0).testBit (c % 32)) = true then _ else (Except.ok (false, (seen.add 9).add 0) : Except String (Bool × Sre.Seen))) = _
 have := val_bits ⟨c, h.2⟩ h.1
 simp only at this
 rw [if_neg (by rw [this]; simp)]
noncomputable def okCode (code : Array Nat) : Prop := code = nameCode ∨ code = valueCode
theorem inSet_ok {code : Array Nat} (hc : okCode code) {c : Nat} (h : okC c = true) (seen : Sre.Seen) : ∃ seen', Sre.inSet code c code.size 5 true seen = .ok (false, seen') := by
 rcases hc with rfl | rfl
 ·exact inSet_name h seen
 ·exact inSet_value h seen
theorem admitted_none {m : Sre.M} (hc : okCode m.code) (ht : ∀ k, k < m.lim → okC (m.text.getD k 0) = true) : ∀ (fuel s : Nat) (seen : Sre.Seen), ∃ seen', Sre.M.admitted m fuel s seen = .ok (none, seen')
 | 0, s, seen => ⟨_, rfl⟩
 | fuel + 1, s, seen => by
  unfold Sre.M.admitted
  by_cases hs : s ≥ m.lim
  ·exact ⟨seen, by rw [if_pos hs]⟩
  ·rw [if_neg hs]
   obtain ⟨seen', e⟩ := inSet_ok hc (ht s (by lia)) seen
   rw [e]
   exact admitted_none hc ht fuel (s + 1) seen'
theorem from_none {m : Sre.M} (hc : okCode m.code) (ht : ∀ k, k < m.lim → okC (m.text.getD k 0) = true) (s : Nat) (first : Bool) : ∃ seen', m.attemptFrom s first = { m with seen := seen', answer := some false } := by
 unfold Sre.M.attemptFrom
 have : m.hasFirstSet = true := by
  unfold Sre.M.hasFirstSet
  rcases hc with e | e <;> rw [e] <;> decide +kernel
 rw [this]
 obtain ⟨seen', e⟩ := admitted_none hc ht (m.lim + 1 - s) s m.seen
 rw [if_neg (by decide), e]
 exact ⟨seen', rfl⟩
theorem search_none {code text : Array Nat} (hc : okCode code) (ht : ∀ k, k < text.size → okC (text.getD k 0) = true) :
  (Sre.forSearch code text 0 0 text.size false).outcome = none ∧ (Sre.forSearch code text 0 0 text.size false).answer = some false ∧ (Sre.forSearch code text 0 0 text.size false).frames = [] := by
 unfold Sre.forSearch
 dsimp only
 split
 ·exact ⟨rfl, rfl, rfl⟩
 ·rename_i h
  generalize hm : ({ (_ : Sre.M) with lastStart := _ } : Sre.M) = m
  have e1 : m.code = code := by rw [← hm]; rfl
  have e2 : m.text = text := by rw [← hm]; rfl
  have e3 : m.lim = text.size := by rw [← hm]; rfl
  have e4 : m.outcome = none := by rw [← hm]; rfl
  have e5 : m.frames = [] := by rw [← hm]; rfl
  obtain ⟨seen', e⟩ := from_none (m := m) (by rw [e1]; exact hc) (by rw [e2, e3]; exact ht) 0 true
  rw [e]
  exact ⟨e4, rfl, e5⟩
theorem run_none {m : Sre.M} (h1 : m.outcome = none) (h2 : m.answer = some false) (h3 : m.frames = []) : m.runFor reTurnSteps = { m with outcome := some .failed } := by
 have s1 : m.step = { m with outcome := some .failed } := by
  unfold Sre.M.step
  rw [h1, h2, h3]
  rfl
 show Sre.M.runFor (3 + 1) m = _
 unfold Sre.M.runFor
 rw [h1, s1]
 rw [if_neg (by decide)]
 unfold Sre.M.runFor
 rfl
theorem re_named (v : Value) : reNamed "re.Pattern.search" "search" ["string", "pos", "endpos"] 1 [v] [] = pure [some v, none, none] := rfl
structure ReAt (K : KX) (a : Addr) : Prop where
 ob : ∃ o fs c oc vs n, K.h0.get? a = some o ∧ o.cls = .type "re.Pattern" ∧ o.data = .fields fs ∧ fs.getD 5 .none = .ref c ∧ reRawNat (fs.getD 2 .none) = 0 ∧ reRawNat (fs.getD 6 .none) = 0 ∧
  K.h0.get? c = some oc ∧ oc.cls = .type "tuple" ∧ oc.data = .seq vs n ∧ okCode ((vs.map reRawOf).map (·.toNat)) ∧ c ≠ K.tb
 tb : a ≠ K.tb
noncomputable def cleanS (x : Str) : Bool := x.cps.toList.all okC
theorem for_rules {M : Model} {A : Around} {E : Value → Shared → Prop} {s : Shared} {m : Sre.M} {l : List Nat} {Q : PUnit → Shared → Prop} (q : Q ⟨⟩ s) :
  wpAny M A (forIn l PUnit.unit fun i _ => if m.seen.has i = true then (do rule (Sre.names.getD i ""); pure (ForInStep.yield PUnit.unit)) else (pure (ForInStep.yield PUnit.unit) : Sem (ForInStep PUnit))) Q E s := by
 induction l with
 | nil => exact wpAny_pure q
 | cons i l ih =>
  rw [List.forIn_cons]
  refine wpAny_bind ?_
  split
  ·exact wpAny_bind (wpAny_rule (wpAny_pure ih))
  ·exact wpAny_pure ih
section
variable {K : KX} {r : Nat} {env : Env} {look : Str → Option Nat}
theorem re_call {A : Around} {s : Shared} {ρ : Rho} {hp : List O} {a : Addr} {x : Str} {t : Tok} {E : Value → Shared → Prop} {Q : Value → Shared → Prop} (R : ReAt K a) (H : HRel K ρ hp s.heap) (hx : cleanS x = true) (hz : x.length ≤ sizeLine) (q : Q .none s) :
  wpAny (model K.prog K.w) A (call (.builtin "re.Pattern.search") [.ref a, .str x t]) Q E s := by
 obtain ⟨o, fs, c, oc, vs, n, e1, e2, e3, e4, e5, e6, e7, e8, e9, hc, hct⟩ := R.ob
 have g1 := H.keep _ _ e1 R.tb
 have g7 := H.keep _ _ e7 hct
 have hT : s.TypeIs (.ref a) "re.Pattern" := ⟨o, g1, e2⟩
 refine wpAny_call_entry re_slot hT re_entry ?_ (re_args _ _)
 show wpAny _ _ (reTarget "re.Pattern.search" "search" ⟨[.ref a, .str x t], []⟩ >>= _) _ _ s
 refine wpAny_bind ?_
 unfold reTarget
 dsimp only
 rw [re_named]
 refine wpAny_bind (wpAny_pure ?_)
 dsimp only
 refine wpAny_bind (wpAny_pure (wpAny_bind (wpAny_pure (wpAny_bind (wpAny_fieldsOf g1 e3 ?_)))))
 refine wpAny_bind (m := reTextOf _) ?_
 unfold reTextOf
 refine wpAny_bind (wpAny_pure ?_)
 refine wpAny_pure ?_
 dsimp only
 rw [e6]
 rw [if_neg (by decide)]
 refine wpAny_bind (wpAny_pure ?_)
 try rw [if_neg (by decide)]
 refine wpAny_bind ?_
 unfold reRawItems
 rw [e4]
 refine wpAny_bind (wpAny_seqItems g7 e9 (wpAny_pure (wpAny_pure ?_)))
 dsimp only
 rw [e5]
 have h63 : (2 ^ 63 - 1 : Int).toNat = 2 ^ 63 - 1 := by decide
 have h' : x.cps.size ≤ sizeLine := hz
 rw [sizeLine_eq] at h'
 have hl : Min.min (2 ^ 63 - 1 : Int).toNat x.cps.size = x.cps.size := Nat.min_eq_right (by lia)
 rw [hl]
 have ht : ∀ k, k < x.cps.size → okC (x.cps.getD k 0) = true := by
  intro k hk
  have := List.all_eq_true.mp hx (x.cps[k]) (by simp)
  simpa [Array.getD, hk] using this
 obtain ⟨m1, m2, m3⟩ := search_none hc ht
 have m4 := run_none m1 m2 m3
 rw [Option.getD_some]
 revert m4
 show (Sre.forSearch _ x.cps 0 0 x.cps.size false).runFor reTurnSteps = _ → wpAny _ _ (reAnswer _ (Sre.forSearch _ x.cps 0 0 x.cps.size false)) _ _ _
 generalize Sre.forSearch _ x.cps 0 0 x.cps.size false = m
 intro m4
 unfold reAnswer reRunToEnd
 refine wpAny_bind (wpAny_bind ?_)
 have e64 : (2 ^ 64 : Nat) = (2 ^ 64 - 1) + 1 := by decide
 rw [e64]
 generalize (2 ^ 64 - 1 : Nat) = N
 unfold reDrive
 dsimp only
 rw [m4]
 rw [if_pos (by rfl)]
 refine wpAny_pure (wpAny_bind ?_)
 refine for_rules ?_
 exact wpAny_pure (wpAny_pure ⟨.none, rfl, q⟩)
end
end Mine
namespace Mine
open PySem PySem.Spec PySem.Calls PyProof.Rows
section
variable {K : KX} {r : Nat} {env : Env} {look : Str → Option Nat}
noncomputable def xRe (ps : List Addr) (a b : XE) : XE := fun vs Q => a vs fun v hp => match v with
 | .g (.ref p) => p ∈ ps ∧ b vs (fun w hp => match w with
  | .d (.str x) => cleanS x = true ∧ x.length ≤ sizeLine ∧ Q (.d .none) hp
  | _ => False) hp
 | _ => False
theorem e_re {ps : List Addr} (X : ∀ p ∈ ps, ReAt K p ∧ ∀ o, K.h0.get? p = some o → o.dict = none) {o e : Expr} {apos pos : Pos} {a b : XE} (ho : SoundE K r env look o a) (hb : SoundE K r env look e b)
  (hbase : attributeBase o "search" env (eval o env) = eval o env)
  (hfew : ((backTo pos (starEach [e] env)).all (fun x => !x.1) && (backToKw pos (keywordEach [] env)).all (fun x => x.1.isSome)
   && decide ([e].length + ([] : List Keyword).length + (if ([] : List Keyword).isEmpty then 0 else 1) < 30)) = true)
  (he : starEach [e] env = (false, eval e env) :: starEach [] env)
  (hline : (apos.endLine == pos.line) = true) : SoundE K r env look (.Call (.Attribute o "search" apos) [e] [] pos) (xRe ps a b) := by
 intro A ok vs Q hp' ρ s E q F H
 refine wpAny_Call_method_lateS hbase hfew hline (ho.then ok q F H ?_)
 intro vo hp₁ ρ₁ h₁ t₁ ra q₁ H₁ S₁ r₁ F₁
 split at q₁
 ·rename_i v p
  obtain ⟨rfl, hv⟩ := r₁
  obtain ⟨hp, q₁⟩ := q₁
  have ls : SoundL K r env look [e] (lCons b lNil) := l_cons hb l_nil he
  have base := ls A ok pos vs (fun l hp => match l with
   | [.d (.str x)] => cleanS x = true ∧ x.length ≤ sizeLine ∧ Q (.d .none) hp
   | _ => False) hp₁ ρ₁ { s with heap := h₁, toks := t₁ } E (by
    show b vs _ hp₁
    refine cast ?_ q₁
    congr 1
    funext w hp
    cases w with
    | d x => cases x <;> rfl
    | _ => rfl) F₁ H₁
  obtain ⟨o, fs, c, oc, vs', n, e1, e2, _⟩ := (X p hp).1.ob
  have ed := (X p hp).2 o e1
  have g1 := H₁.keep _ _ e1 (X p hp).1.tb
  refine ⟨"re.Pattern", "re.Pattern.search", re_plain, re_slot, re_type, ⟨o, g1, e2⟩, (fun a' e' => by cases e'; exact ⟨o, g1, ed⟩), callWith_builtin ?_ ?_⟩
  ·have := hfew
   simp only [Bool.and_eq_true, List.all_eq_true, Bool.not_eq_true'] at this
   rw [List.any_eq_false]
   intro y hy; simpa using this.1.1 y hy
  ·refine wpAny_mono base ?_ (fun _ _ x => x)
   rintro rvs s' ⟨l', hp₂, ρ₂, h₂, t₂, rfl, q₂, H₂, S₂, r₂⟩
   split at q₂
   ·rename_i x
    cases r₂ with
    | cons ra rb =>
     cases rb
     cases ra with
     | str _ t => exact re_call (X _ hp).1 H₂ q₂.1 q₂.2.1 (PostE.after (S₁.trans S₂) (PostE.pure0 (s := { s with heap := h₂, toks := t₂ }) q₂.2.2 H₂ DR.none))
   ·exact q₂.elim
 ·exact q₁.elim
noncomputable def sDead : XS := fun _ _ _ => False
theorem s_dead {e : Stmt} : SoundS K r env look e sDead := fun A ok vs Q hp ρ s E q F H => q.elim
end
end Mine
namespace Mine
open PySem PySem.Spec PySem.Calls PyProof.Rows Builtin Builtin.ObjectAttr
theorem sslot : Slot "function" "__setattr__" "object.__setattr__" :=
 .of (owner := "object") (n := "__setattr__") (by rw [typeLookup_type, builtinLookup_eq_fast]; kernel_rfl) (by decide +kernel) (by decide +kernel) (by decide +kernel)
  (by first | exact .inl (by decide +kernel) | exact .inr (by decide +kernel)) (by rw [isSubtype_type]; kernel_rfl)
theorem sargs (a b c : Value) : argsOk "object.__setattr__" ⟨[a, b, c], []⟩ := by unfold argsOk; kernel_rfl
theorem fmro : ∃ l, mroOf (.type "function") = pure l ∧ ∀ self, refuseLoop self "__setattr__" l = pure () := by
 refine ⟨[.type "function", .type "object"], by kernel_rfl, fun self => ?_⟩
 kernel_rfl
section
variable {prog : Program} {w : World} {A : Around} {E : Value → Shared → Prop} {h : Heap} {g : Array GenState} {d : Drawn} {t : Nat} {os : OsState} {a : Addr} {o : Obj} {v : Value} {fd : FuncData}
theorem fn_setAttr {Q : Unit → Shared → Prop} (hx : h.get? a = some o) (hc : o.cls = .type "function") (hdt : o.data = .func fd) (hdi : o.dict = none)
  (hq : ∀ h' D m tk, h.get? D = none → h'.get? a = some { o with dict := some D } → h'.Ns D m → m "read" = some v → (∀ y, y ≠ ("read" : Str) → m y = none) →
   (∀ b ob, b ≠ a → h.get? b = some ob → h'.get? b = some ob) → Q () ⟨h', g, d, tk, os⟩) :
  wpAny (model prog w) A (setAttr (.ref a) "read" v) Q E ⟨h, g, d, t, os⟩ := by
 have hT : ∀ t, (⟨h, g, d, t, os⟩ : Shared).TypeIs (.ref a) "function" := fun t => ⟨_, hx, hc⟩
 obtain ⟨l, hl, hpass⟩ := fmro
 unfold setAttr
 refine wpAny_bind (wpAny_mkText ?_)
 refine wpAny_bind ?_
 refine wpAny_callSpecial?_slot (hT _) sslot ?_
 refine wpAny_call_entry sslot (hT _) PySem.F.entry_object_setattr ?_ (sargs _ _ _)
 rw [W.osa_eq]
 refine wpAny_bind ?_
 rw [refuse_eq]
 refine wpAny_bind (wpAny_typeOf (hT _) (wpAny_bind (wpAny_of_eq hl (wpAny_of_eq (hpass _) ?_))))
 refine wpAny_bind (wpAny_typeOf (hT _) (wpAny_bind (wpAny_of_eq flk3 (wpAny_bind (wpAny_pure ?_)))))
 dsimp only
 unfold storeInOwnDict
 refine wpAny_bind (wpAny_pure ?_)
 rw [if_neg (by decide)]
 refine wpAny_bind ?_
 unfold ownDictForStores
 dsimp only
 unfold instanceDict
 refine wpAny_bind (wpAny_loadPart hx ?_)
 rw [hc]
 dsimp only
 rw [hdi]
 dsimp only
 rw [if_neg (by decide)]
 rw [hdt]
 dsimp only
 have hxs : a ≠ h.objs.size := Nat.ne_of_lt (Heap.lt_size hx)
 have hx₁ : (h.push { cls := .type "dict", data := .dict #[] }).get? a = some o := Heap.get?_push_of_some _ hx
 refine wpAny_bind (wpAny_alloc' ?_)
 refine wpAny_bind (wpAny_update' hx₁ ?_)
 unfold dictMade
 dsimp only
 rw [if_neg (by decide)]
 refine wpAny_pure ?_
 have hgd : ((h.push { cls := .type "dict", data := .dict #[] }).update a fun o => { cls := o.cls, dict := some h.objs.size, data := o.data, slots := o.slots }).get? h.objs.size
   = some { cls := .type "dict", data := .dict #[] } :=
  (Heap.get?_update_ne _ _ _ _ hxs.symm).trans (Heap.get?_push_at rfl rfl)
 have hnd : ((h.push { cls := .type "dict", data := .dict #[] }).update a fun o => { cls := o.cls, dict := some h.objs.size, data := o.data, slots := o.slots }).Ns h.objs.size (fun _ => none) :=
  ⟨_, #[], _, hgd, rfl, fun e he => absurd he (by simp), fun _ => rfl⟩
 dsimp only
 unfold storeInDict newKeyGuard
 refine wpAny_bind (wpAny_pure (wpAny_bind (wpAny_nsSet1 (Heap.Ns1.of_empty hnd) fun h' hn' hs => ?_)))
 obtain ⟨oD, esD, epD, hoD, hdD, hcD⟩ := hn'.count (Within.cons "read" v Within.nil)
 refine wpAny_bind (wpAny_lookBehind hoD (by rw [hdD]; exact pastItsLine_dict (Nat.le_trans hcD (by rw [List.length_cons, List.length_nil, sizeLine_eq]; omega))) ?_)
 refine wpAny_pure ⟨_, rfl, wpAny_pure ?_⟩
 have hx' : h'.get? a = some { cls := o.cls, dict := some h.objs.size, data := o.data, slots := o.slots } := by
  refine (hs.2 a hxs).trans (Heap.get?_update_self _ hx₁ ?_)
  have hfr := (Heap.get?_some_iff.mp hx).2
  obtain ⟨oc, od, odt, osl⟩ := o
  cases odt <;> first | rfl | exact hfr
 refine hq h' h.objs.size _ _ (get?_beyond (Nat.le_refl _)) hx' hn'.ns (if_pos rfl) (fun y hy => if_neg hy) (fun b ob hb e => ?_)
 exact (hs.2 b (Nat.ne_of_lt (Heap.lt_size e))).trans ((Heap.get?_update_ne _ _ _ _ hb).trans (Heap.get?_push_of_some _ e))
end
end Mine
namespace Mine
open PySem PySem.Spec PySem.Calls PyProof.Rows
section
variable {K : KX} {mg mb : Str → Option Value} {r : Nat} {env : Env} {look : Str → Option Nat} {ρ : Rho} {hp : List O} {Kf : W.Frag}
noncomputable def sForE (k : Nat) : XS := fun vs Q hp => ∃ i, vs[k]? = some (some (.r i)) ∧ hp[i]? = some .edict ∧ Q .next vs hp
theorem s_forE {pn : Str} {k : Nat} {target : Expr} {body : List Stmt} {pp apos cpos pos : Pos} (hsm : ∃ o, K.h0.get? sysModules = some o) (hk : env.kindOf pn = some .local) (hl : look pn = some k) (hd : (pn == ("__debug__" : Str)) = false)
  (hbase : attributeBase (.Name pn pp) "items" env (eval (.Name pn pp) env) = eval (.Name pn pp) env) (hline : (apos.endLine == cpos.line) = true)
  (hs : ∀ x, foldedSetIterable (.Call (.Attribute (.Name pn pp) "items" apos) [] [] cpos) env x = pure x) :
  SoundS K r env look (.For target (.Call (.Attribute (.Name pn pp) "items" apos) [] [] cpos) body [] pos) (sForE k) := by
 rintro A ok vs Q hp ρ s E ⟨i, e1, e2, q⟩ F H
 have hi : i < ρ.length := by rw [H.len]; exact (List.getElem?_eq_some_iff.mp e2).1
 obtain ⟨pam, hd0⟩ := H.ob i .edict ρ[i] e2 (List.getElem?_eq_getElem hi)
 have hd0 : s.heap.get? ρ[i].m = some { cls := .type "dict", data := .dict #[] } := hd0
 obtain ⟨m, nn, f⟩ := F.ns
 obtain ⟨rv, f1, f2⟩ := f pn k (.r i) hk hl e1
 obtain ⟨p', ep, rfl⟩ := f2
 rw [List.getElem?_eq_getElem hi] at ep
 cases ep
 rw [pam] at f1
 have hS : (ρ[i].m == sysModules) = false := by
  rw [beq_eq_false_iff_ne]
  intro e
  obtain ⟨o, eo⟩ := hsm
  have := H.hi ρ[i] (List.getElem_mem hi)
  rw [e] at this
  rw [this] at eo; cases eo
 have hm : ∀ h' : Heap, (∀ b o, s.heap.get? b = some o → h'.get? b = some o) → h'.DictAt (strKind K.prog K.w) ρ[i].m [] 0 := fun h' kp => ⟨_, #[], kp _ _ hd0, ⟨rfl, rfl, rfl⟩, rfl, (fun e he => by simp at he), .nil, List.nodup_nil⟩
 refine wpAny_For (wpAny_Call_items (knd := strKind K.prog K.w) hS (hm _ (fun _ _ e => e)).dictOf hbase hline (fun Q' x => wpAny_Name (wpAny_loadName_local F.kd hk nn f1 x) hd) ?_) hs
 have k1 : ∀ b o, s.heap.get? b = some o → (s.heap.push { cls := .type "dict_items", data := .fields #[.ref ρ[i].m] }).get? b = some o := fun b o e => Heap.get?_push_of_some _ e
 refine wpAny_pyIter_items (knd := strKind K.prog K.w) (d := ρ[i].m) (kvs := []) (ep := 0) ⟨_, Heap.get?_push_size _ rfl, rfl, rfl⟩ (hm _ k1) ?_
 generalize s.heap.push { cls := .type "dict_items", data := .fields #[.ref ρ[i].m] } = h1 at k1 ⊢
 dsimp only
 have it2 : (h1.push { cls := .type "dict_itemiterator", data := .fields #[.none, .bool false, .ref ρ[i].m, .int 0 0, .int (([] : List (Str × Value)).length) 0, .int (0 : Nat) 0, .none, .none] }).get? h1.objs.size = _ := Heap.get?_push_size _ rfl
 have k2 : ∀ b o, s.heap.get? b = some o → (h1.push { cls := .type "dict_itemiterator", data := .fields #[.none, .bool false, .ref ρ[i].m, .int 0 0, .int (([] : List (Str × Value)).length) 0, .int (0 : Nat) 0, .none, .none] }).get? b = some o := fun b o e => Heap.get?_push_of_some _ (k1 b o e)
 have hI : ∀ b o, s.heap.get? b = some o → b ≠ h1.objs.size := fun b o e => Nat.ne_of_lt (Heap.lt_size (k1 b o e))
 generalize h1.push { cls := .type "dict_itemiterator", data := .fields #[.none, .bool false, .ref ρ[i].m, .int 0 0, .int (([] : List (Str × Value)).length) 0, .int (0 : Nat) 0, .none, .none] } = h2 at it2 k2 ⊢
 refine codeAny_forLoop_any (fun n s' => n = 0 ∧ s' = { s with heap := h2 }) ?_ 0 ⟨rfl, rfl⟩
 rintro n s' ⟨rfl, rfl⟩
 refine wpAny_pyNext_items_end (knd := strKind K.prog K.w) (kvs := []) (i := 0) ok.hh it2 (hm _ k2) rfl fun h' hx => ?_
 have k3 : ∀ b o, s.heap.get? b = some o → h'.get? b = some o := fun b o e => hx b o (hI b o e) (k2 b o e)
 have S : Step K ρ s.heap ρ h' := Step.grow k3
 exact wpAny_execs_nil ⟨.next, vs, hp, ρ, h', s.toks, rfl, q, F.step H S, H.grow k3, S.toS, trivial⟩
noncomputable def bKw (n : Nat) : BT := fun vas Q hp => vas.length = n ∧ Q (vas ++ [.r hp.length]) (hp ++ [.edict])
theorem b_kw {fd : FuncData} {n : Nat} {ps : List Str} (hn : ps.length = n + 1) (h : ∀ ras : List Value, ras.length = n → bindArgs fd ⟨ras, []⟩ = (alloc { cls := .type "dict", data := .dict #[] } >>= fun d => pure (ps.zip (ras ++ [.ref d])))) : SoundBind K fd [] ps (bKw n) := by
 intro A hh ρ hp s vas ras ks Q E hk q H R
 cases ks with
 | cons _ _ => simp at hk
 | nil =>
  rw [List.append_nil] at R
  have hl := R.length
  have e : ras.length = n := by rw [← hl]; exact q.1
  rw [show ([] : List Str).zip ([] : List Value) = [] from rfl, h ras e]
  have g : (s.heap.push { cls := .type "dict", data := .dict #[] }).get? s.heap.objs.size = some { cls := .type "dict", data := .dict #[] } := Heap.get?_push_size _ rfl
  obtain ⟨H', S'⟩ := H.add (fun b o e => Heap.get?_push_of_some { cls := .type "dict", data := .dict #[] } e) (p := ⟨s.heap.objs.size, s.heap.objs.size, []⟩) (o := .edict) (get?_beyond (Nat.le_refl _)) ⟨_, g⟩ (fun _ h => nomatch h) ⟨rfl, g⟩
  refine wpAny_bind (wpAny_alloc (wpAny_pure ⟨vas ++ [.r hp.length], ras ++ [.ref s.heap.objs.size], hp ++ [.edict], _, _, s.toks, rfl, rfl, by rw [List.length_append, e, hn]; rfl, q.2, H', S', ?_⟩))
  exact (R.step S' H).append (.cons ⟨⟨s.heap.objs.size, s.heap.objs.size, []⟩, by rw [← H.len]; simp, rfl⟩ .nil)
noncomputable def bDef (n : Nat) (x : PyData) : BT := fun vas Q hp => vas.length = n ∧ Q (vas ++ [.d x]) hp
theorem b_def (X : KF K Kf) {fd : FuncData} {n : Nat} {ps : List Str} (hn : ps.length = n + 1) (h : ∀ ras : List Value, ras.length = n → ∀ S, W.peek Kf S (bindArgs fd ⟨ras, []⟩) = some (ps.zip (ras ++ [.none]))) : SoundBind K fd [] ps (bDef n .none) := by
 intro A hh ρ hp s vas ras ks Q E hk q H R
 cases ks with
 | cons _ _ => simp at hk
 | nil =>
  rw [List.append_nil] at R
  have hl := R.length
  have e : ras.length = n := by rw [← hl]; exact q.1
  rw [show ([] : List Str).zip ([] : List Value) = [] from rfl]
  exact W.kp_binds (X.now H) (h ras e) _ _ _ _ ⟨vas ++ [.d .none], ras ++ [.none], hp, ρ, s.heap, s.toks, rfl, rfl, by rw [List.length_append, e, hn]; rfl, q.2, H, Step.refl .., R.append (.cons (v := .d .none) (x := .none) DR.none .nil)⟩
noncomputable def sAssignT (t : XT) (a : XE) : XS := fun vs Q => a vs fun v => t v vs fun vs' hp => Q .next vs' hp
theorem s_assignT {elts : List Expr} {k : Nat} {tpos pos : Pos} {value : Expr} {t : XT} {a : XE} (ha : SoundE K r env look value a) (ht : SoundT K r env look (.Tuple elts k tpos) t)
  (hs : swapsWithSole [.Tuple elts k tpos] value pos.line env = pure false) (hw : swappedStores [.Tuple elts k tpos] value env = pure none) :
  SoundS K r env look (.Assign [.Tuple elts k tpos] value pos) (sAssignT t a) := by
 intro A ok vs Q hp ρ s E q F H
 refine PyProof.Rows.Assign_Tuple (ha.then ok q F H ?_) hs hw
 intro va hp₁ ρ₁ h₁ t₁ ra q₁ H₁ S₁ r₁ F₁
 refine wpAny_mono (ht A ok va vs _ hp₁ ρ₁ { s with heap := h₁, toks := t₁ } _ ra q₁ F₁ H₁ r₁) ?_ (fun _ _ x => x)
 rintro _ s' ⟨vs', hp₂, ρ₂, h₂, t₂, rfl, q₂, F₂, H₂, S₂⟩
 exact ⟨.next, vs', hp₂, ρ₂, h₂, t₂, rfl, q₂, F₂, H₂, S₁.toS.trans S₂, trivial⟩
noncomputable def fStrO (C : Addr) (F : FT) : FT := fun vas Q hp => match vas with
 | [v] => (atI v hp C fun _ _ => True) ∧ F [v] (fun w hp' => match w with | .d (.str x) => Q (.d (.str x)) hp' | _ => False) hp
 | _ => False
theorem f_strO (X : KF K Kf) {C f : Addr} {F : FT} (hF : SoundF K r (.ref f) [] F) (hm : W.findIn Kf (.ref C) "__str__" = some (some (.ref f))) (ht : W.typeIn Kf (.ref f) = some (.type "function")) : SoundV K (r + 1) (.type "str") (fStrO C F) := by
 intro A ok ρ hp s vas ras Q E q H R
 unfold fStrO at q
 split at q
 ·rename_i v
  cases R with | cons a b =>
  cases b
  obtain ⟨i, p, fs, ox, od, m, rfl, rfl, _, e, ep, I, hd, hod, n, hfld, hout⟩ := atI_rel q.1 H a
  have ok' : OkA r A.in1.in1 := ⟨ok.hh, by have := ok.dp; show A.depth + r < _; omega, by have := ok.un; show A.units + 1 + 1 + _ + 200 < _; omega⟩
  refine W.kso_call (by have := ok.un; show A.units + 1 + 1 < _; omega) (X.now H) I hm (by unfold W.isFn; rw [ht]; rfl) ?_
  refine wpAny_mono (hF.call A.in1.in1 ok' ρ hp s [.r i] [.ref p.a] [] _ E rfl q.2 H (.cons a .nil)) ?_ (fun _ _ x => x)
  rintro rv s' ⟨w, hp', ρ', h', t', rfl, q', H', S', r'⟩
  cases w with
  | d x =>
   cases x <;> first | exact q'.elim | skip
   cases r'
   exact ⟨.d (.str _), hp', ρ', h', t', rfl, q', H', S', .str ..⟩
  | _ => exact q'.elim
 ·exact q.elim
theorem pct_meets (x y T : Str) (t t1 t2 : Tok) (b : Addr) (hx : x.length ≤ 100000) (hy : y.length ≤ 100000) (hT : T = x ++ ⟨#[58, 32]⟩ ++ y) : Meets (Builtin.«str.__mod__» ⟨[.str ⟨#[37, 115, 58, 32, 37, 115]⟩ t, .ref b], []⟩)
  (fun _ R s => IsTup s.heap b #[.str x t1, .str y t2] ∧ ∀ t' k, R (.ok (.ret (.str T t'))) { s with toks := k }) := by
 apply W.KPt.meets_tup
 intro _ _ _ _ _ _ kptH kQ
 obtain ⟨kptO, kptG, kptC, kptN, kptD⟩ := kptH
 rw [W.KPt.entry_is_r]
 unfold Builtin.Str.percentFormat
 refine wpAny_bind (wpAny_isInstance (T := "tuple") ⟨kptO, kptG, kptC⟩ W.KPt.sub_tt ?_)
 refine wpAny_bind (W.KPt.asStr_ref kptG kptD ?_)
 refine wpAny_bind (W.KPt.fills_ref ⟨kptO, kptG, kptC⟩ ?_)
 intro _
 kpc_if
 refine wpAny_bind (wpAny_seqItems kptG kptD ?_)
 refine wpAny_bind (wpAny_pure ?_)
 refine wpAny_bind ?_
 rw [W.KPc.range_list]
 refine W.KPc.start ?_
 intro _ _
 refine W.KPc.turn ?_
 kpc_check
 repeat kpc_if
 refine wpAny_bind ?_
 refine wpAny_holding ?_
 repeat kpc_if
 kpt_conv
 refine wpAny_pure ?_
 refine wpAny_pure ?_
 refine W.KPc.after_str0 (K := 100000) (by kpc_g) hx (by kpc_obj) ?_
 intro _ _
 refine W.KPc.turn ?_
 kpc_check
 repeat kpc_if
 refine wpAny_pure ?_
 refine W.KPc.after_add (y := ⟨#[58, 32]⟩) (by kpc_g) rfl (by kpc_obj) ?_
 intro _ _
 refine W.KPc.turn ?_
 kpc_check
 repeat kpc_if
 refine wpAny_bind ?_
 refine wpAny_holding ?_
 repeat kpc_if
 kpt_conv
 refine wpAny_pure ?_
 refine wpAny_pure ?_
 refine W.KPc.after_str (K := 100000) (by kpc_g) hy (by kpc_obj) ?_
 intro _ _
 refine W.KPc.turn ?_
 kpc_check
 repeat kpc_if
 refine wpAny_pure ?_
 kpc_if
 refine W.KPc.finish_ok (by kpc_g) (by decide +kernel) hT.symm ?_
 assumption
noncomputable def opPct : Op2 := fun va vb Q hp => ∃ x y : Str, va = .d (.str ⟨#[37, 115, 58, 32, 37, 115]⟩) ∧ vb = .d (.tuple [.str x, .str y]) ∧ x.length ≤ 100000 ∧ y.length ≤ 100000 ∧ Q (.d (.str (x ++ ⟨#[58, 32]⟩ ++ y))) hp
theorem s_pct : Sound2 K r (binaryOp .Mod) opPct := by
 intro A ok ρ hp s va vb ra rb Q E q H ha hb
 obtain ⟨x, y, rfl, rfl, hx, hy, q⟩ := q
 ·cases ha
  cases hb with
  | tuple h1 h2 h3 =>
   rename_i aa vs n
   obtain ⟨vl, rfl⟩ : ∃ vl : List Value, vs = vl.toArray := ⟨vs.toList, by simp⟩
   simp only [List.toList_toArray] at h3
   cases h3 with | cons d1 h3 =>
   cases h3 with | cons d2 h3 =>
   cases h3
   cases d1; cases d2
   rename_i t1 t2
   refine W.KPt.bin_left (T := "str") (U := "tuple") (op := .Mod) (by decide) (typeIs_str s _ _) ⟨_, h1, rfl⟩ F.fills_str_mod W.KPt.fills_tuple F.slot_str_mod
    (call_meets F.slot_str_mod (typeIs_str s _ _) F.entry_str_mod (F.args_str_mod_2 _ _) (pct_meets _ _ _ _ t1 t2 _ hx hy rfl) ⟨⟨_, h1, rfl, n, rfl⟩, fun t' k => ⟨(fun e => nomatch e), ?_⟩⟩)
   exact ⟨.d (.str _), hp, ρ, s.heap, k, rfl, q, H, Step.refl .., .str ..⟩
end
end Mine
namespace Mine
open PySem PySem.Builtin PySem.Builtin.Str PySem.StrLaws
noncomputable def scan (p : List Nat) : Nat → List Nat → Nat → List Nat
 | _, [], _ => []
 | k + 1, _ :: l, i => scan p k l (i + 1)
 | 0, c :: l, i => if p.isPrefixOf (c :: l) then i :: scan p (p.length - 1) l (i + 1) else scan p 0 l (i + 1)
noncomputable def repL (p q : List Nat) : Nat → List Nat → List Nat
 | _, [] => []
 | k + 1, _ :: l => repL p q k l
 | 0, c :: l => if p.isPrefixOf (c :: l) then q ++ repL p q (p.length - 1) l else c :: repL p q 0 l
theorem sub_pre {x p : List Nat} {i : Nat} (h : (x.drop i) ≠ []) : (i + p.length ≤ x.length ∧ subAt ⟨x.toArray⟩ ⟨p.toArray⟩ i = true) ↔ p.isPrefixOf (x.drop i) = true := by
 rw [subAt_eq]
 rw [List.isPrefixOf_iff_prefix, List.prefix_iff_eq_take]
 simp only [Str.length, List.size_toArray, beq_iff_eq]
 constructor
 ·rintro ⟨h1, h2⟩; exact h2.symm
 ·intro e
  refine ⟨?_, e.symm⟩
  have := congrArg List.length e
  rw [List.length_take, List.length_drop] at this
  have : i < x.length := by
   rcases Nat.lt_or_ge i x.length with q | q
   ·exact q
   ·exact absurd (List.drop_eq_nil_of_le q) h
  lia
theorem occ_scan (x p : List Nat) (hp : p ≠ []) : ∀ (l : List Nat) (i k : Nat) (st : Array Nat × Nat), x.drop i = l → i ≤ x.length → (st.2 ≤ i ∧ k = 0 ∨ st.2 = i + k) → st.1.size ≤ i →
    (forIn (List.range' i (l.length + 1)) st (occBody ⟨x.toArray⟩ ⟨p.toArray⟩ x.length (x.length + 1))).run.fst.toList = st.1.toList ++ scan p k l i := by
  have hpl : 0 < p.length := List.length_pos_iff.mpr hp
  intro l
  induction l with
  | nil =>
    intro i k st e hi hf hs
    have hil : x.length ≤ i := by have := congrArg List.length e; simp at this; lia
    rw [List.length_nil, Nat.zero_add, show List.range' i 1 = [i] from rfl, List.forIn_cons]
    unfold occBody
    rw [if_neg (by
      rintro ⟨⟨_, h⟩, _⟩
      have : i + p.length ≤ x.length := by simpa [Str.length] using h
      lia)]
    simp [scan]
  | cons c l ih =>
    intro i k st e hi hf hs
    have hlt : i < x.length := by
      rcases Nat.lt_or_ge i x.length with q | q
      · exact q
      · rw [List.drop_eq_nil_of_le q] at e; cases e
    have e' : x.drop (i + 1) = l := by rw [← List.drop_drop, e]; rfl
    have hne : x.drop i ≠ [] := by rw [e]; simp
    rw [List.length_cons, List.range'_succ, List.forIn_cons]
    cases k with
    | succ k =>
      have h2 : st.2 = i + (k + 1) := by rcases hf with h | h; · cases h.2
                                         · exact h
      unfold occBody
      rw [if_neg (by rintro ⟨⟨⟨_, h⟩, _⟩, _⟩; lia)]
      exact ih (i + 1) k (st.1, st.2) e' hlt (.inr (by show st.2 = _; lia)) (by show st.1.size ≤ _; lia)
    | zero =>
      have h2 : st.2 ≤ i := by rcases hf with h | h <;> lia
      by_cases hm : p.isPrefixOf (c :: l) = true
      · have := (sub_pre (p := p) hne).mpr (by rw [e]; exact hm)
        unfold occBody
        rw [if_pos ⟨⟨⟨by lia, h2⟩, by simpa [Str.length] using this.1⟩, this.2⟩]
        refine (ih (i + 1) (p.length - 1) (st.1.push i, i + (⟨p.toArray⟩ : Str).length) e' hlt (.inr (by simp [Str.length]; lia)) (by simp; lia)).trans ?_
        simp [scan, hm]
      · have hno : ¬ (i + p.length ≤ x.length ∧ subAt ⟨x.toArray⟩ ⟨p.toArray⟩ i = true) := fun h => hm (by rw [← e]; exact (sub_pre hne).mp h)
        unfold occBody
        rw [if_neg (by rintro ⟨⟨_, h⟩, h'⟩; exact hno ⟨by simpa [Str.length] using h, h'⟩)]
        refine (ih (i + 1) 0 (st.1, st.2) e' hlt (.inl ⟨by show st.2 ≤ _; lia, rfl⟩) (by show st.1.size ≤ _; lia)).trans ?_
        simp [scan, hm]
theorem occ_all (x p : List Nat) (hp : p ≠ []) : occurrences ⟨x.toArray⟩ ⟨p.toArray⟩ 0 x.length (x.length + 1) = scan p 0 x 0 := by
 rw [occ_eq]
 have := occ_scan x p hp x 0 0 (#[], 0) rfl (Nat.zero_le _) (.inl ⟨Nat.le_refl _, rfl⟩) (Nat.zero_le _)
 simpa using this
theorem join_cons {q s : Str} {l : List Str} (h : l ≠ []) : Str.join q (s :: l) = s ++ q ++ Str.join q l := by
 cases l with
 | nil => exact absurd rfl h
 | cons x l => rfl
theorem parts_scan (x p q : List Nat) (hp : p ≠ []) : ∀ (l : List Nat) (i a : Nat) (k : Nat), x.drop i = l → (k = 0 ∧ a ≤ i ∨ a = i + k) → i ≤ x.length → a ≤ x.length →
    (Str.join ⟨q.toArray⟩ (partsFrom ⟨x.toArray⟩ p.length a (scan p k l i))).cps.toList = ((x.drop a).take (i - a)) ++ repL p q k l := by
  have hpl : 0 < p.length := List.length_pos_iff.mpr hp
  have hx : (⟨x.toArray⟩ : Str).length = x.length := by simp [Str.length]
  intro l
  induction l with
  | nil =>
    intro i a k e h hi ha
    have hil : x.length ≤ i := by have := congrArg List.length e; simp at this; lia
    have : scan p k [] i = [] := by cases k <;> rfl
    rw [this]
    show (strSub ⟨x.toArray⟩ a (⟨x.toArray⟩ : Str).length).cps.toList = _
    rw [strSub_toList, hx]
    have : repL p q k [] = [] := by cases k <;> rfl
    rw [this, List.append_nil]
    have : i = x.length := Nat.le_antisymm hi hil
    rw [this]
  | cons c l ih =>
    intro i a k e h hi ha
    have hlt : i < x.length := by
      rcases Nat.lt_or_ge i x.length with q | q
      · exact q
      · rw [List.drop_eq_nil_of_le q] at e; cases e
    have e' : x.drop (i + 1) = l := by rw [← List.drop_drop, e]; rfl
    have hne : x.drop i ≠ [] := by rw [e]; simp
    have hxi : x[i]? = some c := by
      have := congrArg (fun m => m[0]?) e
      simpa [List.getElem?_drop] using this
    cases k with
    | succ k =>
      have h2 : a = i + (k + 1) := by rcases h with h | h; · cases h.1
                                      · exact h
      show (Str.join ⟨q.toArray⟩ (partsFrom ⟨x.toArray⟩ p.length a (scan p k l (i + 1)))).cps.toList = _
      rw [ih (i + 1) a k e' (.inr (by lia)) hlt ha]
      show _ = _ ++ repL p q k l
      rw [show i + 1 - a = 0 from by lia, show i - a = 0 from by lia]
    | zero =>
      have h2 : a ≤ i := by rcases h with h | h <;> lia
      by_cases hm : p.isPrefixOf (c :: l) = true
      · have hpx := ((sub_pre (p := p) hne).mpr (by rw [e]; exact hm)).1
        have es : scan p 0 (c :: l) i = i :: scan p (p.length - 1) l (i + 1) := by simp [scan, hm]
        rw [es]
        show (Str.join ⟨q.toArray⟩ (strSub ⟨x.toArray⟩ a i :: partsFrom ⟨x.toArray⟩ p.length (i + p.length) (scan p (p.length - 1) l (i + 1)))).cps.toList = _
        obtain ⟨r, rs, er⟩ := partsFrom_ne ⟨x.toArray⟩ p.length (i + p.length) (scan p (p.length - 1) l (i + 1))
        rw [join_cons (by rw [er]; simp)]
        simp only [Str.cps_append, Array.toList_append]
        rw [strSub_toList, ih (i + 1) (i + p.length) (p.length - 1) e' (.inr (by lia)) hlt hpx]
        rw [show i + 1 - (i + p.length) = 0 from by lia]
        simp [repL, hm]
      · have es : scan p 0 (c :: l) i = scan p 0 l (i + 1) := by simp [scan, hm]
        rw [es, ih (i + 1) a 0 e' (.inl ⟨rfl, by lia⟩) hlt ha]
        have : repL p q 0 (c :: l) = c :: repL p q 0 l := by simp [repL, hm]
        rw [this]
        have t : (x.drop a).take (i + 1 - a) = (x.drop a).take (i - a) ++ [c] := by
          rw [show i + 1 - a = (i - a) + 1 from by lia, List.take_add_one]
          rw [List.getElem?_drop, show a + (i - a) = i from by lia, hxi]
          rfl
        rw [t, List.append_assoc]
        rfl
theorem repl_eq {x p q : List Nat} (hp : p ≠ []) (hx : ∀ c ∈ x, c < 128) (hpa : ∀ c ∈ p, c < 128) : Txt.join ⟨q.toArray⟩ (Txt.split ⟨x.toArray⟩ ⟨p.toArray⟩) = ⟨(repL p q 0 x).toArray⟩ := by
 have k1 : ∀ l : List Nat, (∀ c ∈ l, c < 128) → Builtin.Str.strKind ⟨l.toArray⟩ = 1 := by
  intro l h
  unfold Builtin.Str.strKind
  rw [if_pos]
  simp
  intro c hc
  have := h c hc
  lia
 have main : Txt.join ⟨q.toArray⟩ (partsBetween ⟨x.toArray⟩ (occurrences ⟨x.toArray⟩ ⟨p.toArray⟩ 0 (⟨x.toArray⟩ : Str).length ((⟨x.toArray⟩ : Str).length + 1)) (⟨p.toArray⟩ : Str).length) = ⟨(repL p q 0 x).toArray⟩ := by
  have e1 : (⟨x.toArray⟩ : Str).length = x.length := by simp [Str.length]
  have e2 : (⟨p.toArray⟩ : Str).length = p.length := by simp [Str.length]
  rw [e1, e2, occ_all x p hp]
  unfold Txt.join
  rw [glued_eq_join, partsBetween_eq]
  apply Str.ext'
  apply Array.toList_inj.mp
  rw [parts_scan x p q hp x 0 0 0 rfl (.inl ⟨rfl, Nat.le_refl _⟩) (Nat.zero_le _) (Nat.zero_le _)]
  simp
 have same : (occurrences ⟨x.toArray⟩ ⟨p.toArray⟩ 0 (⟨x.toArray⟩ : Str).length ((⟨x.toArray⟩ : Str).length + 1)).isEmpty = true →
   Txt.join ⟨q.toArray⟩ [⟨x.toArray⟩] = ⟨(repL p q 0 x).toArray⟩ := by
  intro h
  have h' := List.isEmpty_iff.mp h
  rw [h'] at main
  rw [← main]
  rw [partsBetween_eq]
  show Txt.join _ _ = Txt.join _ [strSub ⟨x.toArray⟩ 0 (⟨x.toArray⟩ : Str).length]
  rw [sub_whole]
 unfold Txt.split
 split
 ·rename_i h
  rw [k1 x hx, k1 p hpa] at h
  have hlt : x.length < p.length := by simpa [Str.length] using h
  refine same ?_
  have e1 : (⟨x.toArray⟩ : Str).length = x.length := by simp [Str.length]
  rw [e1, occ_all x p hp]
  have : ∀ (l : List Nat) (i k : Nat), l.length < p.length → scan p k l i = [] := by
   intro l
   induction l with
   | nil => intro i k _; cases k <;> rfl
   | cons c l ih =>
    intro i k h
    have h' : l.length < p.length := by simp at h; lia
    cases k with
    | succ k => exact ih _ _ h'
    | zero =>
     have : p.isPrefixOf (c :: l) = false := by
      cases hh : p.isPrefixOf (c :: l) with
      | false => rfl
      | true => have := (List.isPrefixOf_iff_prefix.mp hh).length_le; lia
     simp [scan, this, ih _ _ h']
  rw [this x 0 0 hlt]; rfl
 ·split
  ·rename_i h; exact same h
  ·exact main
end Mine
namespace Mine
open PySem
noncomputable def Wt : List Nat → Nat
 | [] => 0
 | c :: l => (l.length + 1) * c + Wt l
noncomputable def Mt (l : List Nat) : Nat := 10 * l.sum + Wt l
theorem Wt_app : ∀ u v : List Nat, Wt (u ++ v) = Wt u + v.length * u.sum + Wt v
 | [], v => by simp [Wt]
 | c :: u, v => by
  simp only [List.cons_append, Wt, Wt_app u v, List.length_append, List.sum_cons]
  have e1 : (u.length + v.length + 1) * c = (u.length + 1) * c + v.length * c := by rw [← Nat.add_mul]; congr 1; lia
  have e2 : v.length * (c + u.sum) = v.length * c + v.length * u.sum := Nat.mul_add ..
  lia
theorem Mt_app (u v : List Nat) : Mt (u ++ v) = Mt u + v.length * u.sum + Mt v := by
 unfold Mt
 rw [Wt_app, List.sum_append]
 lia
theorem repL_skip (p q : List Nat) : ∀ (k : Nat) (l : List Nat), repL p q k l = repL p q 0 (l.drop k)
 | 0, l => by simp
 | k + 1, [] => by simp [repL]
 | k + 1, _ :: l => by
  show repL p q k l = _
  rw [repL_skip p q k l]; rfl
theorem repL_hit {p q : List Nat} {c : Nat} {l : List Nat} (h : p.isPrefixOf (c :: l) = true) : repL p q 0 (c :: l) = q ++ repL p q (p.length - 1) l := by
 simp [repL, h]
theorem repL_match {p q l : List Nat} (hp : p ≠ []) (h : p.isPrefixOf l = true) : ∃ v, l = p ++ v ∧ repL p q 0 l = q ++ repL p q 0 v := by
 obtain ⟨v, rfl⟩ := List.isPrefixOf_iff_prefix.mp h
 refine ⟨v, rfl, ?_⟩
 cases p with
 | nil => exact absurd rfl hp
 | cons c p =>
  have e := repL_hit (q := q) (l := p ++ v) h
  rw [repL_skip (c :: p) q ((c :: p).length - 1) (p ++ v)] at e
  simpa using e
theorem repL_miss {p q : List Nat} {c : Nat} {l : List Nat} (h : p.isPrefixOf (c :: l) = false) : repL p q 0 (c :: l) = c :: repL p q 0 l := by
 simp [repL, h]
noncomputable def has (p : List Nat) : List Nat → Bool
 | [] => false
 | c :: l => p.isPrefixOf (c :: l) || has p l
structure Rule (p q : List Nat) : Prop where
 ne : p ≠ []
 len : q.length ≤ p.length
 sum : q.sum ≤ p.sum
 less : Mt q < Mt p
theorem rep_less {p q : List Nat} (R : Rule p q) : ∀ (n : Nat) (l : List Nat), l.length ≤ n → (repL p q 0 l).length ≤ l.length ∧ (repL p q 0 l).sum ≤ l.sum ∧ ((has p l = false ∧ repL p q 0 l = l) ∨ Mt (repL p q 0 l) < Mt l)
  | 0, l, h => by
    have : l = [] := List.length_eq_zero_iff.mp (Nat.le_zero.mp h)
    subst this
    exact ⟨Nat.le_refl _, Nat.le_refl _, .inl ⟨rfl, rfl⟩⟩
  | n + 1, [], h => ⟨Nat.le_refl _, Nat.le_refl _, .inl ⟨rfl, rfl⟩⟩
  | n + 1, c :: l, h => by
    cases hm : p.isPrefixOf (c :: l) with
    | true =>
      obtain ⟨v, e, e'⟩ := repL_match (q := q) R.ne hm
      have hpl : 0 < p.length := List.length_pos_iff.mpr R.ne
      have hv : v.length ≤ n := by have := congrArg List.length e; simp at this h; lia
      obtain ⟨a, b, d⟩ := rep_less R n v hv
      rw [e', e]
      simp only [List.length_append, List.sum_append, Mt_app]
      have := R.len; have := R.sum; have := R.less
      refine ⟨by lia, by lia, .inr ?_⟩
      have m1 : (repL p q 0 v).length * q.sum ≤ v.length * p.sum := Nat.mul_le_mul a R.sum
      have m2 : Mt (repL p q 0 v) ≤ Mt v := by rcases d with d | d; · rw [d.2]; exact Nat.le_refl _
                                               · exact Nat.le_of_lt d
      lia
    | false =>
      rw [repL_miss hm]
      obtain ⟨a, b, d⟩ := rep_less R n l (by simp at h; lia)
      refine ⟨by simp; lia, by simp; lia, ?_⟩
      rcases d with d | d
      · exact .inl ⟨by simp [has, hm, d.1], by rw [d.2]⟩
      · refine .inr ?_
        have e1 : Mt (c :: repL p q 0 l) = Mt [c] + (repL p q 0 l).length * [c].sum + Mt (repL p q 0 l) := Mt_app [c] _
        have e2 : Mt (c :: l) = Mt [c] + l.length * [c].sum + Mt l := Mt_app [c] l
        have := Nat.mul_le_mul_right [c].sum a
        lia
noncomputable def stepR (rs : List (List Nat × List Nat)) (x : List Nat) : List Nat := rs.foldl (fun x pq => repL pq.1 pq.2 0 x) x
theorem step_less : ∀ (rs : List (List Nat × List Nat)) (x : List Nat), (∀ r ∈ rs, Rule r.1 r.2) → (stepR rs x).length ≤ x.length ∧ ((stepR rs x = x ∧ ∀ r ∈ rs, has r.1 x = false) ∨ Mt (stepR rs x) < Mt x)
 | [], x, _ => ⟨Nat.le_refl _, .inl ⟨rfl, fun _ h => absurd h (by simp)⟩⟩
 | r :: rs, x, h => by
  obtain ⟨a, _, d⟩ := rep_less (h r List.mem_cons_self) x.length x (Nat.le_refl _)
  obtain ⟨a', d'⟩ := step_less rs (repL r.1 r.2 0 x) (fun s hs => h s (List.mem_cons_of_mem _ hs))
  show (stepR rs (repL r.1 r.2 0 x)).length ≤ _ ∧ ((stepR rs (repL r.1 r.2 0 x) = x ∧ _) ∨ Mt (stepR rs (repL r.1 r.2 0 x)) < Mt x)
  refine ⟨Nat.le_trans a' a, ?_⟩
  rcases d with ⟨d1, d2⟩ | d
  ·rw [d2] at d' ⊢
   rcases d' with ⟨d3, d4⟩ | d'
   ·refine .inl ⟨d3, fun s hs => ?_⟩
    rcases List.mem_cons.mp hs with rfl | hs
    ·exact d1
    ·exact d4 s hs
   ·exact .inr d'
  ·refine .inr ?_
   rcases d' with ⟨d3, _⟩ | d'
   ·rw [d3]; exact d
   ·exact Nat.lt_trans d' d
theorem rep_mem {p q : List Nat} {P : Nat → Prop} (hq : ∀ c ∈ q, P c) : ∀ (l : List Nat) (k : Nat), (∀ c ∈ l, P c) → ∀ c ∈ repL p q k l, P c
 | [], k, h, c, hc => by cases k <;> cases hc
 | a :: l, k + 1, h, c, hc => rep_mem hq l k (fun x hx => h x (List.mem_cons_of_mem _ hx)) c hc
 | a :: l, 0, h, c, hc => by
  have hl := fun x hx => h x (List.mem_cons_of_mem a hx)
  unfold repL at hc
  split at hc
  ·rcases List.mem_append.mp hc with hc | hc
   ·exact hq c hc
   ·exact rep_mem hq l _ hl c hc
  ·rcases List.mem_cons.mp hc with rfl | hc
   ·exact h c List.mem_cons_self
   ·exact rep_mem hq l _ hl c hc
theorem step_mem {P : Nat → Prop} : ∀ (rs : List (List Nat × List Nat)) (x : List Nat), (∀ r ∈ rs, ∀ c ∈ r.2, P c) → (∀ c ∈ x, P c) → ∀ c ∈ stepR rs x, P c
 | [], x, _, h => h
 | r :: rs, x, hr, h => step_mem rs _ (fun s hs => hr s (List.mem_cons_of_mem _ hs)) (rep_mem (hr r List.mem_cons_self) x 0 h)
theorem rep_keep {α : Type} {p q : List Nat} {f : List Nat → α → α} (hf : ∀ u v a, f (u ++ v) a = f v (f u a)) (hp : p ≠ []) (hpq : ∀ a, f q a = f p a) :
  ∀ (n : Nat) (l : List Nat) (a : α), l.length ≤ n → f (repL p q 0 l) a = f l a
 | 0, l, a, h => by
  have : l = [] := List.length_eq_zero_iff.mp (Nat.le_zero.mp h)
  subst this; rfl
 | n + 1, [], a, h => rfl
 | n + 1, c :: l, a, h => by
  cases hm : p.isPrefixOf (c :: l) with
  | true =>
   obtain ⟨v, e, e'⟩ := repL_match (q := q) hp hm
   have hpl : 0 < p.length := List.length_pos_iff.mpr hp
   have hv : v.length ≤ n := by have := congrArg List.length e; simp at this h; lia
   rw [e', e, hf, hf, hpq, rep_keep hf hp hpq n v _ hv]
  | false =>
   rw [repL_miss hm]
   have e1 : f (c :: repL p q 0 l) a = f (repL p q 0 l) (f [c] a) := hf [c] _ a
   have e2 : f (c :: l) a = f l (f [c] a) := hf [c] l a
   rw [e1, e2, rep_keep hf hp hpq n l _ (by simp at h; lia)]
theorem step_keep {α : Type} {f : List Nat → α → α} (hf : ∀ u v a, f (u ++ v) a = f v (f u a)) : ∀ (rs : List (List Nat × List Nat)) (x : List Nat) (a : α), (∀ r ∈ rs, r.1 ≠ [] ∧ ∀ a, f r.2 a = f r.1 a) → f (stepR rs x) a = f x a
 | [], x, a, _ => rfl
 | r :: rs, x, a, h => by
  show f (stepR rs (repL r.1 r.2 0 x)) a = _
  rw [step_keep hf rs _ a (fun s hs => h s (List.mem_cons_of_mem _ hs)), rep_keep hf (h r List.mem_cons_self).1 (h r List.mem_cons_self).2 x.length x a (Nat.le_refl _)]
end Mine
namespace Mine
open PySem PySem.Spec PySem.Calls PyProof.Rows
theorem SoundF.le {K : KX} {r r' : Nat} {f : Value} {kn : List Str} {F : FT} (h : SoundF K r f kn F) (hr : r ≤ r') : SoundF K r' f kn F := fun A ok => h A (ok.le hr)
noncomputable def stAt (i : Nat) : Stmt := (Challenge.pw_pu0047_01.main.body[i]?).getD (.Pass default)
noncomputable def clAt (i k : Nat) : Stmt := match stAt i with | .ClassDef _ _ _ b _ _ _ _ _ _ _ => (b[k]?).getD (.Pass default) | _ => .Pass default
noncomputable def fBody : Stmt → List Stmt | .FunctionDef _ _ b _ _ _ _ _ _ _ => b | _ => []
noncomputable def fScope : Stmt → Scope | .FunctionDef _ _ _ _ _ _ s _ _ _ => s | _ => default
noncomputable def fArgs : Stmt → Arguments | .FunctionDef _ a _ _ _ _ _ _ _ _ => a | _ => default
noncomputable def fdOf (st : Stmt) (fd : FuncData) : FuncData := { fd with params := fArgs st, body := .stmts (fBody st), scope := fScope st, globals := 3, closure := [], builtins := 0 }
noncomputable def cI (i : Int) : XE := fun _ Q => Q (.d (.int i))
noncomputable def cS (x : Str) : XE := fun _ Q => Q (.d (.str x))
noncomputable def cB (x : Bool) : XE := fun _ Q => Q (.d (.bool x))
noncomputable def cNone : XE := fun _ Q => Q (.d .none)
theorem fd_eta {fd : FuncData} {d k : Value} (hd : fd.defaults = d) (hk : fd.kwdefaults = k) : fd = { fd with defaults := d, kwdefaults := k } := by cases hd; cases hk; rfl
theorem len1 {α : Type} : ∀ {l : List α}, l.length = 1 → ∃ a, l = [a] | [a], _ => ⟨a, rfl⟩
theorem len2 {α : Type} : ∀ {l : List α}, l.length = 2 → ∃ a b, l = [a, b] | [a, b], _ => ⟨a, b, rfl⟩
theorem len3 {α : Type} : ∀ {l : List α}, l.length = 3 → ∃ a b c, l = [a, b, c] | [a, b, c], _ => ⟨a, b, c, rfl⟩
noncomputable def FnOk (K : KX) (a : Addr) (st : Stmt) : Prop := ∃ fd, FnAt K a (fdOf st fd) (fBody st) ∧ fd.defaults = .none ∧ fd.kwdefaults = .none
noncomputable def FnOkD (K : KX) (a : Addr) (st : Stmt) (d : Value) : Prop := ∃ fd, FnAt K a (fdOf st fd) (fBody st) ∧ fd.defaults = d ∧ fd.kwdefaults = .none
noncomputable def fldOk (Kf : W.Frag) (C : Addr) (x : Str) : Bool := W.plainGet Kf C x && (match W.findIn Kf (.ref C) x with | some (some _) => false | some none => true | none => false) && (match W.takerIn Kf C x with | some none => true | _ => false)
noncomputable def clsOk (Kf : W.Frag) (C : Addr) : Bool := W.hasDictIn Kf C && W.plainOver Kf C && W.makesIn Kf C && W.keepIn Kf (.ref C) && W.noSeq Kf C && (W.findIn Kf (.ref C) "__setattr__" == some (some (.builtin "object.__setattr__")))
noncomputable def metOk (Kf : W.Frag) (C : Addr) (x : Str) (f : Addr) : Bool := W.plainGet Kf C x && (W.findIn Kf (.ref C) x == some (some (.ref f))) && (W.typeIn Kf (.ref f) == some (.type "function"))
theorem noFree {names : List (Str × NameKind)} (h : names.all (fun y => y.2 != .free) = true) : ∀ x, names.lookup x ≠ some .free := by
 intro x e
 have := List.all_eq_true.mp h _ (mem_of_lookup e)
 simp at this
theorem kindsOk {names : List (Str × NameKind)} {ps : List Str} (h : ps.all (fun x => names.lookup x == some .local || names.lookup x == some .cell) = true) : ∀ x ∈ ps, names.lookup x = some .local ∨ names.lookup x = some .cell := by
 intro x hx
 have := List.all_eq_true.mp h x hx
 simp only [Bool.or_eq_true, beq_iff_eq] at this
 exact this
theorem fnAt_of {K : KX} {a : Addr} {st : Stmt} (h : FnOk K a st) : ∃ fd body, FnAt K a fd body := let ⟨fd, X, _⟩ := h; ⟨_, _, X⟩
theorem backFalse {l : List (Bool × Sem Value)} (h : l.any (·.1) = false) : ∀ t : List (Bool × Sem Value), l = t → ∀ x ∈ t, x.1 = false := by
 rintro t rfl x hx
 rw [List.any_eq_false] at h
 simpa using h x hx
noncomputable def isStar : Expr → Bool | .Starred .. => true | _ => false
theorem se_cons {e : Expr} {es : List Expr} {env : Env} (h : isStar e = false) : starEach (e :: es) env = (false, eval e env) :: starEach es env := by
 cases e <;> first | rfl | cases h
theorem se_any {args : List Expr} {env : Env} {pos : Pos} (h : args.all (fun e => !isStar e) = true) : (backTo pos (starEach args env)).any (·.1) = false := by
 induction args with
 | nil => rfl
 | cons e es ih =>
  simp only [List.all_cons, Bool.and_eq_true, Bool.not_eq_true'] at h
  rw [se_cons h.1]
  have := ih h.2
  unfold backTo at this ⊢
  simpa using this
theorem l_c {K : KX} {r : Nat} {env : Env} {look : Str → Option Nat} {e : Expr} {es : List Expr} {a : XE} {p : XL} (ha : SoundE K r env look e a) (hp : SoundL K r env look es p) (h : isStar e = false) : SoundL K r env look (e :: es) (lCons a p) :=
 l_cons ha hp (se_cons h)
inductive StrsE : List Expr → List Str → Prop
 | nil : StrsE [] []
 | cons {x : Str} {k : Nat} {p : Pos} {es : List Expr} {xs : List Str} : StrsE es xs → StrsE (.Constant (.str x) k p :: es) (x :: xs)
noncomputable def lStrs (xs : List Str) : XL := fun _ Q => Q (xs.map fun x => .d (.str x))
theorem l_strs {K : KX} {r : Nat} {env : Env} {look : Str → Option Nat} {es : List Expr} {xs : List Str} (h : StrsE es xs) : SoundL K r env look es (lStrs xs) := by
 induction h with
 | nil => exact l_nil
 | cons h ih => exact l_c e_str ih rfl
noncomputable def readBody : List Stmt := fBody (((fBody (stAt 13))[2]?).getD (.Pass default))
section
variable {K : KX} {Kf : W.Frag} {mg mb : Str → Option Value} {r : Nat} {env : Env} {look : Str → Option Nat}
theorem met_g {C f : Addr} {x : Str} (h : metOk Kf C x f = true) : W.plainGet Kf C x = true := by unfold metOk at h; simp only [Bool.and_eq_true] at h; exact h.1.1
theorem met_f {C f : Addr} {x : Str} (h : metOk Kf C x f = true) : W.findIn Kf (.ref C) x = some (some (.ref f)) := by unfold metOk at h; simp only [Bool.and_eq_true, beq_iff_eq] at h; exact h.1.2
theorem met_t {C f : Addr} {x : Str} (h : metOk Kf C x f = true) : W.typeIn Kf (.ref f) = some (.type "function") := by unfold metOk at h; simp only [Bool.and_eq_true, beq_iff_eq] at h; exact h.2
theorem cls_d {C : Addr} (h : clsOk Kf C = true) : W.hasDictIn Kf C = true := by unfold clsOk at h; simp only [Bool.and_eq_true] at h; exact h.1.1.1.1.1
theorem cls_o {C : Addr} (h : clsOk Kf C = true) : W.plainOver Kf C = true := by unfold clsOk at h; simp only [Bool.and_eq_true] at h; exact h.1.1.1.1.2
theorem cls_m {C : Addr} (h : clsOk Kf C = true) : W.makesIn Kf C = true := by unfold clsOk at h; simp only [Bool.and_eq_true] at h; exact h.1.1.1.2
theorem cls_k {C : Addr} (h : clsOk Kf C = true) : W.keepIn Kf (.ref C) = true := by unfold clsOk at h; simp only [Bool.and_eq_true] at h; exact h.1.1.2
theorem cls_q {C : Addr} (h : clsOk Kf C = true) : W.noSeq Kf C = true := by unfold clsOk at h; simp only [Bool.and_eq_true] at h; exact h.1.2
theorem cls_s {C : Addr} (h : clsOk Kf C = true) : W.findIn Kf (.ref C) "__setattr__" = some (some (.builtin "object.__setattr__")) := by unfold clsOk at h; simp only [Bool.and_eq_true, beq_iff_eq] at h; exact h.2
theorem fld_get (X : KF K Kf) {C : Addr} {k : Nat} {x : Str} (hc : clsOk Kf C = true) (hf : fldOk Kf C x = true) (hx : K.attrs[k]? = some x) {expr : Bool} : Sound1 K r (fun v => getAttr v x expr) (getF C k) := by
 unfold fldOk at hf
 simp only [Bool.and_eq_true] at hf
 obtain ⟨⟨h1, h2⟩, h3⟩ := hf
 have e : W.findIn Kf (.ref C) x = some none := by
  revert h2
  cases W.findIn Kf (.ref C) x with
  | none => simp
  | some v => cases v <;> simp
 exact get_field X hx h1 (cls_d hc) e rfl
theorem fld_set (X : KF K Kf) {al : List Str} (ha : K.attrs = al) {C : Addr} {k : Nat} {x : Str} (hc : clsOk Kf C = true) (hf : fldOk Kf C x = true) (hx : K.attrs[k]? = some x) (nd : decide (al.Nodup ∧ al.length ≤ 1000) = true) : SoundSet K x (setF C k) := by
 unfold fldOk at hf
 simp only [Bool.and_eq_true] at hf
 obtain ⟨⟨h1, h2⟩, h3⟩ := hf
 have e : W.takerIn Kf C x = some none := by
  revert h3
  cases W.takerIn Kf C x with
  | none => simp
  | some v => cases v <;> simp
 have nd' := of_decide_eq_true nd
 rw [ha] at hx
 refine set_fieldS X (by rw [ha]; exact hx) ?_ (by rw [ha]; exact nd'.2) (cls_s hc) (cls_o hc) e (cls_d hc)
 intro j hj
 rw [ha] at hj
 exact (List.getElem?_inj (List.getElem?_eq_some_iff.mp hj).1 nd'.1).mp (hj.trans hx.symm)
theorem e_call_fn (G : KG K mg mb) {f : Str} {a : Addr} {args : List Expr} {p pos : Pos} {F : FT} {l : XL} (X : ∃ fd body, FnAt K a fd body) (hF : SoundF K r (.ref a) [] F) (hl : SoundL K r env look args l)
  (hk : env.kindOf f = some .globalImplicit) (hg : mg f = some (.ref a)) (hd : (f == ("__debug__" : Str)) = false) (hb : (backTo pos (starEach args env)).any (·.1) = false) :
  SoundE K r env look (.Call (.Name f p) args [] pos) (xCall F l) := by
 obtain ⟨fd, body, X⟩ := X
 exact e_call G X hF hl hk hg hd (backFalse hb)
theorem e_meth_fn (X : KF K Kf) {C f : Addr} {st : Stmt} {o : Expr} {name : Str} {args : List Expr} {kws : List Keyword} {apos pos : Pos} {F : FT} {a : XE} {l k : XL}
  (Y : FnOk K f st) (hm : metOk Kf C name f = true) (hF : SoundF K r (.ref f) (knOf kws) F) (ho : SoundE K r env look o a) (hl : SoundL K r env look args l) (hk : SoundK K r env look kws k) (hn : name ∉ K.attrs)
  (hbase : attributeBase o name env (eval o env) = eval o env) (hb : (backTo pos (starEach args env)).any (·.1) = false) (hkn : (backToKw pos (keywordEach kws env)).all (·.1.isSome) = true)
  (hform : methodCallForm (args.length + kws.length) (backTo pos (starEach args env)) (backToKw pos (keywordEach kws env)) = true) (hline : (apos.endLine == pos.line) = true) :
  SoundE K r env look (.Call (.Attribute o name apos) args kws pos) (xMeth C F a l k) := by
 obtain ⟨fd, Y, _⟩ := Y
 exact e_meth X hF Y ho hl hk (met_g hm) (met_f hm) (met_t hm) hn hbase hb hkn hform hline
theorem e_meth_fnD (X : KF K Kf) {C f : Addr} {st : Stmt} {dv : Value} {o : Expr} {name : Str} {args : List Expr} {kws : List Keyword} {apos pos : Pos} {F : FT} {a : XE} {l k : XL}
  (Y : FnOkD K f st dv) (hm : metOk Kf C name f = true) (hF : SoundF K r (.ref f) (knOf kws) F) (ho : SoundE K r env look o a) (hl : SoundL K r env look args l) (hk : SoundK K r env look kws k) (hn : name ∉ K.attrs)
  (hbase : attributeBase o name env (eval o env) = eval o env) (hb : (backTo pos (starEach args env)).any (·.1) = false) (hkn : (backToKw pos (keywordEach kws env)).all (·.1.isSome) = true)
  (hform : methodCallForm (args.length + kws.length) (backTo pos (starEach args env)) (backToKw pos (keywordEach kws env)) = true) (hline : (apos.endLine == pos.line) = true) :
  SoundE K r env look (.Call (.Attribute o name apos) args kws pos) (xMeth C F a l k) := by
 obtain ⟨fd, Y, _⟩ := Y
 exact e_meth X hF Y ho hl hk (met_g hm) (met_f hm) (met_t hm) hn hbase hb hkn hform hline
theorem s_forC_fn {F : FT} {st : Stmt} {a : Addr} (Y : FnOk K a st) (hrc : K.readChar = a) (hF : SoundF K r (.ref a) [] F) {target iter : Expr} {body : List Stmt} {pos : Pos} {tgt : XT} {it : XE} {b : XS}
  (ht : SoundT K (r + 1) env look target tgt) (hi : SoundE K (r + 1) env look iter it) (hb : SoundSs K (r + 1) env look body b)
  (hs : ∀ x, foldedSetIterable iter env x = pure x) (hlo : ∀ it v, letOwnedTupleGo target it v = pure ()) : SoundS K (r + 1) env look (.For target iter body [] pos) (sForC F tgt it b) := by
 obtain ⟨fd, Y, _⟩ := Y
 subst hrc
 exact s_forC hF Y ht hi hb hs hlo
theorem b_peek (X : KF K Kf) {fd : FuncData} {ps : List Str} (h : ∀ ras : List Value, ras.length = ps.length → ∀ S, W.peek Kf S (bindArgs fd ⟨ras, []⟩) = some (ps.zip ras)) : SoundBind K fd [] ps (bPlain ps.length) := by
 intro A hh ρ hp s vas ras ks Q E hk q H R
 cases ks with
 | cons _ _ => simp at hk
 | nil =>
  rw [List.append_nil] at R
  have hl := R.length
  have e : ras.length = ps.length := by rw [← hl]; exact q.1
  rw [show ([] : List Str).zip ([] : List Value) = [] from rfl]
  exact W.kp_binds (X.now H) (h ras e) _ _ _ _ ⟨vas, ras, hp, ρ, s.heap, s.toks, rfl, rfl, e, q.2, H, Step.refl .., R⟩
end
theorem f_go {K : KX} {mg mb : Str → Option Value} (G : KG K mg mb) {r : Nat} {a : Addr} {fd : FuncData} {body : List Stmt} (X : FnAt K a fd body) {ps rest : List Str} {n : Nat}
  (hbind : ∀ ras : List Value, ras.length = ps.length → bindArgs fd ⟨ras, []⟩ = pure (ps.zip ras)) (nd : ps.Nodup) (hkind : ∀ x ∈ ps, fd.scope.names.lookup x = some .local ∨ fd.scope.names.lookup x = some .cell) (hfree : ∀ x, fd.scope.names.lookup x ≠ some .free)
  {A : Around} (ok : OkA (r + 1) A) {ρ : Rho} {hp : List O} {s : Shared} {vas : List V} {ras : List Value} {E : Value → Shared → Prop} {Post : Value → Shared → Prop} (H : HRel K ρ hp s.heap) (R : VRs ρ s.heap vas ras) (hl : ras.length = ps.length)
  (hbody : ∀ h₂ t₂ A' E', OkA r A' → FRel K (callEnvC fd s.heap.objs.size a) (lk (ps ++ rest)) (vas.map some ++ List.replicate n none) ρ h₂ → HRel K ρ hp h₂ → Step K ρ s.heap ρ h₂ →
   (∀ b o, s.heap.get? b = some o → ¬ Place (callEnvC fd s.heap.objs.size a) b) →
   wpAny (model K.prog K.w) A' (execs body (callEnvC fd s.heap.objs.size a)) (fun fl s' => ∃ rv, fl = .ret rv ∧ Post rv s') E' { s with heap := h₂, toks := t₂ }) :
  codeAny (model K.prog K.w) A (.call (.ref a) ⟨ras, []⟩) (fun r s' => match r with | .ok (.ret v) => Post v s' | .ok _ => False | .error e => E e s') s := by
 obtain ⟨o, ho, hd⟩ := X.ob
 refine codeAny_call_function (fd := fd) (by have := ok.dp; lia) (H.keep _ _ ho X.tb) hd X.co X.gen X.bd ?_ ?_
 ·obtain ⟨c, oc, vs, t, e1, e2, e3, e4, e5⟩ := X.code
  exact ⟨c, oc, vs, t, e1, H.keep _ _ e2 e5, e3, e4⟩
 rw [hbind ras hl]
 refine wpAny_pure ?_
 rw [X.clo]
 refine wpAny_newFunctionEnv_cells X.kd ?_ ?_
 ·intro x hx
  obtain ⟨x1, x2⟩ := x
  have hm : x1 ∈ ps := (List.of_mem_zip hx).1
  rcases hkind x1 hm with e | e
  ·exact .inl e
  ·exact .inr ⟨e, cellsFrom_some _ _ _ _ (.inl (mem_of_lookup e))⟩
 intro env he s₂ I
 have he' : env = callEnvC fd s.heap.objs.size a := he
 have hs₂ : ∃ h₂ t₂, s₂ = { s with heap := h₂, toks := t₂ } := by
  obtain ⟨h₂, t₂, e⟩ := I.toInCall.same
  exact ⟨h₂, t₂, e⟩
 obtain ⟨h₂, t₂, rfl⟩ := hs₂
 have keep₂ : ∀ b o, s.heap.get? b = some o → h₂.get? b = some o := I.toInCall.keep
 have H₂ : HRel K ρ hp h₂ := H.grow keep₂
 have S₂ : Step K ρ s.heap ρ h₂ := Step.grow keep₂
 have R₂ := R.step S₂ H
 have hloc : env.locals = s.heap.objs.size := by rw [he']; rfl
 have hkof : ∀ x, env.kindOf x = fd.scope.names.lookup x := by intro x; rw [he']; rfl
 have hcell : env.cells = cellsFrom (s.heap.objs.size + 1) fd.scope.names [] := by rw [he']; rfl
 have hvs : ∀ (k : Nat) (v : V), (vas.map some ++ List.replicate n none)[k]? = some (some v) → vas[k]? = some v := by
  intro k v e
  by_cases hk : k < vas.length
  ·rw [List.getElem?_append_left (by simpa using hk), List.getElem?_map] at e
   cases e' : vas[k]? with
   | none => rw [e'] at e; cases e
   | some w => rw [e'] at e; simpa using e
  ·rw [List.getElem?_append_right (by simpa using hk), List.getElem?_replicate] at e
   split at e <;> cases e
 have hps : ∀ (x : Str) (k : Nat) (v : V), lk (ps ++ rest) x = some k → vas[k]? = some v → ps[k]? = some x := by
  intro x k v e e'
  have := lk_get e
  have hk : k < ps.length := by rw [← hl, ← R.length]; exact (List.getElem?_eq_some_iff.mp e').1
  rwa [List.getElem?_append_left hk] at this
 have newc : ∀ c, s.heap.objs.size ≤ c → K.New c ∧ Off ρ c := fun c hc => ⟨H.fresh (get?_beyond hc), H.off (get?_beyond hc)⟩
 have F : FRel K env (lk (ps ++ rest)) (vas.map some ++ List.replicate n none) ρ h₂ := by
  refine ⟨by rw [he']; exact X.kd, by rw [he']; exact X.gl, by rw [he']; exact X.bi, ?_, ?_, ?_, ?_, ?_, ?_⟩
  ·rw [hloc]; exact (newc _ (Nat.le_refl _)).1
  ·rw [hloc]; exact (newc _ (Nat.le_refl _)).2
  ·refine ⟨_, I.toInCall.ns, fun x k v hx hl e => ?_⟩
   have e1 := hvs k v e
   obtain ⟨rv, e2, e3⟩ := R₂.get e1
   exact ⟨rv, bindL_get nd (hps x k v hl e1) e2 hx, e3⟩
  ·intro x hx
   have hxc : fd.scope.names.lookup x = some .cell := by
    rcases hx with hx | hx
    ·rw [← hkof]; exact hx
    ·exact absurd (by rw [← hkof]; exact hx) (hfree x)
   have is : (env.cells.lookup x).isSome = true := by rw [hcell]; exact cellsFrom_some _ _ _ _ (.inl (mem_of_lookup hxc))
   obtain ⟨c, hc⟩ := Option.isSome_iff_exists.mp is
   have hab := I.above x c (mem_of_lookup hc)
   rw [hloc] at hab
   obtain ⟨oc, g1, g2⟩ := I.cell x c hc
   refine ⟨c, oc, _, hc, (newc c (Nat.le_of_lt hab)).1, (newc c (Nat.le_of_lt hab)).2, g1, g2, fun k v hl e => ?_⟩
   have e1 := hvs k v e
   obtain ⟨rv, e2, e3⟩ := R₂.get e1
   refine ⟨rv, bindC_get nd (hps x k v hl e1) e2 ?_, e3⟩
   rw [hkof, hxc]; simp
  ·intro x y c h1 h2
   exact name_of_addr I.apart (mem_of_lookup h1) (mem_of_lookup h2)
  ·intro x y k h1 h2
   have e1 := lk_get h1
   have e2 := lk_get h2
   rw [e1] at e2; cases e2; rfl
 refine ⟨H₂.limOf G, codeAny_func ?_⟩
 have ok' : OkA r (A.deeper env) := ⟨ok.hh, by have := ok.dp; show A.depth + 1 + r < _; lia, by have := ok.un; show A.units + 3 + _ + 200 < _; lia⟩
 have np : ∀ b o, s.heap.get? b = some o → ¬ Place env b := by
  intro b o e
  have hlt := Heap.lt_size e
  rintro (z | ⟨x, _, hc⟩)
  ·rw [hloc] at z; exact absurd hlt (by rw [z]; exact Nat.lt_irrefl _)
  ·have := I.above x b (mem_of_lookup hc); rw [hloc] at this; exact absurd hlt (Nat.not_lt.mpr (Nat.le_of_lt this))
 rw [he'] at F np ok' ⊢
 refine wpAny_mono (hbody h₂ t₂ _ _ ok' F H₂ S₂ np) ?_ (fun _ _ x => x)
 rintro fl s₃ ⟨rv, rfl, p⟩
 exact p
noncomputable def KX.free (K : KX) : KX := { K with ok := fun _ => True }
theorem HRel.free {K : KX} {ρ : Rho} {hp : List O} {h : Heap} (H : HRel K ρ hp h) : HRel K.free ρ hp h :=
 ⟨H.tbd, H.keep, let ⟨ps, _, e⟩ := H.tab; ⟨ps, trivial, e⟩, H.len, H.nd, H.hi, H.fx, H.lt, fun i o p e q => by
  have := H.ob i o p e q
  cases o <;> exact this⟩
theorem HRel.table {K : KX} {ρ : Rho} {hp : List O} {h h' : Heap} {ps : Array Value} (H : HRel K ρ hp h) (hx : Heap.ExtBut K.tb h h') (ht : h'.get? K.tb = some { cls := .none, data := .fields ps }) (hn : K.tb ∉ mu ρ) (hf : ∀ p ∈ ρ, K.tb ∉ p.f) : HRel K.free ρ hp h' := by
 have F := H.free
 refine ⟨H.tbd, fun b o e q => hx b o q (H.keep b o e q), ⟨ps, trivial, ht⟩, H.len, H.nd, H.hi, H.fx, ?_, ?_⟩
 ·intro p hp
  have h1 : p.m ≠ K.tb := fun e => hn (e ▸ List.mem_map.mpr ⟨p, hp, rfl⟩)
  refine ⟨let ⟨o, e⟩ := (H.lt p hp).1; ⟨o, hx _ _ h1 e⟩, fun a ha => let ⟨o, e⟩ := (H.lt p hp).2 a ha; ⟨o, hx _ _ (fun q => hf p hp (q ▸ ha)) e⟩⟩
 ·intro i o p e q
  have pm := List.mem_of_getElem? q
  refine (F.ob i o p e q).keeps F (fun b ob x y => hx b ob ?_ x) (fun b ob vs n e hq x => ⟨hx b ob ?_ e, x⟩) (List.prefix_refl _)
  ·rintro rfl
   rcases y with y | y
   ·exact hf p pm y
   ·exact hn (y ▸ List.mem_map.mpr ⟨p, pm, rfl⟩)
  ·rintro rfl
   exact H.seqTb e hq rfl
section
variable {M : Model} {A : Around} {E : Value → Shared → Prop} {s : Shared} {env : Env}
theorem exec_def {Q : Flow → Shared → Prop} {name : Str} {args : Arguments} {body : List Stmt} {scope : Scope} {pos : Pos} (hd : defaultsOf args env = ([], []))
  (hann : (match args with | ⟨po, a, va, ko, _, kwa, _⟩ => annotationsOf (a ++ po ++ va.toList ++ ko ++ kwa.toList) env) = [])
  (h : wpAny M A (makeFunction name (qualnameIn env name name) args (.stmts body) scope env [] [] [] pos pos.line) (fun f s' => wpAny M A (storeName env name f) (fun _ s'' => Q .next s'') E s') E s) :
  wpAny M A (exec (.FunctionDef name args body [] none [] scope none name pos) env) Q E s := by
 obtain ⟨po, a, va, ko, kd, kwa, df⟩ := args
 rw [arm_exec_FunctionDef]
 unfold defStmt
 rw [hd]
 show wpAny M A (evalAll [] >>= _) Q E s
 refine wpAny_bind (wpAny_pure ?_)
 refine wpAny_bind (wpAny_standAt ?_)
 refine wpAny_bind (wpAny_holding ?_)
 refine wpAny_bind (wpAny_pure ?_)
 refine wpAny_bind (wpAny_holding (wpAny_pure ?_))
 refine wpAny_holding ?_
 show wpAny M A (evalNamed _ >>= _) _ _ _
 dsimp only at hann ⊢
 rw [hann]
 refine wpAny_bind (wpAny_pure ?_)
 refine wpAny_mono h ?_ (fun _ _ x => x)
 intro f s' hf
 refine wpAny_bind (wpAny_pure (wpAny_bind (wpAny_standAt (wpAny_bind (wpAny_bindName ?_)))))
 exact wpAny_mono hf (fun _ _ x => wpAny_pure x) (fun _ _ x => x)
end
end Mine
namespace Mine
open PySem
theorem get_left {hp : List O} {j : Nat} {o : O} (e : hp[j]? = some o) (l : List O) : (hp ++ l)[j]? = some o := by
 rw [List.getElem?_append_left (List.getElem?_eq_some_iff.mp e).1]; exact e
theorem gOk_app {g : G} {hp : List O} (h : gOk g hp) (l : List O) : gOk g (hp ++ l) := by
 cases g with
 | none => trivial
 | some p => obtain ⟨j, x⟩ := p; exact get_left h l
theorem atL_last {hp : List O} {acc : List PyData} {k : Nat → List PyData → Prop} (h : k hp.length acc) : atL (.r hp.length) (hp ++ [.lst acc]) k := by
 unfold atL; simp [h]
theorem set_last {hp : List O} {a b : O} : (hp ++ [a]).set hp.length b = hp ++ [b] := by
 rw [List.set_append_right _ _ (Nat.le_refl _)]; simp
theorem lget_last {hp : List O} {acc : List PyData} : lget (.r hp.length) (hp ++ [.lst acc]) = some acc := by
 unfold lget; simp
theorem comp_go {m : Bool} {n : Nat} {g : G} {tgt : XT} {ifs : XB} {elt : XE} {Q : V → List O → Prop} {outer : List (Option V)} {hp : List O} (c : PyData → Bool) (f : PyData → PyData) (slots : PyData → List (Option V)) :
  ∀ (xs : List PyData) (acc : List PyData) (old : List (Option V)), old.length = n → (∀ x ∈ xs, (slots x).length = n) →
  (∀ x ∈ xs, ∀ old : List (Option V), old.length = n → ∀ K h, K (slots x ++ outer) h → tgt (.d x) (old ++ outer) K h) →
  (∀ x ∈ xs, ∀ l K, K (c x) (hp ++ l) → ifs (slots x ++ outer) K (hp ++ l)) →
  (∀ x ∈ xs, c x = true → ∀ l K, K (.d (f x)) (hp ++ l) → elt (slots x ++ outer) K (hp ++ l)) →
  gOk g hp → acc.length + xs.length ≤ sizeLine → compEnd m hp.length Q (acc ++ (xs.filter c).map f) (hp ++ [.lst (acc ++ (xs.filter c).map f)]) →
  compL g hp.length tgt ifs elt (compEnd m hp.length Q) xs (old ++ outer) (hp ++ [.lst acc])
 | [], acc, old, ho, hs, ht, hi, he, hg, hl, q => ⟨gOk_app hg _, atL_last (by simpa using q)⟩
 | x :: xs, acc, old, ho, hs, ht, hi, he, hg, hl, q => by
  refine ⟨gOk_app hg _, ht x List.mem_cons_self old ho _ _ (hi x List.mem_cons_self _ _ ?_)⟩
  have hs' : ∀ y ∈ xs, (slots y).length = n := fun y hy => hs y (List.mem_cons_of_mem _ hy)
  have ht' := fun y (hy : y ∈ xs) => ht y (List.mem_cons_of_mem _ hy)
  have hi' := fun y (hy : y ∈ xs) => hi y (List.mem_cons_of_mem _ hy)
  have he' := fun y (hy : y ∈ xs) => he y (List.mem_cons_of_mem _ hy)
  cases hc : c x with
  | true =>
   refine he x List.mem_cons_self hc _ _ ⟨by rw [lget_last]; rfl, ?_⟩
   unfold mAppend; dsimp only
   refine atL_last ⟨by simp at hl; lia, ?_⟩
   rw [set_last]
   refine comp_go c f slots xs (acc ++ [f x]) (slots x) (hs x List.mem_cons_self) hs' ht' hi' he' hg (by simp at hl ⊢; lia) ?_
   simpa [List.filter_cons, hc] using q
  | false =>
   refine comp_go c f slots xs acc (slots x) (hs x List.mem_cons_self) hs' ht' hi' he' hg (by simp at hl ⊢; lia) ?_
   simpa [List.filter_cons, hc] using q
theorem end_false {Q : V → List O → Prop} {l : List PyData} {hp : List O} {o : O} (q : Q (.d (.list l)) hp) : compEnd false hp.length Q l (hp ++ [o]) := by
 unfold compEnd; simpa using q
theorem end_true {Q : V → List O → Prop} {l : List PyData} {hp : List O} {o : O} (q : Q (.r hp.length) (hp ++ [o])) : compEnd true hp.length Q l (hp ++ [o]) := by
 unfold compEnd
 have : (hp ++ [o]).take (hp.length + 1) = hp ++ [o] := by rw [List.take_of_length_le (by simp)]
 simp only [this]; exact q
theorem comp1 {m : Bool} {it : XE} {ifs : XB} {elt : XE} {vs : List (Option V)} {Q : V → List O → Prop} {hp : List O} (c : PyData → Bool) (f : PyData → PyData) {v : V} {xs : List PyData}
  (hit : ∀ K, K v hp → it vs K hp) (hx : iterV v hp fun _ ys => ys = xs)
  (hi : ∀ x ∈ xs, ∀ l K, K (c x) (hp ++ l) → ifs (some (.d x) :: vs) K (hp ++ l))
  (he : ∀ x ∈ xs, c x = true → ∀ l K, K (.d (f x)) (hp ++ l) → elt (some (.d x) :: vs) K (hp ++ l))
  (hl : xs.length ≤ sizeLine) (q : match m with | false => Q (.d (.list ((xs.filter c).map f))) hp | true => Q (.r hp.length) (hp ++ [.lst ((xs.filter c).map f)])) :
  xComp m 1 (tName 0) it ifs elt vs Q hp := by
 refine hit _ ?_
 have base : ∀ g, gOk g hp → compL g hp.length (tName 0) ifs elt (compEnd m hp.length Q) xs (List.replicate 1 none ++ vs) (hp ++ [.lst []]) := fun g hg =>
  comp_go (m := m) c f (fun x => [some (.d x)]) xs [] [none] rfl (fun _ _ => rfl)
   (fun x hx old ho K h k => by
    obtain ⟨a, rfl⟩ := List.length_eq_one_iff.mp ho
    exact k) hi he hg (by simpa using hl) (by
    rw [List.nil_append]
    cases m with
    | false => exact end_false q
    | true => exact end_true q)
 cases v with
 | d y =>
  cases y <;> first | exact hx.elim | (cases hx; exact base none trivial)
 | r i =>
  obtain ⟨l, e, rfl⟩ := lst_inv hx
  unfold iterV
  dsimp only
  rw [e]
  exact base (some (i, l)) e
 | rng a b c' => exact ⟨hx.1, by obtain ⟨h1, h2⟩ := hx; rw [h2]; exact base none trivial⟩
 | g w => exact hx.elim
theorem for_go {α : Type} {g : G} {tgt : XT} {body : XS} {Q : QS} (R : α → List (Option V) → List O → Prop) (step : α → PyData → α) (hg : ∀ a vs hp, R a vs hp → gOk g hp) :
  ∀ (xs : List PyData) (a : α) (vs : List (Option V)) (hp : List O), R a vs hp →
  (∀ a vs hp x, x ∈ xs → R a vs hp → ∀ K : QS, (∀ vs' hp', R (step a x) vs' hp' → K .next vs' hp' ∧ K .cont vs' hp') → tgt (.d x) vs (fun vs' hp' => body vs' K hp') hp) →
  (∀ vs hp, R (xs.foldl step a) vs hp → Q .next vs hp) → forL g tgt body Q xs vs hp
 | [], a, vs, hp, r, hb, hq => ⟨hg _ _ _ r, hq _ _ r⟩
 | x :: xs, a, vs, hp, r, hb, hq => ⟨hg _ _ _ r, hb a vs hp x List.mem_cons_self r _ fun vs' hp' r' =>
   have := for_go R step hg xs (step a x) vs' hp' r' (fun a vs hp y hy => hb a vs hp y (List.mem_cons_of_mem _ hy)) hq
   ⟨this, this⟩⟩
theorem fin_same {n : Nat} {Q : V → List O → Prop} {x : PyData} {hp : List O} (q : Q (.d x) (hp.take n)) : fin false n Q (.d x) hp := q
end Mine
namespace Mine
open PySem PySem.Spec PySem.Calls PyProof.Rows
theorem Step.table {K : KX} {ρ : Rho} {h h' : Heap} {o : Obj} (hx : Heap.ExtBut K.tb h h') (ht : h'.get? K.tb = some o) : Step K ρ h ρ h' :=
 ⟨List.prefix_refl _, fun _ hp => .inl hp, fun b o e hb _ => hx b o hb e, fun b o' e => by
  by_cases hb : b = K.tb
  ·rw [hb]; exact ⟨o, ht⟩
  ·exact ⟨o', hx b o' hb e⟩⟩
theorem FRel.free {K : KX} {env : Env} {look : Str → Option Nat} {vs : List (Option V)} {ρ : Rho} {h : Heap} (F : FRel K env look vs ρ h) : FRel K.free env look vs ρ h := ⟨F.kd, F.gl, F.bi, F.lb, F.lo, F.ns, F.cl, F.ci, F.ij⟩
theorem Step.unfree {K : KX} {ρ ρ' : Rho} {h h' : Heap} (S : Step K.free ρ h ρ' h') : Step K ρ h ρ' h' := ⟨S.pre, S.new, S.keep, S.dom⟩
theorem StepS.unfree {K : KX} {env : Env} {ρ ρ' : Rho} {h h' : Heap} (S : StepS K.free env ρ h ρ' h') : StepS K env ρ h ρ' h' := ⟨S.pre, S.new, S.keep, S.dom⟩
structure StreamFacts (K : KX) (mg mb : Str → Option Value) (st : Stmt) (a c : Addr) : Prop where
 G : KG K mg mb
 fn : ∃ fd, FnAt K a (fdOf st fd) (fBody st) ∧ fd.defaults = .none ∧ fd.kwdefaults = .none ∧ fd.code = .ref c
 hd : W.CodeHd K.h0 c K.tb
 bl : K.h0.BuiltinsAt mg K.tb
 emp : ∀ ps, K.ok ps → ps = #[]
section
variable {K : KX} {mg mb : Str → Option Value} {r : Nat} {fd : FuncData} {a L : Addr}
theorem w_st0 : SoundS K 0 (callEnvC (fdOf (stAt 13) fd) L a) (lk (([("text" : Str)] : List Str) ++ (["left", "read", "stream"] : List Str))) (((fBody (stAt 13))[0]?).getD (.Pass default)) (sAssign 1 (xComp true 1 (tName 0) (xVar 0) iNil (xVar 0))) := by
 conv => arg 5; whnf
 refine s_assign ?_ ?_ ?_ ?_
 ·refine e_compB ["sign"] (m := true) ?_ ?_ ?_ ?_ ?_ ?_
  ·refine e_var ?_ ?_ ?_ ?_
   ·exact .inl rfl
   all_goals rfl
  ·intro _ _; exact tl_name rfl rfl
  ·intro _ _; exact i_nil
  ·intro _ _
   refine e_var ?_ ?_ ?_ ?_
   ·exact .inl rfl
   all_goals rfl
  ·rfl
  ·exact fun _ => rfl
 ·exact .inr rfl
 ·rfl
 ·rfl
theorem w_st1 : SoundS K 0 (callEnvC (fdOf (stAt 13) fd) L a) (lk (([("text" : Str)] : List Str) ++ (["left", "read", "stream"] : List Str))) (((fBody (stAt 13))[1]?).getD (.Pass default)) (sExpr (xMethL mReverse (xVar 1) lNil)) := by
 conv => arg 5; whnf
 refine s_expr ?_ ?_ ?_
 ·refine e_methL (id := "list.reverse") m_reverse ?_ l_nil PySem.F.slot_list_reverse PySem.F.type_list_reverse ?_ ?_ ?_
  ·refine e_var ?_ ?_ ?_ ?_
   ·exact .inr (.inl rfl)
   all_goals rfl
  all_goals rfl
 ·rfl
 ·rfl
end
noncomputable def stS (i : Nat) : Stmt := ((fBody (stAt 13))[i]?).getD (.Pass default)
noncomputable def sgn (l : List Nat) : List PyData := l.map fun c => .str ⟨#[c]⟩
inductive PostStream (K : KX) (ρ : Rho) (hp : List O) (s : Shared) (l : List Nat) (rv : Value) (s' : Shared) : Prop
 | mk (ρ' : Rho) (h' : Heap) (t' : Nat) (e : s' = { s with heap := h', toks := t' }) (H : HRel K.free ρ' (hp ++ [.stream l]) h') (S : Step K ρ s.heap ρ' h') (r : VR ρ' h' (.r hp.length) rv)
theorem body_eq : fBody (stAt 13) = [stS 0, stS 1, stS 2, stS 3, stS 4, stS 5] := rfl
theorem x_st0 {l : List Nat} {hp : List O} {QQ : QS} (hz : l.length ≤ 2 ^ 20) (q : QQ .next [some (.d (.str ⟨l.toArray⟩)), some (.r hp.length), none, none] (hp ++ [.lst (sgn l)])) :
  sAssign 1 (xComp true 1 (tName 0) (xVar 0) iNil (xVar 0)) [some (.d (.str ⟨l.toArray⟩)), none, none, none] QQ hp := by
 have e : signsOf ⟨l.toArray⟩ = sgn l := by unfold signsOf sgn; simp
 refine comp1 (m := true) (v := .d (.str ⟨l.toArray⟩)) (xs := signsOf ⟨l.toArray⟩) (fun _ => true) id (fun K k => k) rfl ?_ ?_ ?_ ?_
 ·intro x hx l K k; exact k
 ·intro x hx _ l K k; exact k
 ·rw [e]; unfold sgn; rw [List.length_map, sizeLine_eq]; lia
 ·dsimp only
  rw [List.filter_eq_self.mpr (fun _ _ => rfl), List.map_id, e]
  exact q
theorem x_st1 {l : List Nat} {hp : List O} {QQ : QS} (hz : l.length ≤ 2 ^ 20) (q : QQ .next [some (.d (.str ⟨l.toArray⟩)), some (.r hp.length), none, none] (hp ++ [.lst (sgn l).reverse])) :
  sExpr (xMethL mReverse (xVar 1) lNil) [some (.d (.str ⟨l.toArray⟩)), some (.r hp.length), none, none] QQ (hp ++ [.lst (sgn l)]) := by
 simp only [sExpr, xMethL, lNil, xVar, List.getElem?_cons_zero, List.getElem?_cons_succ]
 refine ⟨by rw [lget_last]; rfl, by rw [lget_last]; rfl, ?_⟩
 unfold mReverse
 dsimp only
 refine atL_last ⟨by unfold sgn; rw [List.length_map, sizeLine_eq]; lia, ?_⟩
 rw [set_last]
 exact q
theorem one_more {K : KX} {ρ ρ₁ : Rho} {hp : List O} {o : O} {h : Heap} (H : HRel K ρ₁ (hp ++ [o]) h) (hl : ρ.length = hp.length) (hpre : ρ <+: ρ₁) : ∃ p, ρ₁ = ρ ++ [p] := by
 obtain ⟨t, rfl⟩ := hpre
 have := H.len
 rw [List.length_append, List.length_append, List.length_singleton, hl] at this
 match t, (by lia : t.length = 1) with
 | [p], _ => exact ⟨p, rfl⟩
theorem HRel.swap {K : KX} {ρ : Rho} {hp : List O} {h : Heap} {p : P} {o o' : O} {b : Addr} {f : List Addr} (H : HRel K (ρ ++ [p]) (hp ++ [o]) h) (hl : ρ.length = hp.length)
  (hf : ∀ x ∈ f, x ∉ mu (ρ ++ [p]) ∧ K.New x ∧ ∃ ob, h.get? x = some ob) (hob : OR K (ρ ++ [{ a := b, m := p.m, f := f }]) h hp.length { a := b, m := p.m, f := f } o') :
  HRel K (ρ ++ [{ a := b, m := p.m, f := f }]) (hp ++ [o']) h := by
 have em : mu (ρ ++ [({ a := b, m := p.m, f := f } : P)]) = mu (ρ ++ [p]) := by simp [mu]
 refine ⟨H.tbd, H.keep, H.tab, by simp [hl], by rw [em]; exact H.nd, ?_, ?_, ?_, ?_⟩
 ·intro q hq
  rcases List.mem_append.mp hq with hq | hq
  ·exact H.hi q (List.mem_append.mpr (.inl hq))
  ·rw [List.mem_singleton.mp hq]; exact H.hi p (by simp)
 ·intro q hq x hx
  rw [em]
  rcases List.mem_append.mp hq with hq | hq
  ·exact H.fx q (List.mem_append.mpr (.inl hq)) x hx
  ·rw [List.mem_singleton.mp hq] at hx; exact ⟨(hf x hx).1, (hf x hx).2.1⟩
 ·intro q hq
  rcases List.mem_append.mp hq with hq | hq
  ·exact H.lt q (List.mem_append.mpr (.inl hq))
  ·rw [List.mem_singleton.mp hq]; exact ⟨(H.lt p (by simp)).1, fun x hx => (hf x hx).2.2⟩
 ·intro i oi q e e'
  by_cases hi : i < hp.length
  ·rw [List.getElem?_append_left hi] at e
   rw [List.getElem?_append_left (by lia)] at e'
   have r := H.ob i oi q (get_left e _) (by rw [List.getElem?_append_left (by lia)]; exact e')
   have get' : ∀ {j : Nat} {p' : P}, j < i → (ρ ++ [p])[j]? = some p' → (ρ ++ [({ a := b, m := p.m, f := f } : P)])[j]? = some p' := by
    intro j p' hj e
    rw [List.getElem?_append_left (by lia)] at e ⊢
    exact e
   cases oi with
   | lst l => obtain ⟨a, vs, n, h1, h4⟩ := r; exact ⟨a, vs, n, h1, by rw [em]; exact h4⟩
   | inst c fs =>
    obtain ⟨o, od, m, h1, h2, h3, h4, h5, h7, h8, h9, h10, h11⟩ := r
    refine ⟨o, od, m, h1, h2, h3, h4, h5, h7, h8, h9, ?_, h11⟩
    intro k x hx
    have q' := h10 k x hx
    revert q'
    cases fs.lookup k with
    | none => exact id
    | some v =>
     rintro ⟨⟨rv, q1, q2⟩, q3, q4⟩
     refine ⟨⟨rv, q1, ?_⟩, q3, q4⟩
     cases v with
     | d x => show DR h _ _ _; rw [em]; exact q2
     | r j => obtain ⟨p', e1, e2⟩ := q2; exact ⟨p', get' (q3 j rfl) e1, e2⟩
     | rng a b c => exact q4.elim
     | g v => exact q4.elim
   | stream l =>
    obtain ⟨d, X, f1, f4⟩ := r
    exact ⟨d, X, f1, by rw [em]; exact f4⟩
   | edict => exact r
   | citer c =>
    obtain ⟨e, o, vs, h1, h2, h3, h4⟩ := r
    refine ⟨e, o, vs, h1, h2, h3, ?_⟩
    cases c with
    | none => exact h4
    | some j =>
     obtain ⟨hj, M, t', q', q1, q2, q4, q6⟩ := h4
     exact ⟨hj, M, t', q', q1, q2, q4, get' hj q6⟩
  ·have hil : i = hp.length := by
    have := (List.getElem?_eq_some_iff.mp e).1
    simp at this; lia
   subst hil
   rw [List.getElem?_append_right (Nat.le_refl _)] at e
   rw [List.getElem?_append_right (by lia)] at e'
   simp [hl] at e e'
   subst e; subst e'
   exact hob
theorem CodeHd_at {h h' : Heap} {c P : Addr} (x : W.CodeHd h c P) (k : ∀ o, h.get? c = some o → h'.get? c = some o) : W.CodeHd h' c P := by
 obtain ⟨o, vs, file, tf, flags, tg, inF, text, tt, e, r⟩ := x
 exact ⟨o, vs, file, tf, flags, tg, inF, text, tt, k o e, r⟩
theorem BuiltinsAt_at {h h' : Heap} {mg : Str → Option Value} {P : Addr} (x : h.BuiltinsAt mg P) (k : ∀ b o, b ≠ P → h.get? b = some o → h'.get? b = some o) : h'.BuiltinsAt mg P := by
 obtain ⟨bm, o, a, b, c, d, e, r⟩ := x
 exact ⟨bm, o, a, b, c, d, k bm o d e, r⟩
noncomputable def pos2 : Pos := match stS 2 with | .FunctionDef _ _ _ _ _ _ _ _ _ p => p | _ => default
theorem st2_form : stS 2 = .FunctionDef "read" (fArgs (stS 2)) (fBody (stS 2)) [] none [] (fScope (stS 2)) none "read" pos2 := rfl
theorem st3_form : ∃ pn args body scope pl pos, stS 3 = .Assign [.Name "stream" pn] (.Lambda args body scope pl) pos ∧ (∀ env, defaultsOf args env = ([], [])) ∧ scope.names = [] ∧
  (∀ env, swapsWith (.Lambda args body scope pl) (some (.Name "stream" pn)) pos.line env = pure false) ∧ ∀ c' : Addr, PySem.codeAmong pl [rawInt pos2.line, rawInt pos2.col, .ref c'] = none :=
 ⟨_, _, _, _, _, _, rfl, fun _ => rfl, rfl, fun _ => rfl, fun _ => rfl⟩
theorem st4_form : ∃ p1 p2 p3 pos, stS 4 = .Assign [.Attribute (.Name "stream" p1) "read" p2] (.Name "read" p3) pos ∧ ∀ env, swapsWith (.Name "read" p3) (some (.Attribute (.Name "stream" p1) "read" p2)) pos.line env = pure false := ⟨_, _, _, _, rfl, fun _ => rfl⟩
theorem st5_form : ∃ p1 pos, stS 5 = .Return (some (.Name "stream" p1)) pos := ⟨_, _, rfl⟩
noncomputable abbrev KX.okd (K : KX) (o : Array Value → Prop) : KX := { K with ok := o }
theorem HRel.reok {K : KX} {ρ : Rho} {hp : List O} {h : Heap} {ps : Array Value} {o : Array Value → Prop} (H : HRel K ρ hp h) (e : h.get? K.tb = some { cls := .none, data := .fields ps }) (ho : o ps) : HRel (K.okd o) ρ hp h :=
 ⟨H.tbd, H.keep, ⟨ps, ho, e⟩, H.len, H.nd, H.hi, H.fx, H.lt, fun i o p e q => by
  have := H.ob i o p e q
  cases o <;> exact this⟩
theorem FRel.okd {K : KX} {env : Env} {look : Str → Option Nat} {vs : List (Option V)} {ρ : Rho} {h : Heap} {o : Array Value → Prop} (F : FRel K env look vs ρ h) : FRel (K.okd o) env look vs ρ h := ⟨F.kd, F.gl, F.bi, F.lb, F.lo, F.ns, F.cl, F.ci, F.ij⟩
theorem StepS.unokd {K : KX} {env : Env} {ρ ρ' : Rho} {h h' : Heap} {o : Array Value → Prop} (S : StepS (K.okd o) env ρ h ρ' h') : StepS K env ρ h ρ' h' := ⟨S.pre, S.new, S.keep, S.dom⟩
theorem st2_names : (fScope (stS 2)).names.all (fun x => x.2 != .free || x.1 == ("left" : Str)) = true := by decide +kernel
theorem HRel.tbNot {K : KX} {ρ : Rho} {hp : List O} {h : Heap} (H : HRel K ρ hp h) : K.tb ∉ mu ρ ∧ ∀ p ∈ ρ, K.tb ∉ p.f := by
 refine ⟨fun hm => ?_, fun p hp hf => H.newTb (H.fx p hp _ hf).2 rfl⟩
 obtain ⟨p, hp, e⟩ := List.mem_map.mp hm
 exact H.newTb (H.hi p hp) e
theorem stream_call {K : KX} {mg mb : Str → Option Value} {a c : Addr} (SF : StreamFacts K mg mb (stAt 13) a c) (h3 : mainGlobals = 3) (hb0 : builtinsNs = 0)
    (hrp : K.readFd.params = fArgs (stS 2)) (hrb : K.readFd.body = .stmts (fBody (stS 2))) (hrs : K.readFd.scope = fScope (stS 2))
    {A : Around} (ok : OkA 3 A) {ρ : Rho} {hp : List O} {s : Shared} {l : List Nat} {t : Tok} {E : Value → Shared → Prop} (H : HRel K ρ hp s.heap) (hz : l.length ≤ 2 ^ 20) :
    codeAny (model K.prog K.w) A (.call (.ref a) ⟨[.str ⟨l.toArray⟩ t], []⟩) (fun r s' => match r with | .ok (.ret v) => PostStream K ρ hp s l v s' | .ok _ => False | .error e => E e s') s := by
  obtain ⟨fd, X, hd, hk, hcode⟩ := SF.fn
  refine f_go (r := 2) (ps := ([("text" : Str)] : List Str)) (rest := (["left", "read", "stream"] : List Str)) (n := 3) (vas := [.d (.str ⟨l.toArray⟩)]) (Post := PostStream K ρ hp s l) SF.G X ?_ (by decide) (kindsOk rfl) (noFree rfl) ok H (.cons (.str _ _) .nil) rfl ?_
  · intro ras h
    obtain ⟨n1, n2, n3, n4, n5, n6, n7, n8, n9, n10, n11, n12, n13, n14, n15⟩ := fd
    subst hd; subst hk
    match ras, h with
    | [a0], _ => rfl
  intro h₂ t₂ A' E' ok' F H₂ S₂ np
  have ok0 : OkA 0 A' := ok'.le (Nat.zero_le _)
  rw [body_eq]
  refine wpAny_execs_cons (wpAny_mono (w_st0 A' ok0 _ (fun fl vs' hp' => fl = .next ∧ vs' = [some (.d (.str ⟨l.toArray⟩)), some (.r hp.length), none, none] ∧ hp' = hp ++ [.lst (sgn l)]) hp ρ _ E' (x_st0 hz ⟨rfl, rfl, rfl⟩) F H₂) ?_ (fun _ _ x => x))
  rintro fl s₃ ⟨af, vs', hp', ρ₃, g₃, t₃, rfl, ⟨rfl, rfl, rfl⟩, F₃, H₃, S₃, fr⟩
  cases fl <;> first | exact fr.elim | skip
  refine wpAny_execs_cons (wpAny_mono (w_st1 A' ok0 _ (fun fl vs' hp' => fl = .next ∧ vs' = [some (.d (.str ⟨l.toArray⟩)), some (.r hp.length), none, none] ∧ hp' = hp ++ [.lst (sgn l).reverse]) _ ρ₃ _ E' (x_st1 hz ⟨rfl, rfl, rfl⟩) F₃ H₃) ?_ (fun _ _ x => x))
  rintro fl s₄ ⟨af, vs', hp', ρ₄, g₄, t₄, rfl, ⟨rfl, rfl, rfl⟩, F₄, H₄, S₄, fr⟩
  cases fl <;> first | exact fr.elim | skip
  dsimp only at F₄ H₄ S₄ S₃ ⊢
  have S24 := S₃.trans S₄
  obtain ⟨p, rfl⟩ := one_more H₄ H.len S24.pre
  have kl : (callEnvC (fdOf (stAt 13) fd) s.heap.objs.size a).kindOf "left" = some .cell := rfl
  obtain ⟨cc, oc, ov, c1, c2, c3, c4, c5, c6⟩ := F₄.cl "left" (.inl kl)
  obtain ⟨rv, rfl, pr⟩ := c6 1 (.r hp.length) rfl rfl
  obtain ⟨p', ep, rfl⟩ := pr
  have pe : p' = p := by
    rw [List.getElem?_append_right (by rw [H.len]; exact Nat.le_refl _), H.len, Nat.sub_self] at ep
    simpa using ep.symm
  subst pe
  obtain ⟨pam, vs4, n4, L4, D4⟩ := H₄.ob hp.length (.lst (sgn l).reverse) p' (by simp) ep
  obtain ⟨ps, okps, tb4⟩ := H₄.tab
  have := SF.emp ps okps
  subst this
  have g34 := H₄.nsOf SF.G.g SF.G.g'
  have hcne : c ≠ K.tb := by obtain ⟨o, vs, file, tf, flags, tg, inF, text, tt, _, _, _, _, _, _, _, _, _, e⟩ := SF.hd; exact e
  have C4 : W.CodeHd g₄ c K.tb := CodeHd_at SF.hd (fun o e => H₄.keep _ _ e hcne)
  have B4 : g₄.BuiltinsAt mg K.tb := BuiltinsAt_at SF.bl (fun b o hb e => H₄.keep _ _ e hb)
  have cn2 : PySem.codeAmong pos2 (#[] : Array Value).toList = none := rfl
  generalize hE : callEnvC (fdOf (stAt 13) fd) s.heap.objs.size a = env at *
  have envg : env.globals = mainGlobals := by rw [← hE, h3]; rfl
  have envc : env.code = .ref c := by rw [← hE]; exact hcode
  have kread : env.kindOf "read" = some .local := by rw [← hE]; rfl
  have kstream : env.kindOf "stream" = some .local := by rw [← hE]; rfl
  have hcl2 : closureFor (fScope (stS 2)) env = pure (clo env.cells (fScope (stS 2)).names []) := by
    refine closureFor_clo (fun x hx hf => ?_)
    have := List.all_eq_true.mp st2_names x hx
    rw [hf] at this
    have e : x.1 = "left" := by simpa using this
    rw [e, c1]; rfl
  rw [st2_form]
  refine wpAny_execs_cons (exec_def rfl rfl (W.makeFunction_K (P := K.tb) (ps := #[]) (mg := mg) hcl2 envg (by rw [h3]; exact g34) envc C4 tb4 trivial cn2 (by rw [h3]; exact SF.G.g') B4 ?_))
  intro c' ctv doc h5 tk hx5 hge5 hlt5 hrec5 htb5
  dsimp only at hx5 hge5 hlt5 ⊢
  generalize hfo : W.fnMade "read" (qualnameIn env "read" "read") (fArgs (stS 2)) (fBody (stS 2)) (fScope (stS 2)) (clo env.cells (fScope (stS 2)).names []) doc ((mg "__name__").getD .none) c' ctv = fo
  have hx6 : Heap.ExtBut K.tb g₄ (h5.push fo) := fun b o hb e => Heap.get?_push_of_some _ (hx5 b o hb e)
  have tb6 : (h5.push fo).get? K.tb = some { cls := .none, data := .fields (#[] ++ #[rawInt pos2.line, rawInt pos2.col, .ref c']) } := Heap.get?_push_of_some _ htb5
  generalize hps1 : (#[] ++ #[rawInt pos2.line, rawInt pos2.col, .ref c'] : Array Value) = ps1 at tb6 htb5
  have H₆ := (H₄.table hx6 tb6 H₄.tbNot.1 H₄.tbNot.2).reok (o := (· = ps1)) tb6 rfl
  have S46 : Step K (ρ ++ [p']) g₄ (ρ ++ [p']) (h5.push fo) := Step.table hx6 tb6
  have F₆ := (F₄.step H₄ S46).okd (o := (· = ps1))
  have R6 : (h5.push fo).get? h5.objs.size = some fo := Heap.get?_push_size _ (by rw [← hfo]; rfl)
  have K6 : K.free.okd (· = ps1) = K.okd (· = ps1) := rfl
  rw [K6] at H₆
  refine wpAny_mono (store_name (K := K.okd (· = ps1)) (k := 2) (v := .g (.ref h5.objs.size)) (s := { s with heap := h5.push fo, toks := tk }) (.inl kread) rfl F₆ H₆ ⟨rfl, trivial⟩) ?_ (fun _ _ x => x)
  rintro _ s7 ⟨h7, t7, rfl, F₇, H₇, S67⟩
  obtain ⟨pn, la, lb, lsc, pl, lpos, f3, ld, lnm, lsw, lcn⟩ := st3_form
  obtain ⟨ps7, rfl, tb7⟩ := H₇.tab
  have C7 : W.CodeHd h7 c K.tb := CodeHd_at SF.hd (fun o e => H₇.keep _ _ e hcne)
  have B7 : h7.BuiltinsAt mg K.tb := BuiltinsAt_at SF.bl (fun b o hb e => H₇.keep _ _ e hb)
  have g37 : h7.Ns 3 mg := by obtain ⟨o, es, ep, e, q⟩ := SF.G.g; exact ⟨o, es, ep, H₇.keep _ _ e SF.G.g', q⟩
  have hcl3 : closureFor lsc env = pure [] := by
    have := closureFor_clo (scope := lsc) (env := env) (fun x hx => by rw [lnm] at hx; cases hx)
    rw [lnm] at this; exact this
  rw [f3]
  refine wpAny_execs_cons (wpAny_Assign_Name (W.kla_eval (ld env) (W.kla_makeFunction (P := K.tb) (ps := ps7) (mg := mg) hcl3 envg (by rw [h3]; exact g37) envc C7 tb7 (by rw [← hps1]; exact trivial) (by rw [← hps1]; exact lcn c') (by rw [h3]; exact SF.G.g') B7 ?_)) (lsw env))
  intro c8 ctv8 h8 tk8 hx8 hge8 hlt8 hrec8 htb8
  dsimp only at hx8 hge8 hlt8 ⊢
  generalize hfl : W.kla_obj "<lambda>" (env.qual ++ "<lambda>") la lb lsc [] ((mg "__name__").getD .none) c8 ctv8 = fl8
  have hx9 : Heap.ExtBut K.tb h7 (h8.push fl8) := fun b o hb e => Heap.get?_push_of_some _ (hx8 b o hb e)
  have tb9 := Heap.get?_push_of_some fl8 htb8
  have H₉ : HRel K.free (ρ ++ [p']) (hp ++ [.lst (sgn l).reverse]) (h8.push fl8) := H₇.table hx9 tb9 H₇.tbNot.1 H₇.tbNot.2
  have S79 : Step K (ρ ++ [p']) h7 (ρ ++ [p']) (h8.push fl8) := Step.table hx9 tb9
  have S79' : Step (K.okd (· = ps7)) (ρ ++ [p']) h7 (ρ ++ [p']) (h8.push fl8) := Step.table hx9 tb9
  have F₉ : FRel K.free env _ _ _ _ := (F₇.step H₇ S79').free
  have L9 : (h8.push fl8).get? h8.objs.size = some fl8 := Heap.get?_push_size _ (by rw [← hfl]; rfl)
  refine wpAny_mono (store_name (K := K.free) (k := 3) (v := .g (.ref h8.objs.size)) (s := { s with heap := h8.push fl8, toks := tk8 }) (.inl kstream) rfl F₉ H₉ ⟨rfl, trivial⟩) ?_ (fun _ _ x => x)
  rintro _ s10 ⟨h10, t10, rfl, F₁₀, H₁₀, S910⟩
  have T7 : StepS K env ρ h₂ (ρ ++ [p']) h7 := (S24.trans S46.toS).trans S67.unokd
  have T10 : StepS K env ρ h₂ (ρ ++ [p']) h10 := (T7.trans S79.toS).trans S910.unfree
  have S45 : Step K (ρ ++ [p']) g₄ (ρ ++ [p']) h5 := Step.table hx5 htb5
  have S78 : Step K (ρ ++ [p']) h7 (ρ ++ [p']) h8 := Step.table hx8 htb8
  have H5 := H₄.table hx5 htb5 H₄.tbNot.1 H₄.tbNot.2
  have H8 : HRel K.free (ρ ++ [p']) (hp ++ [.lst (sgn l).reverse]) h8 := H₇.table hx8 htb8 H₇.tbNot.1 H₇.tbNot.2
  have none5 : h5.get? h5.objs.size = none := get?_beyond (Nat.le_refl _)
  have none8 : h8.get? h8.objs.size = none := get?_beyond (Nat.le_refl _)
  have nonec : g₄.get? c' = none := get?_beyond hge5
  have RN : K.New h5.objs.size := H5.fresh none5
  have RO : Off (ρ ++ [p']) h5.objs.size := H5.off none5
  have FN : K.New h8.objs.size := H8.fresh none8
  have FO : Off (ρ ++ [p']) h8.objs.size := H8.off none8
  have CN : K.New c' := H₄.fresh nonec
  have CO : Off (ρ ++ [p']) c' := H₄.off nonec
  obtain ⟨cx, oc5, cvs5, tt5, hcx, hoc5, hcd5, hcq5⟩ := hrec5
  cases hcx
  have R7 : h7.get? h5.objs.size = some fo := S67.keep _ _ R6 (H₄.newTb RN) RO.mu (F₆.notPlace R6 (by rw [← hfo]; intro es n q; cases q) (by rw [← hfo]; intro v q; cases q))
  have R10 : h10.get? h5.objs.size = some fo := S910.keep _ _ (hx9 _ _ (H₄.newTb RN) R7) (H₄.newTb RN) RO.mu (F₉.notPlace (hx9 _ _ (H₄.newTb RN) R7) (by rw [← hfo]; intro es n q; cases q) (by rw [← hfo]; intro v q; cases q))
  have L10 : h10.get? h8.objs.size = some fl8 := S910.keep _ _ L9 (H₄.newTb FN) FO.mu (F₉.notPlace L9 (by rw [← hfl]; intro es n q; cases q) (by rw [← hfl]; intro v q; cases q))
  have C6 : (h5.push fo).get? c' = some oc5 := Heap.get?_push_of_some _ hoc5
  have C7' : h7.get? c' = some oc5 := S67.keep _ _ C6 (H₄.newTb CN) CO.mu (F₆.notPlace C6 (by rw [hcd5]; intro es n q; cases q) (by rw [hcd5]; intro v q; cases q))
  have C10 : h10.get? c' = some oc5 := S910.keep _ _ (hx9 _ _ (H₄.newTb CN) C7') (H₄.newTb CN) CO.mu (F₉.notPlace (hx9 _ _ (H₄.newTb CN) C7') (by rw [hcd5]; intro es n q; cases q) (by rw [hcd5]; intro v q; cases q))
  obtain ⟨cc2, oc2, ov2, d1, d2, d3, d4, d5, d6⟩ := F₁₀.cl "left" (.inl kl)
  have ecc : cc2 = cc := by rw [c1] at d1; cases d1; rfl
  subst ecc
  obtain ⟨rv2, rfl, pr2⟩ := d6 1 (.r hp.length) rfl rfl
  obtain ⟨p2, ep2, rfl⟩ := pr2
  have pe2 : p2 = p' := by
    have : (ρ ++ [p'])[hp.length]? = some p' := by rw [← H.len]; simp
    rw [this] at ep2; cases ep2; rfl
  subst pe2
  obtain ⟨q1, q2, q3, q4, f4, sw4⟩ := st4_form
  obtain ⟨q5, q6, f5⟩ := st5_form
  rw [f4]
  obtain ⟨mm, nn, ff⟩ := F₁₀.ns
  obtain ⟨rvr, er1, er2⟩ := ff "read" 2 (.g (.ref h5.objs.size)) kread rfl rfl
  obtain ⟨rvs, es1, es2⟩ := ff "stream" 3 (.g (.ref h8.objs.size)) kstream rfl rfl
  obtain ⟨rfl, _⟩ := er2
  obtain ⟨rfl, _⟩ := es2
  refine wpAny_execs_cons (plainObj_wpAny_Assign_Attribute (wpAny_Name (wpAny_loadName_local F₁₀.kd kread nn er1 ?_) rfl) (sw4 env))
  refine wpAny_Name (wpAny_loadName_local F₁₀.kd kstream nn es1 ?_) rfl
  refine fn_setAttr (o := fl8) (v := .ref h5.objs.size) L10 (by rw [← hfl]) (by rw [← hfl]) (by rw [← hfl]) ?_
  intro h12 D md tk12 dnone dF dNs dm1 dm2 dkeep
  rw [f5]
  have hneL : env.locals ≠ h8.objs.size := by
    intro e
    have := F₁₀.lb
    obtain ⟨o, es, ep, e1, e2, _⟩ := nn
    rw [e, L10] at e1
    cases e1
    rw [← hfl] at e2; cases e2
  have nn12 : h12.Ns env.locals mm := by
    obtain ⟨o, es, ep, e1, e2⟩ := nn
    exact ⟨o, es, ep, dkeep _ _ hneL e1, e2⟩
  refine wpAny_execs_cons (wpAny_Return_some (wpAny_Name (wpAny_loadName_local F₁₀.kd kstream nn12 es1 ?_) rfl))
  refine ⟨_, rfl, ?_⟩
  have nofl : ∀ (vs : Array Value) (n : Nat), fl8.data ≠ .seq vs n := by rw [← hfl]; intro vs n q; cases q
  have hxF : Heap.ExtBut h8.objs.size h10 h12 := fun b o hb e => dkeep b o hb e
  have H₁₂ : HRel K.free (ρ ++ [p2]) (hp ++ [.lst (sgn l).reverse]) h12 := H₁₀.other FN FO hxF (fun o e => by rw [L10] at e; cases e; exact nofl)
  have DN : K.New D := H₁₀.fresh dnone
  have DO : Off (ρ ++ [p2]) D := H₁₀.off dnone
  have ndm := H₄.nd
  have mnew : h₂.get? p2.m = none ∧ ∀ x ∈ p2.f, h₂.get? x = none := by
    rcases S24.new p2 (by simp) with q | q
    · exfalso
      simp only [mu, List.map_append, List.map_cons, List.map_nil] at ndm
      exact (List.nodup_append.mp ndm).2.2 p2.m (List.mem_map.mpr ⟨p2, q, rfl⟩) p2.m (by simp) rfl
    · exact q
  have dom7 : ∀ b o, s.heap.get? b = some o → ∃ o', h7.get? b = some o' := fun b o e => by
    obtain ⟨o', e'⟩ := S₂.dom b o e
    exact T7.dom b o' e'
  have dom8 : ∀ b o, s.heap.get? b = some o → ∃ o', h8.get? b = some o' := fun b o e => by
    obtain ⟨o', e'⟩ := dom7 b o e
    exact S78.dom b o' e'
  have dom10 : ∀ b o, s.heap.get? b = some o → ∃ o', h10.get? b = some o' := fun b o e => by
    obtain ⟨o', e'⟩ := S₂.dom b o e
    exact T10.dom b o' e'
  have dom5 : ∀ b o, s.heap.get? b = some o → ∃ o', h5.get? b = some o' := fun b o e => by
    obtain ⟨o', e'⟩ := S₂.dom b o e
    obtain ⟨o'', e''⟩ := S24.dom b o' e'
    exact S45.dom b o'' e''
  have dom4 : ∀ b o, s.heap.get? b = some o → ∃ o', g₄.get? b = some o' := fun b o e => by
    obtain ⟨o', e'⟩ := S₂.dom b o e
    exact S24.dom b o' e'
  have nF : s.heap.get? h8.objs.size = none := none_of_dom dom8 none8
  have nR : s.heap.get? h5.objs.size = none := none_of_dom dom5 none5
  have nD : s.heap.get? D = none := none_of_dom dom10 dnone
  have nC : s.heap.get? c' = none := none_of_dom dom4 nonec
  have ncc : s.heap.get? cc2 = none := by
    cases e : s.heap.get? cc2 with
    | none => rfl
    | some o => exact absurd (.inr ⟨"left", kl, d1⟩) (np cc2 o e)
  have nm : s.heap.get? p2.m = none := none_of_dom S₂.dom mnew.1
  have ne1 : h5.objs.size ≠ h8.objs.size := fun e => by rw [e] at R10; rw [R10] at L10; cases L10; rw [← hfo] at hfl; cases hfl
  have R12 : h12.get? h5.objs.size = some fo := dkeep _ _ ne1 R10
  have ne2 : c' ≠ h8.objs.size := fun e => by rw [e, L10] at C10; cases C10; rw [← hfl] at hcd5; cases hcd5
  have C12 : h12.get? c' = some oc5 := dkeep _ _ ne2 C10
  have ne3 : cc2 ≠ h8.objs.size := fun e => by rw [e, L10] at d4; cases d4; rw [← hfl] at d5; cases d5
  have CC12 : h12.get? cc2 = some oc2 := dkeep _ _ ne3 d4
  obtain ⟨od, oes, oep, oD, oDr⟩ := dNs
  have hclo : clo env.cells (fScope (stS 2)).names [] = [(("left" : Str), cc2)] := by
    show [(("left" : Str), (env.cells.lookup ("left" : Str)).getD 0)] = _
    rw [c1]; rfl
  obtain ⟨pam12, vs12, n12, L12, D12⟩ := H₁₂.ob hp.length (.lst (sgn l).reverse) p2 (by simp) (by rw [← H.len]; simp)
  have em : mu (ρ ++ [({ a := h8.objs.size, m := p2.m, f := [h8.objs.size, D, h5.objs.size, cc2, c'] } : P)]) = mu (ρ ++ [p2]) := by simp [mu]
  refine ⟨ρ ++ [{ a := h8.objs.size, m := p2.m, f := [h8.objs.size, D, h5.objs.size, cc2, c'] }], h12, _, rfl, ?_, ?_, ?_⟩
  · refine H₁₂.swap H.len ?_ ?_
    · intro x hx
      simp only [List.mem_cons, List.not_mem_nil, or_false] at hx
      rcases hx with rfl | rfl | rfl | rfl | rfl
      · exact ⟨FO.mu, FN, _, dF⟩
      · exact ⟨DO.mu, DN, _, oD⟩
      · exact ⟨RO.mu, RN, _, R12⟩
      · exact ⟨d3.mu, d2, _, CC12⟩
      · exact ⟨CO.mu, CN, _, C12⟩
    · refine ⟨{ oF := _, fd := _, D := D, od := od, m := md, R := h5.objs.size, oR := fo, rfd := _, c := cc2, oc := oc2, vs := vs12, n := n12, cc := c', oc' := oc5, cvs := cvs5, t := tt5 },
        { a1 := dF, a2 := by rw [← hfl], a3 := rfl, a4 := by rw [← hfl], a5 := by simp, b1 := oD, b3 := ⟨od, oes, oep, oD, oDr⟩, b4 := by simp, b6 := dm1, b7 := dm2,
          c1 := R12, c2 := by rw [← hfo], c3 := by rw [← hfo], c4 := by rw [← hfo], c5 := by simp, c7 := hrp.symm, c8 := hrb.symm, c9 := hrs.symm, c10 := h3, c11 := hclo, c12 := rfl, c13 := rfl, c14 := hb0,
          d1 := rfl, d2 := C12, d3 := hcd5, d4 := hcq5, d5 := by simp, e1 := CC12, e2 := by rw [d5, pam12], e3 := by simp }, L12, ?_⟩
      · rw [em]
        unfold sgn at D12
        rw [← List.map_reverse] at D12
        exact D12
  · refine ⟨List.prefix_append _ _, ?_, ?_, ?_⟩
    · intro q hq
      rcases List.mem_append.mp hq with hq | hq
      · exact .inl hq
      · rw [List.mem_singleton.mp hq]
        refine .inr ⟨nm, fun x hx => ?_⟩
        simp only [List.mem_cons, List.not_mem_nil, or_false] at hx
        rcases hx with rfl | rfl | rfl | rfl | rfl
        · exact nF
        · exact nD
        · exact nR
        · exact ncc
        · exact nC
    · intro b o e hb hm
      have hne : b ≠ h8.objs.size := by rintro rfl; rw [nF] at e; cases e
      exact dkeep b o hne (T10.keep b o (S₂.keep b o e hb hm) hb hm (np b o e))
    · intro b o e
      have hne : b ≠ h8.objs.size := by rintro rfl; rw [nF] at e; cases e
      obtain ⟨o', e'⟩ := dom10 b o e
      exact ⟨o', dkeep b o' hne e'⟩
  · exact ⟨{ a := h8.objs.size, m := p2.m, f := [h8.objs.size, D, h5.objs.size, cc2, c'] }, by rw [← H.len]; simp, rfl⟩
structure S3 (K : KX) (Kf : W.Frag) (mg mb : Str → Option Value) : Prop where
 G : KG K mg mb
 X : KF K Kf
 attrs : K.attrs = (["_headers", "lineno", "instream", "whitespace", "pushback"] : List Str)
 x_Headers___str__ : FnOk K 209 (clAt 11 13)
 m_Headers___str__ : metOk Kf 233 "__str__" 209 = true
 x_Headers__convert_string_type : FnOk K 132 (clAt 11 1)
 m_Headers__convert_string_type : metOk Kf 233 "_convert_string_type" 132 = true
 x_Headers_add_header : FnOk K 230 (clAt 11 16)
 m_Headers_add_header : metOk Kf 233 "add_header" 230 = true
 x_Headers_get : FnOkD K 180 (clAt 11 8) (.ref 173)
 bd_Headers_get : ∀ (fd : FuncData) S a0 a1, fd.defaults = .ref 173 → fd.kwdefaults = .none → W.peek Kf S (bindArgs (fdOf (clAt 11 8) fd) ⟨[a0, a1], []⟩) = some [(("self" : Str), a0), (("name" : Str), a1), (("default" : Str), .none)]
 m_Headers_get : metOk Kf 233 "get" 180 = true
 x_Headers_keys : FnOk K 185 (clAt 11 9)
 m_Headers_keys : metOk Kf 233 "keys" 185 = true
 x__law_back : FnOk K 249 (stAt 14)
 g__law_back : mg "_law_back" = some (.ref 249)
 x__law_moves : FnOk K 256 (stAt 15)
 g__law_moves : mg "_law_moves" = some (.ref 256)
 x__law_written : FnOk K 261 (stAt 16)
 g__law_written : mg "_law_written" = some (.ref 261)
 x__netrclex___init__ : FnOk K 59 (clAt 5 0)
 m__netrclex___init__ : metOk Kf 83 "__init__" 59 = true
 x__netrclex__read_char : FnOk K 66 (clAt 5 1)
 m__netrclex__read_char : metOk Kf 83 "_read_char" 66 = true
 x__netrclex_get_token : FnOk K 73 (clAt 5 2)
 m__netrclex_get_token : metOk Kf 83 "get_token" 73 = true
 x_Headers___init__ : FnOkD K 125 (clAt 11 0) (.ref 118)
 bd_Headers___init__ : ∀ (fd : FuncData) S a0 a1, fd.defaults = .ref 118 → fd.kwdefaults = .none → W.peek Kf S (bindArgs (fdOf (clAt 11 0) fd) ⟨[a0, a1], []⟩) = some [(("self" : Str), a0), (("headers" : Str), a1)]
 m_Headers___init__ : metOk Kf 233 "__init__" 125 = true
 x_Headers___delitem__ : FnOk K 151 (clAt 11 4)
 m_Headers___delitem__ : metOk Kf 233 "__delitem__" 151 = true
 x_Headers___setitem__ : FnOk K 146 (clAt 11 3)
 m_Headers___setitem__ : metOk Kf 233 "__setitem__" 146 = true
 x__law_product : FnOk K 268 (stAt 17)
 g__law_product : mg "_law_product" = some (.ref 268)
 x__law_book : FnOk K 273 (stAt 18)
 g__law_book : mg "_law_book" = some (.ref 273)
 x_replace : FnOk K 45 (stAt 3)
 g_replace : mg "replace" = some (.ref 45)
 x__law_struck : FnOk K 285 (stAt 20)
 g__law_struck : mg "_law_struck" = some (.ref 285)
 x__law_put_in : FnOk K 292 (stAt 21)
 g__law_put_in : mg "_law_put_in" = some (.ref 292)
 x__law_sums : FnOk K 299 (stAt 22)
 g__law_sums : mg "_law_sums" = some (.ref 299)
 x__law_is_ring : FnOk K 311 (stAt 24)
 g__law_is_ring : mg "_law_is_ring" = some (.ref 311)
 x__law_line : FnOk K 304 (stAt 23)
 g__law_line : mg "_law_line" = some (.ref 304)
 x__law_names : FnOk K 278 (stAt 19)
 g__law_names : mg "_law_names" = some (.ref 278)
 g_Headers : mg "Headers" = some (.ref 233)
 c_Headers : clsOk Kf 233 = true
 f_Headers__headers : fldOk Kf 233 "_headers" = true
 g__netrclex : mg "_netrclex" = some (.ref 83)
 c__netrclex : clsOk Kf 83 = true
 f__netrclex_lineno : fldOk Kf 83 "lineno" = true
 f__netrclex_instream : fldOk Kf 83 "instream" = true
 f__netrclex_whitespace : fldOk Kf 83 "whitespace" = true
 f__netrclex_pushback : fldOk Kf 83 "pushback" = true
 g__name_disallowed_re : mg "_name_disallowed_re" = some (.ref 97)
 g__value_disallowed_re : mg "_value_disallowed_re" = some (.ref 102)
 abs0 : mg "abs" = none
 abs1 : mb "abs" = some (.builtin "abs")
 iter0 : mg "iter" = none
 iter1 : mb "iter" = some (.builtin "iter")
 len0 : mg "len" = none
 len1 : mb "len" = some (.builtin "len")
 list0 : mg "list" = none
 list1 : mb "list" = some (.type "list")
 range0 : mg "range" = none
 range1 : mb "range" = some (.type "range")
 str0 : mg "str" = none
 str1 : mb "str" = some (.type "str")
 type0 : mg "type" = none
 type1 : mb "type" = some (.type "type")
 bd0_Headers___init__ : ∀ (fd : FuncData) S a0, fd.defaults = .ref 118 → fd.kwdefaults = .none → W.peek Kf S (bindArgs (fdOf (clAt 11 0) fd) ⟨[a0], []⟩) = some [(("self" : Str), a0), (("headers" : Str), .none)]
 sm : ∃ o, K.h0.get? sysModules = some o
 rc : K.readChar = 66
 rcm : metOk Kf 83 "_read_char" K.readChar = true
 rc1 : W.specialIn Kf (.ref K.readChar) "__get__" = some (some (.builtin "function.__get__"))
 rc2 : W.takesIn Kf (.ref K.readChar) = some false
 rt : ReadText K "size" readBody
 re : ∀ p ∈ ([97, 102] : List Addr), ReAt K p ∧ ∀ o, K.h0.get? p = some o → o.dict = none
variable {K : KX} {Kf : W.Frag} {mg mb : Str → Option Value}
noncomputable def p_Headers___str__ : XS := (sCons (sRet (xMethS mJoin (cS "\r\n") (lCons (xBin opAdd (xComp false 1 (tName 0) (xUn (getF 233 0) (xVar 0)) iNil (xBin opPct (cS "%s: %s") (xVar 0))) (xList false (lCons (cS "") (lCons (cS "") lNil)))) lNil)))
 sNil)
theorem w_Headers___str__ (N : S3 K Kf mg mb) (fd : FuncData) {a L : Addr} : SoundSs K 0 (callEnvC (fdOf (clAt 11 13) fd) L a) (lk ((["self"] : List Str) ++ ([] : List Str))) (fBody (clAt 11 13)) p_Headers___str__ := by
 conv => arg 5; whnf
 refine ss_cons ?_ ?_; refine s_ret ?_; refine e_methS (id := "str.join") ?_ ?_ ?_ ?_ ?_ ?_ ?_ ?_; exact m_join; exact e_str; refine l_c ?_ ?_ ?_; refine e_bin ?_ ?_ ?_; exact s_add; refine e_compB ["kv"] (m := false) ?_ ?_ ?_ ?_ ?_ ?_; refine e_attr (fld_get N.X N.c_Headers N.f_Headers__headers (by rw [N.attrs] ; rfl)) ?_ ?_ ?_; exact e_var (.inl rfl) rfl rfl rfl; exact rfl; exact fun _ _ => rfl; intro _ _; exact tl_name rfl rfl; intro _ _; exact i_nil; intro _ _; refine e_bin ?_ ?_ ?_; exact s_pct; exact e_str; exact e_var (.inl rfl) rfl rfl rfl; exact rfl; exact fun _ => rfl; refine e_list ?_; refine l_c ?_ ?_ ?_; exact e_str; refine l_c ?_ ?_ ?_; exact e_str; exact l_nil; exact rfl; exact rfl; exact l_nil; exact rfl; exact PySem.F.slot_str_join; exact PySem.F.type_str_join; exact rfl; exact rfl; exact rfl; exact ss_nil
noncomputable def F_Headers___str__ : FT := runFn false (bPlain 1) 0 p_Headers___str__
theorem S_Headers___str__ (N : S3 K Kf mg mb) : SoundF K 1 (.ref 209) ([] : List Str) F_Headers___str__ := by
 obtain ⟨fd, X, hd, hk⟩ := N.x_Headers___str__
 exact f_run (rest := ([] : List Str)) (kn := ([] : List Str)) N.G X (b_plain (ps := (["self"] : List Str)) (fun ras h => by rw [fd_eta hd hk]; obtain ⟨a0, rfl⟩ := len1 h; rfl)) (by decide) (kindsOk rfl) (noFree rfl) (fun L => w_Headers___str__ N fd)
noncomputable def p_Headers__convert_string_type : XS := (sCons (sIf (bCmp (opIsT false) (xCall fType (lCons (xVar 1) lNil)) (xG (.type "str"))) (sCons (sAssign 3 (xIte (bVal (xVar 2)) (xG (.ref 97)) (xG (.ref 102))))
 (sCons (sIf (bVal (xRe [97, 102] (xVar 3) (xVar 1))) (sCons sDead
 sNil) sNil)
 (sCons (sRet (xVar 1))
 sNil))) sNil)
 (sCons sDead
 sNil))
theorem w_Headers__convert_string_type (N : S3 K Kf mg mb) (fd : FuncData) {a L : Addr} : SoundSs K 0 (callEnvC (fdOf (clAt 11 1) fd) L a) (lk ((["self", "value", "name"] : List Str) ++ (["regex"] : List Str))) (fBody (clAt 11 1)) p_Headers__convert_string_type := by
 conv => arg 5; whnf
 refine ss_cons ?_ ?_; refine s_if ?_ ?_ ?_; refine b_cmp ?_ ?_ ?_ ?_; exact s_isT; refine e_tcall N.G ?_ ?_ ?_ N.type0 N.type1 ?_ ?_; exact f_type; refine l_c ?_ ?_ ?_; exact e_var (.inl rfl) rfl rfl rfl; exact l_nil; exact rfl; exact rfl; exact rfl; exact rfl; exact e_tname N.G rfl N.str0 N.str1 rfl; exact rfl; refine ss_cons ?_ ?_; refine s_assign ?_ ?_ ?_ ?_; refine e_ite ?_ ?_ ?_; refine b_val ?_ ?_; exact e_var (.inl rfl) rfl rfl rfl; exact fun _ => rfl; exact e_glob N.G rfl N.g__name_disallowed_re rfl; exact e_glob N.G rfl N.g__value_disallowed_re rfl; exact .inl rfl; exact rfl; exact rfl; refine ss_cons ?_ ?_; refine s_if ?_ ?_ ?_; refine b_val ?_ ?_; refine e_re N.re ?_ ?_ ?_ ?_ ?_ ?_; exact e_var (.inl rfl) rfl rfl rfl; exact e_var (.inl rfl) rfl rfl rfl; exact rfl; exact rfl; exact rfl; exact rfl; exact fun _ => rfl; refine ss_cons ?_ ?_; exact s_dead; exact ss_nil; exact ss_nil; refine ss_cons ?_ ?_; refine s_ret ?_; exact e_var (.inl rfl) rfl rfl rfl; exact ss_nil; exact ss_nil; refine ss_cons ?_ ?_; exact s_dead; exact ss_nil
noncomputable def F_Headers__convert_string_type : FT := runFn false (bPlain 3) 1 p_Headers__convert_string_type
theorem S_Headers__convert_string_type (N : S3 K Kf mg mb) : SoundF K 1 (.ref 132) (["name"] : List Str) F_Headers__convert_string_type := by
 obtain ⟨fd, X, hd, hk⟩ := N.x_Headers__convert_string_type
 exact f_run (rest := (["regex"] : List Str)) (kn := (["name"] : List Str)) N.G X (b_plainK (kn := (["name"] : List Str)) (ps := (["self", "value", "name"] : List Str)) (fun ras ks h1 h2 => by rw [fd_eta hd hk]; obtain ⟨k0, rfl⟩ := len1 h1; obtain ⟨a0, a1, rfl⟩ := len2 (show ras.length = 2 from by simpa using h2); rfl)) (by decide) (kindsOk rfl) (noFree rfl) (fun L => w_Headers__convert_string_type N fd)
noncomputable def p_Headers_add_header : XS := (sCons (sAssign 4 (xList true lNil))
 (sCons (sIf (bCmp opIsNot (xVar 2) cNone) (sCons (sAssign 2 (xMeth 233 F_Headers__convert_string_type (xVar 0) (lCons (xVar 2) lNil) (lCons (cB false) lNil)))
 (sCons (sExpr (xMethL mAppend (xVar 4) (lCons (xVar 2) lNil)))
 sNil)) sNil)
 (sCons (sForE 3)
 (sCons (sExpr (xMethL mAppend (xUn (getF 233 0) (xVar 0)) (lCons (xTuple (lCons (xMeth 233 F_Headers__convert_string_type (xVar 0) (lCons (xVar 1) lNil) (lCons (cB true) lNil)) (lCons (xMethS mJoin (cS "; ") (lCons (xVar 4) lNil)) lNil))) lNil)))
 sNil))))
theorem w_Headers_add_header (N : S3 K Kf mg mb) (fd : FuncData) {a L : Addr} : SoundSs K 1 (callEnvC (fdOf (clAt 11 16) fd) L a) (lk ((["self", "_name", "_value", "_params"] : List Str) ++ (["parts", "k", "v"] : List Str))) (fBody (clAt 11 16)) p_Headers_add_header := by
 conv => arg 5; whnf
 refine ss_cons ?_ ?_; refine s_assign ?_ ?_ ?_ ?_; refine e_list (m := true) ?_; exact l_nil; exact .inl rfl; exact rfl; exact rfl; refine ss_cons ?_ ?_; refine s_if ?_ ?_ ?_; refine b_cmp ?_ ?_ ?_ ?_; exact s_isNot; exact e_var (.inl rfl) rfl rfl rfl; exact e_none; exact rfl; refine ss_cons ?_ ?_; refine s_assign ?_ ?_ ?_ ?_; refine e_meth_fn N.X N.x_Headers__convert_string_type N.m_Headers__convert_string_type ?_ ?_ ?_ ?_ ?_ ?_ ?_ ?_ ?_ ?_; exact SoundF.le (S_Headers__convert_string_type N) (by lia); exact e_var (.inl rfl) rfl rfl rfl; refine l_c ?_ ?_ ?_; exact e_var (.inl rfl) rfl rfl rfl; exact l_nil; exact rfl; refine k_cons ?_ ?_; exact e_bool; exact k_nil; rw [N.attrs]; decide; exact rfl; exact rfl; exact rfl; exact rfl; exact rfl; exact .inl rfl; exact rfl; exact rfl; refine ss_cons ?_ ?_; refine s_expr ?_ ?_ ?_; refine e_methL (id := "list.append") ?_ ?_ ?_ ?_ ?_ ?_ ?_ ?_; exact m_append; exact e_var (.inl rfl) rfl rfl rfl; refine l_c ?_ ?_ ?_; exact e_var (.inl rfl) rfl rfl rfl; exact l_nil; exact rfl; exact PySem.F.slot_list_append; exact PySem.F.type_list_append; exact rfl; exact rfl; exact rfl; exact rfl; exact rfl; exact ss_nil; exact ss_nil; refine ss_cons ?_ ?_; refine s_forE N.sm ?_ ?_ ?_ ?_ ?_ ?_; exact rfl; exact rfl; exact rfl; exact rfl; exact rfl; exact fun _ => rfl; refine ss_cons ?_ ?_; refine s_expr ?_ ?_ ?_; refine e_methL (id := "list.append") ?_ ?_ ?_ ?_ ?_ ?_ ?_ ?_; exact m_append; refine e_attr (fld_get N.X N.c_Headers N.f_Headers__headers (by rw [N.attrs] ; rfl)) ?_ ?_ ?_; exact e_var (.inl rfl) rfl rfl rfl; exact rfl; exact fun _ _ => rfl; refine l_c ?_ ?_ ?_; refine e_tuple ?_; refine l_c ?_ ?_ ?_; refine e_meth_fn N.X N.x_Headers__convert_string_type N.m_Headers__convert_string_type ?_ ?_ ?_ ?_ ?_ ?_ ?_ ?_ ?_ ?_; exact SoundF.le (S_Headers__convert_string_type N) (by lia); exact e_var (.inl rfl) rfl rfl rfl; refine l_c ?_ ?_ ?_; exact e_var (.inl rfl) rfl rfl rfl; exact l_nil; exact rfl; refine k_cons ?_ ?_; exact e_bool; exact k_nil; rw [N.attrs]; decide; exact rfl; exact rfl; exact rfl; exact rfl; exact rfl; refine l_c ?_ ?_ ?_; refine e_methS (id := "str.join") ?_ ?_ ?_ ?_ ?_ ?_ ?_ ?_; exact m_join; exact e_str; refine l_c ?_ ?_ ?_; exact e_var (.inl rfl) rfl rfl rfl; exact l_nil; exact rfl; exact PySem.F.slot_str_join; exact PySem.F.type_str_join; exact rfl; exact rfl; exact rfl; exact l_nil; exact rfl; exact rfl; exact l_nil; exact rfl; exact PySem.F.slot_list_append; exact PySem.F.type_list_append; exact rfl; exact rfl; exact rfl; exact rfl; exact rfl; exact ss_nil
noncomputable def F_Headers_add_header : FT := runFn false (bKw 3) 3 p_Headers_add_header
theorem S_Headers_add_header (N : S3 K Kf mg mb) : SoundF K 2 (.ref 230) ([] : List Str) F_Headers_add_header := by
 obtain ⟨fd, X, hd, hk⟩ := N.x_Headers_add_header
 exact f_run (rest := (["parts", "k", "v"] : List Str)) (kn := ([] : List Str)) N.G X (b_kw (n := 3) (ps := (["self", "_name", "_value", "_params"] : List Str)) rfl (fun ras h => by rw [fd_eta hd hk]; obtain ⟨a0, a1, a2, rfl⟩ := len3 h; rfl)) (by decide) (kindsOk rfl) (noFree rfl) (fun L => w_Headers_add_header N fd)
noncomputable def p_Headers_get : XS := (sCons (sAssign 1 (xMeth 233 F_Headers__convert_string_type (xVar 0) (lCons (xMethS mLower (xVar 1) lNil) lNil) (lCons (cB true) lNil)))
 (sCons (sFor (tTuple 2 (tsCons (tName 3) (tsCons (tName 4) tsNil))) (xUn (getF 233 0) (xVar 0)) (sCons (sIf (bCmp opEq (xMethS mLower (xVar 3) lNil) (xVar 1)) (sCons (sRet (xVar 4))
 sNil) sNil)
 sNil))
 (sCons (sRet (xVar 2))
 sNil)))
theorem w_Headers_get (N : S3 K Kf mg mb) (fd : FuncData) {a L : Addr} : SoundSs K 1 (callEnvC (fdOf (clAt 11 8) fd) L a) (lk ((["self", "name", "default"] : List Str) ++ (["k", "v"] : List Str))) (fBody (clAt 11 8)) p_Headers_get := by
 conv => arg 5; whnf
 refine ss_cons ?_ ?_; refine s_assign ?_ ?_ ?_ ?_; refine e_meth_fn N.X N.x_Headers__convert_string_type N.m_Headers__convert_string_type ?_ ?_ ?_ ?_ ?_ ?_ ?_ ?_ ?_ ?_; exact SoundF.le (S_Headers__convert_string_type N) (by lia); exact e_var (.inl rfl) rfl rfl rfl; refine l_c ?_ ?_ ?_; refine e_methS (id := "str.lower") ?_ ?_ ?_ ?_ ?_ ?_ ?_ ?_; exact m_lower; exact e_var (.inl rfl) rfl rfl rfl; exact l_nil; exact PySem.F.slot_str_lower; exact PySem.F.type_str_lower; exact rfl; exact rfl; exact rfl; exact l_nil; exact rfl; refine k_cons ?_ ?_; exact e_bool; exact k_nil; rw [N.attrs]; decide; exact rfl; exact rfl; exact rfl; exact rfl; exact rfl; exact .inl rfl; exact rfl; exact rfl; refine ss_cons ?_ ?_; refine s_for ?_ ?_ ?_ ?_; refine t_tuple ?_; refine ts_cons ?_ ?_ ?_; exact t_name (.inl rfl) rfl; refine ts_cons ?_ ?_ ?_; exact t_name (.inl rfl) rfl; exact ts_nil; exact rfl; exact rfl; refine e_attr (fld_get N.X N.c_Headers N.f_Headers__headers (by rw [N.attrs] ; rfl)) ?_ ?_ ?_; exact e_var (.inl rfl) rfl rfl rfl; exact rfl; exact fun _ _ => rfl; refine ss_cons ?_ ?_; refine s_if ?_ ?_ ?_; refine b_cmp ?_ ?_ ?_ ?_; exact s_eq; refine e_methS (id := "str.lower") ?_ ?_ ?_ ?_ ?_ ?_ ?_ ?_; exact m_lower; exact e_var (.inl rfl) rfl rfl rfl; exact l_nil; exact PySem.F.slot_str_lower; exact PySem.F.type_str_lower; exact rfl; exact rfl; exact rfl; exact e_var (.inl rfl) rfl rfl rfl; exact rfl; refine ss_cons ?_ ?_; refine s_ret ?_; exact e_var (.inl rfl) rfl rfl rfl; exact ss_nil; exact ss_nil; exact ss_nil; exact fun _ => rfl; refine ss_cons ?_ ?_; refine s_ret ?_; exact e_var (.inl rfl) rfl rfl rfl; exact ss_nil
noncomputable def F_Headers_get : FT := runFn false (bDef 2 .none) 2 p_Headers_get
theorem S_Headers_get (N : S3 K Kf mg mb) : SoundF K 2 (.ref 180) ([] : List Str) F_Headers_get := by
 obtain ⟨fd, X, hd, hk⟩ := N.x_Headers_get
 exact f_run (rest := (["k", "v"] : List Str)) (kn := ([] : List Str)) N.G X (b_def N.X (n := 2) (ps := (["self", "name", "default"] : List Str)) rfl (fun ras h S => by obtain ⟨a0, a1, rfl⟩ := len2 h; exact N.bd_Headers_get _ S _ _ hd hk)) (by decide) (kindsOk rfl) (noFree rfl) (fun L => w_Headers_get N fd)
noncomputable def p_Headers_keys : XS := (sCons (sRet (xComp false 2 (tTuple 2 (tsCons (tName 0) (tsCons (tName 1) tsNil))) (xUn (getF 233 0) (xVar 0)) iNil (xVar 0)))
 sNil)
theorem w_Headers_keys (N : S3 K Kf mg mb) (fd : FuncData) {a L : Addr} : SoundSs K 0 (callEnvC (fdOf (clAt 11 9) fd) L a) (lk ((["self"] : List Str) ++ ([] : List Str))) (fBody (clAt 11 9)) p_Headers_keys := by
 conv => arg 5; whnf
 refine ss_cons ?_ ?_; refine s_ret ?_; refine e_compB ["k", "v"] (m := false) ?_ ?_ ?_ ?_ ?_ ?_; refine e_attr (fld_get N.X N.c_Headers N.f_Headers__headers (by rw [N.attrs] ; rfl)) ?_ ?_ ?_; exact e_var (.inl rfl) rfl rfl rfl; exact rfl; exact fun _ _ => rfl; intro _ _; refine tl_tuple ?_; refine tls_cons ?_ ?_ ?_; exact tl_name rfl rfl; refine tls_cons ?_ ?_ ?_; exact tl_name rfl rfl; exact tls_nil; exact rfl; exact rfl; intro _ _; exact i_nil; intro _ _; exact e_var (.inl rfl) rfl rfl rfl; exact rfl; exact fun _ => rfl; exact ss_nil
noncomputable def F_Headers_keys : FT := runFn false (bPlain 1) 0 p_Headers_keys
theorem S_Headers_keys (N : S3 K Kf mg mb) : SoundF K 1 (.ref 185) ([] : List Str) F_Headers_keys := by
 obtain ⟨fd, X, hd, hk⟩ := N.x_Headers_keys
 exact f_run (rest := ([] : List Str)) (kn := ([] : List Str)) N.G X (b_plain (ps := (["self"] : List Str)) (fun ras h => by rw [fd_eta hd hk]; obtain ⟨a0, rfl⟩ := len1 h; rfl)) (by decide) (kindsOk rfl) (noFree rfl) (fun L => w_Headers_keys N fd)
noncomputable def p__law_back : XS := (sCons (sAssign 1 (cS ""))
 (sCons (sFor (tName 2) (xVar 0) (sCons (sAssign 1 (xBin opAdd (xBin opItem (cS "ABab") (xMethS mFind (cS "abAB") (lCons (xVar 2) lNil))) (xVar 1)))
 sNil))
 (sCons (sRet (xVar 1))
 sNil)))
theorem w__law_back (N : S3 K Kf mg mb) (fd : FuncData) {a L : Addr} : SoundSs K 0 (callEnvC (fdOf (stAt 14) fd) L a) (lk ((["word"] : List Str) ++ (["back", "sign"] : List Str))) (fBody (stAt 14)) p__law_back := by
 conv => arg 5; whnf
 refine ss_cons ?_ ?_; refine s_assign ?_ ?_ ?_ ?_; exact e_str; exact .inl rfl; exact rfl; exact rfl; refine ss_cons ?_ ?_; refine s_for ?_ ?_ ?_ ?_; exact t_name (.inl rfl) rfl; exact e_var (.inl rfl) rfl rfl rfl; refine ss_cons ?_ ?_; refine s_assign ?_ ?_ ?_ ?_; refine e_bin ?_ ?_ ?_; exact s_add; refine e_sub ?_ ?_ ?_; exact e_str; refine e_methS (id := "str.find") ?_ ?_ ?_ ?_ ?_ ?_ ?_ ?_; exact m_find; exact e_str; refine l_c ?_ ?_ ?_; exact e_var (.inl rfl) rfl rfl rfl; exact l_nil; exact rfl; exact PySem.F.slot_str_find; exact PySem.F.type_str_find; exact rfl; exact rfl; exact rfl; exact fun _ _ => rfl; exact e_var (.inl rfl) rfl rfl rfl; exact .inl rfl; exact rfl; exact rfl; exact ss_nil; exact fun _ => rfl; refine ss_cons ?_ ?_; refine s_ret ?_; exact e_var (.inl rfl) rfl rfl rfl; exact ss_nil
noncomputable def F__law_back : FT := runFn false (bPlain 1) 2 p__law_back
theorem S__law_back (N : S3 K Kf mg mb) : SoundF K 1 (.ref 249) ([] : List Str) F__law_back := by
 obtain ⟨fd, X, hd, hk⟩ := N.x__law_back
 exact f_run (rest := (["back", "sign"] : List Str)) (kn := ([] : List Str)) N.G X (b_plain (ps := (["word"] : List Str)) (fun ras h => by rw [fd_eta hd hk]; obtain ⟨a0, rfl⟩ := len1 h; rfl)) (by decide) (kindsOk rfl) (noFree rfl) (fun L => w__law_back N fd)
noncomputable def p__law_moves : XS := (sCons (sAssign 1 (xList true lNil))
 (sCons (sFor (tName 2) (xBin opAdd (xList false (lCons (cI 0) (lCons (cI 25) lNil))) (xSlice (xVar 0) pNone (pSome (cI 5)))) (sCons (sAssign 3 (xBin opItem (cS "aBbA") (xBin opMod (xVar 2) (cI 4))))
 (sCons (sAssign 4 (xBin opItem (cS "ba") (xBin opMod (xMethS mFind (cS "abAB") (lCons (xVar 3) lNil)) (cI 2))))
 (sCons (sAssign 5 (xCall F__law_back (lCons (xVar 4) lNil)))
 (sCons (sAssign 6 (xList false (lCons (xBin opAdd (xVar 3) (xVar 4)) (lCons (xBin opAdd (xVar 4) (xVar 3)) (lCons (xBin opAdd (xVar 3) (xVar 5)) (lCons (xBin opAdd (xVar 5) (xVar 3)) (lCons (xCall F__law_back (lCons (xVar 3) lNil)) lNil)))))))
 (sCons (sExpr (xMethL mAppend (xVar 1) (lCons (xList false (lCons (xVar 3) (lCons (xBin opItem (xVar 6) (xBin opMod (xBin opDiv (xVar 2) (cI 4)) (cI 5))) (lCons (xBin opMod (xBin opDiv (xVar 2) (cI 20)) (cI 3)) lNil)))) lNil)))
 sNil))))))
 (sCons (sRet (xVar 1))
 sNil)))
theorem w__law_moves (N : S3 K Kf mg mb) (fd : FuncData) {a L : Addr} : SoundSs K 1 (callEnvC (fdOf (stAt 15) fd) L a) (lk ((["script"] : List Str) ++ (["moves", "x", "letter", "other", "undone", "images"] : List Str))) (fBody (stAt 15)) p__law_moves := by
 conv => arg 5; whnf
 refine ss_cons ?_ ?_; refine s_assign ?_ ?_ ?_ ?_; refine e_list (m := true) ?_; exact l_nil; exact .inl rfl; exact rfl; exact rfl; refine ss_cons ?_ ?_; refine s_for ?_ ?_ ?_ ?_; exact t_name (.inl rfl) rfl; refine e_bin ?_ ?_ ?_; exact s_add; refine e_list ?_; refine l_c ?_ ?_ ?_; exact e_int; refine l_c ?_ ?_ ?_; exact e_int; exact l_nil; exact rfl; exact rfl; refine e_slice ?_ ?_ ?_; exact e_var (.inl rfl) rfl rfl rfl; exact p_none; refine p_some ?_; exact e_int; refine ss_cons ?_ ?_; refine s_assign ?_ ?_ ?_ ?_; refine e_sub ?_ ?_ ?_; exact e_str; refine e_bin ?_ ?_ ?_; exact s_mod; exact e_var (.inl rfl) rfl rfl rfl; exact e_int; exact fun _ _ => rfl; exact .inl rfl; exact rfl; exact rfl; refine ss_cons ?_ ?_; refine s_assign ?_ ?_ ?_ ?_; refine e_sub ?_ ?_ ?_; exact e_str; refine e_bin ?_ ?_ ?_; exact s_mod; refine e_methS (id := "str.find") ?_ ?_ ?_ ?_ ?_ ?_ ?_ ?_; exact m_find; exact e_str; refine l_c ?_ ?_ ?_; exact e_var (.inl rfl) rfl rfl rfl; exact l_nil; exact rfl; exact PySem.F.slot_str_find; exact PySem.F.type_str_find; exact rfl; exact rfl; exact rfl; exact e_int; exact fun _ _ => rfl; exact .inl rfl; exact rfl; exact rfl; refine ss_cons ?_ ?_; refine s_assign ?_ ?_ ?_ ?_; refine e_call_fn N.G (fnAt_of N.x__law_back) ?_ ?_ ?_ N.g__law_back ?_ ?_; exact SoundF.le (S__law_back N) (by lia); refine l_c ?_ ?_ ?_; exact e_var (.inl rfl) rfl rfl rfl; exact l_nil; exact rfl; exact rfl; exact rfl; exact se_any rfl; exact .inl rfl; exact rfl; exact rfl; refine ss_cons ?_ ?_; refine s_assign ?_ ?_ ?_ ?_; refine e_list ?_; refine l_c ?_ ?_ ?_; refine e_bin ?_ ?_ ?_; exact s_add; exact e_var (.inl rfl) rfl rfl rfl; exact e_var (.inl rfl) rfl rfl rfl; refine l_c ?_ ?_ ?_; refine e_bin ?_ ?_ ?_; exact s_add; exact e_var (.inl rfl) rfl rfl rfl; exact e_var (.inl rfl) rfl rfl rfl; refine l_c ?_ ?_ ?_; refine e_bin ?_ ?_ ?_; exact s_add; exact e_var (.inl rfl) rfl rfl rfl; exact e_var (.inl rfl) rfl rfl rfl; refine l_c ?_ ?_ ?_; refine e_bin ?_ ?_ ?_; exact s_add; exact e_var (.inl rfl) rfl rfl rfl; exact e_var (.inl rfl) rfl rfl rfl; refine l_c ?_ ?_ ?_; refine e_call_fn N.G (fnAt_of N.x__law_back) ?_ ?_ ?_ N.g__law_back ?_ ?_; exact SoundF.le (S__law_back N) (by lia); refine l_c ?_ ?_ ?_; exact e_var (.inl rfl) rfl rfl rfl; exact l_nil; exact rfl; exact rfl; exact rfl; exact se_any rfl; exact l_nil; exact rfl; exact rfl; exact rfl; exact rfl; exact rfl; exact .inl rfl; exact rfl; exact rfl; refine ss_cons ?_ ?_; refine s_expr ?_ ?_ ?_; refine e_methL (id := "list.append") ?_ ?_ ?_ ?_ ?_ ?_ ?_ ?_; exact m_append; exact e_var (.inl rfl) rfl rfl rfl; refine l_c ?_ ?_ ?_; refine e_list ?_; refine l_c ?_ ?_ ?_; exact e_var (.inl rfl) rfl rfl rfl; refine l_c ?_ ?_ ?_; refine e_sub ?_ ?_ ?_; exact e_var (.inl rfl) rfl rfl rfl; refine e_bin ?_ ?_ ?_; exact s_mod; refine e_bin ?_ ?_ ?_; exact s_div; exact e_var (.inl rfl) rfl rfl rfl; exact e_int; exact e_int; exact fun _ _ => rfl; refine l_c ?_ ?_ ?_; refine e_bin ?_ ?_ ?_; exact s_mod; refine e_bin ?_ ?_ ?_; exact s_div; exact e_var (.inl rfl) rfl rfl rfl; exact e_int; exact e_int; exact l_nil; exact rfl; exact rfl; exact rfl; exact l_nil; exact rfl; exact PySem.F.slot_list_append; exact PySem.F.type_list_append; exact rfl; exact rfl; exact rfl; exact rfl; exact rfl; exact ss_nil; exact fun _ => rfl; refine ss_cons ?_ ?_; refine s_ret ?_; exact e_var (.inl rfl) rfl rfl rfl; exact ss_nil
noncomputable def F__law_moves : FT := runFn false (bPlain 1) 6 p__law_moves
theorem S__law_moves (N : S3 K Kf mg mb) : SoundF K 2 (.ref 256) ([] : List Str) F__law_moves := by
 obtain ⟨fd, X, hd, hk⟩ := N.x__law_moves
 exact f_run (rest := (["moves", "x", "letter", "other", "undone", "images"] : List Str)) (kn := ([] : List Str)) N.G X (b_plain (ps := (["script"] : List Str)) (fun ras h => by rw [fd_eta hd hk]; obtain ⟨a0, rfl⟩ := len1 h; rfl)) (by decide) (kindsOk rfl) (noFree rfl) (fun L => w__law_moves N fd)
noncomputable def p__law_written : XS := (sCons (sIf (bCmp opEq (xVar 1) (cI 0)) (sCons (sRet (xVar 0))
 sNil) sNil)
 (sCons (sIf (bCmp opEq (xVar 1) (cI 1)) (sCons (sRet (xBin opAdd (xBin opAdd (cS "\"") (xVar 0)) (cS "\"")))
 sNil) sNil)
 (sCons (sRet (xMethS mJoin (cS "") (lCons (xComp false 1 (tName 0) (xVar 0) iNil (xBin opAdd (cS "\\") (xVar 0))) lNil)))
 sNil)))
theorem w__law_written (N : S3 K Kf mg mb) (fd : FuncData) {a L : Addr} : SoundSs K 0 (callEnvC (fdOf (stAt 16) fd) L a) (lk ((["image", "way"] : List Str) ++ ([] : List Str))) (fBody (stAt 16)) p__law_written := by
 conv => arg 5; whnf
 refine ss_cons ?_ ?_; refine s_if ?_ ?_ ?_; refine b_cmp ?_ ?_ ?_ ?_; exact s_eq; exact e_var (.inl rfl) rfl rfl rfl; exact e_int; exact rfl; refine ss_cons ?_ ?_; refine s_ret ?_; exact e_var (.inl rfl) rfl rfl rfl; exact ss_nil; exact ss_nil; refine ss_cons ?_ ?_; refine s_if ?_ ?_ ?_; refine b_cmp ?_ ?_ ?_ ?_; exact s_eq; exact e_var (.inl rfl) rfl rfl rfl; exact e_int; exact rfl; refine ss_cons ?_ ?_; refine s_ret ?_; refine e_bin ?_ ?_ ?_; exact s_add; refine e_bin ?_ ?_ ?_; exact s_add; exact e_str; exact e_var (.inl rfl) rfl rfl rfl; exact e_str; exact ss_nil; exact ss_nil; refine ss_cons ?_ ?_; refine s_ret ?_; refine e_methS (id := "str.join") ?_ ?_ ?_ ?_ ?_ ?_ ?_ ?_; exact m_join; exact e_str; refine l_c ?_ ?_ ?_; refine e_compB ["sign"] (m := false) ?_ ?_ ?_ ?_ ?_ ?_; exact e_var (.inl rfl) rfl rfl rfl; intro _ _; exact tl_name rfl rfl; intro _ _; exact i_nil; intro _ _; refine e_bin ?_ ?_ ?_; exact s_add; exact e_str; exact e_var (.inl rfl) rfl rfl rfl; exact rfl; exact fun _ => rfl; exact l_nil; exact rfl; exact PySem.F.slot_str_join; exact PySem.F.type_str_join; exact rfl; exact rfl; exact rfl; exact ss_nil
noncomputable def F__law_written : FT := runFn false (bPlain 2) 0 p__law_written
theorem S__law_written (N : S3 K Kf mg mb) : SoundF K 1 (.ref 261) ([] : List Str) F__law_written := by
 obtain ⟨fd, X, hd, hk⟩ := N.x__law_written
 exact f_run (rest := ([] : List Str)) (kn := ([] : List Str)) N.G X (b_plain (ps := (["image", "way"] : List Str)) (fun ras h => by rw [fd_eta hd hk]; obtain ⟨a0, a1, rfl⟩ := len2 h; rfl)) (by decide) (kindsOk rfl) (noFree rfl) (fun L => w__law_written N fd)
noncomputable def p__netrclex___init__ : XS := (sCons (sSetF (setF 83 1) (xVar 0) (cI 1))
 (sCons (sSetF (setF 83 2) (xVar 0) (xVar 1))
 (sCons (sSetF (setF 83 3) (xVar 0) (cS "\n\t\r "))
 (sCons (sSetF (setF 83 4) (xVar 0) (xList false lNil))
 sNil))))
theorem w__netrclex___init__ (N : S3 K Kf mg mb) (fd : FuncData) {a L : Addr} : SoundSs K 0 (callEnvC (fdOf (clAt 5 0) fd) L a) (lk ((["self", "fp"] : List Str) ++ ([] : List Str))) (fBody (clAt 5 0)) p__netrclex___init__ := by
 conv => arg 5; whnf
 refine ss_cons ?_ ?_; refine s_setf (fld_set N.X N.attrs N.c__netrclex N.f__netrclex_lineno (by rw [N.attrs] ; rfl) rfl) ?_ ?_ ?_; exact e_var (.inl rfl) rfl rfl rfl; exact e_int; exact rfl; refine ss_cons ?_ ?_; refine s_setf (fld_set N.X N.attrs N.c__netrclex N.f__netrclex_instream (by rw [N.attrs] ; rfl) rfl) ?_ ?_ ?_; exact e_var (.inl rfl) rfl rfl rfl; exact e_var (.inl rfl) rfl rfl rfl; exact rfl; refine ss_cons ?_ ?_; refine s_setf (fld_set N.X N.attrs N.c__netrclex N.f__netrclex_whitespace (by rw [N.attrs] ; rfl) rfl) ?_ ?_ ?_; exact e_var (.inl rfl) rfl rfl rfl; exact e_str; exact rfl; refine ss_cons ?_ ?_; refine s_setf (fld_set N.X N.attrs N.c__netrclex N.f__netrclex_pushback (by rw [N.attrs] ; rfl) rfl) ?_ ?_ ?_; exact e_var (.inl rfl) rfl rfl rfl; refine e_list ?_; exact l_nil; exact rfl; exact ss_nil
noncomputable def F__netrclex___init__ : FT := runFn false (bPlain 2) 0 p__netrclex___init__
theorem S__netrclex___init__ (N : S3 K Kf mg mb) : SoundF K 1 (.ref 59) ([] : List Str) F__netrclex___init__ := by
 obtain ⟨fd, X, hd, hk⟩ := N.x__netrclex___init__
 exact f_run (rest := ([] : List Str)) (kn := ([] : List Str)) N.G X (b_plain (ps := (["self", "fp"] : List Str)) (fun ras h => by rw [fd_eta hd hk]; obtain ⟨a0, a1, rfl⟩ := len2 h; rfl)) (by decide) (kindsOk rfl) (noFree rfl) (fun L => w__netrclex___init__ N fd)
noncomputable def F__netrclex : FT := mkInst 83 F__netrclex___init__
theorem S__netrclex (N : S3 K Kf mg mb) : SoundF K 2 (.ref 83) [] F__netrclex := f_make N.X (S__netrclex___init__ N) (cls_m N.c__netrclex) (met_f N.m__netrclex___init__) (met_t N.m__netrclex___init__)
noncomputable def p__netrclex__read_char : XS := (sCons (sAssign 1 (xRead (xUn (getF 83 2) (xVar 0))))
 (sCons (sIf (bCmp opEq (xVar 1) (cS "\n")) (sCons (sAugF (getF 83 1) opIAdd (setF 83 1) (xVar 0) (cI 1))
 sNil) sNil)
 (sCons (sRet (xVar 1))
 sNil)))
theorem w__netrclex__read_char (N : S3 K Kf mg mb) (fd : FuncData) {a L : Addr} : SoundSs K 1 (callEnvC (fdOf (clAt 5 1) fd) L a) (lk ((["self"] : List Str) ++ (["ch"] : List Str))) (fBody (clAt 5 1)) p__netrclex__read_char := by
 conv => arg 5; whnf
 refine ss_cons ?_ ?_; refine s_assign ?_ ?_ ?_ ?_; refine e_read N.G N.rt ?_ ?_ ?_ ?_; refine e_attr (fld_get N.X N.c__netrclex N.f__netrclex_instream (by rw [N.attrs] ; rfl)) ?_ ?_ ?_; exact e_var (.inl rfl) rfl rfl rfl; exact rfl; exact fun _ _ => rfl; exact rfl; exact rfl; exact rfl; exact .inl rfl; exact rfl; exact rfl; refine ss_cons ?_ ?_; refine s_if ?_ ?_ ?_; refine b_cmp ?_ ?_ ?_ ?_; exact s_eq; exact e_var (.inl rfl) rfl rfl rfl; exact e_str; exact rfl; refine ss_cons ?_ ?_; refine s_augf (fld_get N.X N.c__netrclex N.f__netrclex_lineno (by rw [N.attrs] ; rfl)) ?_ (fld_set N.X N.attrs N.c__netrclex N.f__netrclex_lineno (by rw [N.attrs] ; rfl) rfl) ?_ ?_; exact s_iadd; exact e_var (.inl rfl) rfl rfl rfl; exact e_int; exact ss_nil; exact ss_nil; refine ss_cons ?_ ?_; refine s_ret ?_; exact e_var (.inl rfl) rfl rfl rfl; exact ss_nil
noncomputable def F__netrclex__read_char : FT := runFn false (bPlain 1) 1 p__netrclex__read_char
theorem S__netrclex__read_char (N : S3 K Kf mg mb) : SoundF K 2 (.ref 66) ([] : List Str) F__netrclex__read_char := by
 obtain ⟨fd, X, hd, hk⟩ := N.x__netrclex__read_char
 exact f_run (rest := (["ch"] : List Str)) (kn := ([] : List Str)) N.G X (b_plain (ps := (["self"] : List Str)) (fun ras h => by rw [fd_eta hd hk]; obtain ⟨a0, rfl⟩ := len1 h; rfl)) (by decide) (kindsOk rfl) (noFree rfl) (fun L => w__netrclex__read_char N fd)
noncomputable def p__netrclex_get_token : XS := (sCons (sIf (bVal (xUn (getF 83 4) (xVar 0))) (sCons (sRet (xMethL mPop (xUn (getF 83 4) (xVar 0)) (lCons (cI 0) lNil)))
 sNil) sNil)
 (sCons (sAssign 1 (cS ""))
 (sCons (sAssign 2 (xIter 83 (xVar 0)))
 (sCons (sForC F__netrclex__read_char (tName 3) (xVar 2) (sCons (sIf (bCmp opIn (xVar 3) (xUn (getF 83 3) (xVar 0))) (sCons sCont
 sNil) sNil)
 (sCons (sIf (bCmp opEq (xVar 3) (cS "\"")) (sCons (sForC F__netrclex__read_char (tName 3) (xVar 2) (sCons (sIf (bCmp opEq (xVar 3) (cS "\"")) (sCons (sRet (xVar 1))
 sNil) (sCons (sIf (bCmp opEq (xVar 3) (cS "\\")) (sCons (sAssign 3 (xMeth 83 F__netrclex__read_char (xVar 0) lNil lNil))
 sNil) sNil)
 sNil))
 (sCons (sAug opIAdd 1 (xVar 3))
 sNil)))
 sNil) (sCons (sIf (bCmp opEq (xVar 3) (cS "\\")) (sCons (sAssign 3 (xMeth 83 F__netrclex__read_char (xVar 0) lNil lNil))
 sNil) sNil)
 (sCons (sAug opIAdd 1 (xVar 3))
 (sCons (sForC F__netrclex__read_char (tName 3) (xVar 2) (sCons (sIf (bCmp opIn (xVar 3) (xUn (getF 83 3) (xVar 0))) (sCons (sRet (xVar 1))
 sNil) (sCons (sIf (bCmp opEq (xVar 3) (cS "\\")) (sCons (sAssign 3 (xMeth 83 F__netrclex__read_char (xVar 0) lNil lNil))
 sNil) sNil)
 sNil))
 (sCons (sAug opIAdd 1 (xVar 3))
 sNil)))
 sNil))))
 sNil)))
 (sCons (sRet (xVar 1))
 sNil)))))
theorem w__netrclex_get_token (N : S3 K Kf mg mb) (fd : FuncData) {a L : Addr} : SoundSs K 3 (callEnvC (fdOf (clAt 5 2) fd) L a) (lk ((["self"] : List Str) ++ (["token", "fiter", "ch"] : List Str))) (fBody (clAt 5 2)) p__netrclex_get_token := by
 conv => arg 5; whnf
 refine ss_cons ?_ ?_; refine s_if ?_ ?_ ?_; refine b_val ?_ ?_; refine e_attr (fld_get N.X N.c__netrclex N.f__netrclex_pushback (by rw [N.attrs] ; rfl)) ?_ ?_ ?_; exact e_var (.inl rfl) rfl rfl rfl; exact rfl; exact fun _ _ => rfl; exact fun _ => rfl; refine ss_cons ?_ ?_; refine s_ret ?_; refine e_methL (id := "list.pop") ?_ ?_ ?_ ?_ ?_ ?_ ?_ ?_; exact m_pop; refine e_attr (fld_get N.X N.c__netrclex N.f__netrclex_pushback (by rw [N.attrs] ; rfl)) ?_ ?_ ?_; exact e_var (.inl rfl) rfl rfl rfl; exact rfl; exact fun _ _ => rfl; refine l_c ?_ ?_ ?_; exact e_int; exact l_nil; exact rfl; exact PySem.F.slot_list_pop; exact PySem.F.type_list_pop; exact rfl; exact rfl; exact rfl; exact ss_nil; exact ss_nil; refine ss_cons ?_ ?_; refine s_assign ?_ ?_ ?_ ?_; exact e_str; exact .inl rfl; exact rfl; exact rfl; refine ss_cons ?_ ?_; refine s_assign ?_ ?_ ?_ ?_; refine e_iter N.G N.X ?_ ?_ N.iter0 N.iter1 ?_ (met_g N.rcm) (cls_d N.c__netrclex) (met_f N.rcm) (met_t N.rcm) N.rc1 N.rc2 ?_ ?_ ?_ ?_ ?_ ?_ ?_; exact e_var (.inl rfl) rfl rfl rfl; exact rfl; exact rfl; exact rfl; rw [N.attrs]; decide; exact rfl; exact fun _ _ => rfl; exact rfl; exact rfl; exact rfl; exact .inl rfl; exact rfl; exact rfl; refine ss_cons ?_ ?_; refine s_forC_fn N.x__netrclex__read_char N.rc ?_ ?_ ?_ ?_ ?_ ?_; exact S__netrclex__read_char N; exact t_name (.inl rfl) rfl; exact e_var (.inl rfl) rfl rfl rfl; refine ss_cons ?_ ?_; refine s_if ?_ ?_ ?_; refine b_cmp ?_ ?_ ?_ ?_; exact s_in; exact e_var (.inl rfl) rfl rfl rfl; refine e_attr (fld_get N.X N.c__netrclex N.f__netrclex_whitespace (by rw [N.attrs] ; rfl)) ?_ ?_ ?_; exact e_var (.inl rfl) rfl rfl rfl; exact rfl; exact fun _ _ => rfl; exact rfl; refine ss_cons ?_ ?_; exact s_cont; exact ss_nil; exact ss_nil; refine ss_cons ?_ ?_; refine s_if ?_ ?_ ?_; refine b_cmp ?_ ?_ ?_ ?_; exact s_eq; exact e_var (.inl rfl) rfl rfl rfl; exact e_str; exact rfl; refine ss_cons ?_ ?_; refine s_forC_fn N.x__netrclex__read_char N.rc ?_ ?_ ?_ ?_ ?_ ?_; exact S__netrclex__read_char N; exact t_name (.inl rfl) rfl; exact e_var (.inl rfl) rfl rfl rfl; refine ss_cons ?_ ?_; refine s_if ?_ ?_ ?_; refine b_cmp ?_ ?_ ?_ ?_; exact s_eq; exact e_var (.inl rfl) rfl rfl rfl; exact e_str; exact rfl; refine ss_cons ?_ ?_; refine s_ret ?_; exact e_var (.inl rfl) rfl rfl rfl; exact ss_nil; refine ss_cons ?_ ?_; refine s_if ?_ ?_ ?_; refine b_cmp ?_ ?_ ?_ ?_; exact s_eq; exact e_var (.inl rfl) rfl rfl rfl; exact e_str; exact rfl; refine ss_cons ?_ ?_; refine s_assign ?_ ?_ ?_ ?_; refine e_meth_fn N.X N.x__netrclex__read_char N.m__netrclex__read_char ?_ ?_ ?_ ?_ ?_ ?_ ?_ ?_ ?_ ?_; exact SoundF.le (S__netrclex__read_char N) (by lia); exact e_var (.inl rfl) rfl rfl rfl; exact l_nil; exact k_nil; rw [N.attrs]; decide; exact rfl; exact rfl; exact rfl; exact rfl; exact rfl; exact .inl rfl; exact rfl; exact rfl; exact ss_nil; exact ss_nil; exact ss_nil; refine ss_cons ?_ ?_; refine s_aug ?_ ?_ ?_ ?_; exact s_iadd; exact e_var (.inl rfl) rfl rfl rfl; exact .inl rfl; exact rfl; exact ss_nil; exact fun _ => rfl; exact fun _ _ => rfl; exact ss_nil; refine ss_cons ?_ ?_; refine s_if ?_ ?_ ?_; refine b_cmp ?_ ?_ ?_ ?_; exact s_eq; exact e_var (.inl rfl) rfl rfl rfl; exact e_str; exact rfl; refine ss_cons ?_ ?_; refine s_assign ?_ ?_ ?_ ?_; refine e_meth_fn N.X N.x__netrclex__read_char N.m__netrclex__read_char ?_ ?_ ?_ ?_ ?_ ?_ ?_ ?_ ?_ ?_; exact SoundF.le (S__netrclex__read_char N) (by lia); exact e_var (.inl rfl) rfl rfl rfl; exact l_nil; exact k_nil; rw [N.attrs]; decide; exact rfl; exact rfl; exact rfl; exact rfl; exact rfl; exact .inl rfl; exact rfl; exact rfl; exact ss_nil; exact ss_nil; refine ss_cons ?_ ?_; refine s_aug ?_ ?_ ?_ ?_; exact s_iadd; exact e_var (.inl rfl) rfl rfl rfl; exact .inl rfl; exact rfl; refine ss_cons ?_ ?_; refine s_forC_fn N.x__netrclex__read_char N.rc ?_ ?_ ?_ ?_ ?_ ?_; exact S__netrclex__read_char N; exact t_name (.inl rfl) rfl; exact e_var (.inl rfl) rfl rfl rfl; refine ss_cons ?_ ?_; refine s_if ?_ ?_ ?_; refine b_cmp ?_ ?_ ?_ ?_; exact s_in; exact e_var (.inl rfl) rfl rfl rfl; refine e_attr (fld_get N.X N.c__netrclex N.f__netrclex_whitespace (by rw [N.attrs] ; rfl)) ?_ ?_ ?_; exact e_var (.inl rfl) rfl rfl rfl; exact rfl; exact fun _ _ => rfl; exact rfl; refine ss_cons ?_ ?_; refine s_ret ?_; exact e_var (.inl rfl) rfl rfl rfl; exact ss_nil; refine ss_cons ?_ ?_; refine s_if ?_ ?_ ?_; refine b_cmp ?_ ?_ ?_ ?_; exact s_eq; exact e_var (.inl rfl) rfl rfl rfl; exact e_str; exact rfl; refine ss_cons ?_ ?_; refine s_assign ?_ ?_ ?_ ?_; refine e_meth_fn N.X N.x__netrclex__read_char N.m__netrclex__read_char ?_ ?_ ?_ ?_ ?_ ?_ ?_ ?_ ?_ ?_; exact SoundF.le (S__netrclex__read_char N) (by lia); exact e_var (.inl rfl) rfl rfl rfl; exact l_nil; exact k_nil; rw [N.attrs]; decide; exact rfl; exact rfl; exact rfl; exact rfl; exact rfl; exact .inl rfl; exact rfl; exact rfl; exact ss_nil; exact ss_nil; exact ss_nil; refine ss_cons ?_ ?_; refine s_aug ?_ ?_ ?_ ?_; exact s_iadd; exact e_var (.inl rfl) rfl rfl rfl; exact .inl rfl; exact rfl; exact ss_nil; exact fun _ => rfl; exact fun _ _ => rfl; exact ss_nil; exact ss_nil; exact fun _ => rfl; exact fun _ _ => rfl; refine ss_cons ?_ ?_; refine s_ret ?_; exact e_var (.inl rfl) rfl rfl rfl; exact ss_nil
noncomputable def F__netrclex_get_token : FT := runFn false (bPlain 1) 3 p__netrclex_get_token
theorem S__netrclex_get_token (N : S3 K Kf mg mb) : SoundF K 4 (.ref 73) ([] : List Str) F__netrclex_get_token := by
 obtain ⟨fd, X, hd, hk⟩ := N.x__netrclex_get_token
 exact f_run (rest := (["token", "fiter", "ch"] : List Str)) (kn := ([] : List Str)) N.G X (b_plain (ps := (["self"] : List Str)) (fun ras h => by rw [fd_eta hd hk]; obtain ⟨a0, rfl⟩ := len1 h; rfl)) (by decide) (kindsOk rfl) (noFree rfl) (fun L => w__netrclex_get_token N fd)
noncomputable def p_Headers___init__ : XS := (sCons (sAssign 1 (xIte (bCmp opIsNot (xVar 1) cNone) (xVar 1) (xList false lNil)))
 (sCons (sIf (bCmp (opIsT true) (xCall fType (lCons (xVar 1) lNil)) (xG (.type "list"))) (sCons sDead
 sNil) sNil)
 (sCons (sSetF (setF 233 0) (xVar 0) (xVar 1))
 (sCons (sIf (bVal (cB true)) (sCons (sFor (tTuple 2 (tsCons (tName 2) (tsCons (tName 3) tsNil))) (xVar 1) (sCons (sExpr (xMeth 233 F_Headers__convert_string_type (xVar 0) (lCons (xVar 2) lNil) (lCons (cB true) lNil)))
 (sCons (sExpr (xMeth 233 F_Headers__convert_string_type (xVar 0) (lCons (xVar 3) lNil) (lCons (cB false) lNil)))
 sNil)))
 sNil) sNil)
 sNil))))
theorem w_Headers___init__ (N : S3 K Kf mg mb) (fd : FuncData) {a L : Addr} : SoundSs K 1 (callEnvC (fdOf (clAt 11 0) fd) L a) (lk ((["self", "headers"] : List Str) ++ (["k", "v"] : List Str))) (fBody (clAt 11 0)) p_Headers___init__ := by
 conv => arg 5; whnf
 refine ss_cons ?_ ?_; refine s_assign ?_ ?_ ?_ ?_; refine e_ite ?_ ?_ ?_; refine b_cmp ?_ ?_ ?_ ?_; exact s_isNot; exact e_var (.inl rfl) rfl rfl rfl; exact e_none; exact rfl; exact e_var (.inl rfl) rfl rfl rfl; refine e_list ?_; exact l_nil; exact .inl rfl; exact rfl; exact rfl; refine ss_cons ?_ ?_; refine s_if ?_ ?_ ?_; refine b_cmp ?_ ?_ ?_ ?_; exact s_isNotT; refine e_tcall N.G ?_ ?_ ?_ N.type0 N.type1 ?_ ?_; exact f_type; refine l_c ?_ ?_ ?_; exact e_var (.inl rfl) rfl rfl rfl; exact l_nil; exact rfl; exact rfl; exact rfl; exact rfl; exact e_tname N.G rfl N.list0 N.list1 rfl; exact rfl; refine ss_cons ?_ ?_; exact s_dead; exact ss_nil; exact ss_nil; refine ss_cons ?_ ?_; refine s_setf (fld_set N.X N.attrs N.c_Headers N.f_Headers__headers (by rw [N.attrs] ; rfl) rfl) ?_ ?_ ?_; exact e_var (.inl rfl) rfl rfl rfl; exact e_var (.inl rfl) rfl rfl rfl; exact rfl; refine ss_cons ?_ ?_; refine s_if ?_ ?_ ?_; refine b_val ?_ ?_; exact e_bool; exact fun _ => rfl; refine ss_cons ?_ ?_; refine s_for ?_ ?_ ?_ ?_; refine t_tuple ?_; refine ts_cons ?_ ?_ ?_; exact t_name (.inl rfl) rfl; refine ts_cons ?_ ?_ ?_; exact t_name (.inl rfl) rfl; exact ts_nil; exact rfl; exact rfl; exact e_var (.inl rfl) rfl rfl rfl; refine ss_cons ?_ ?_; refine s_expr ?_ ?_ ?_; refine e_meth_fn N.X N.x_Headers__convert_string_type N.m_Headers__convert_string_type ?_ ?_ ?_ ?_ ?_ ?_ ?_ ?_ ?_ ?_; exact SoundF.le (S_Headers__convert_string_type N) (by lia); exact e_var (.inl rfl) rfl rfl rfl; refine l_c ?_ ?_ ?_; exact e_var (.inl rfl) rfl rfl rfl; exact l_nil; exact rfl; refine k_cons ?_ ?_; exact e_bool; exact k_nil; rw [N.attrs]; decide; exact rfl; exact rfl; exact rfl; exact rfl; exact rfl; exact rfl; exact rfl; refine ss_cons ?_ ?_; refine s_expr ?_ ?_ ?_; refine e_meth_fn N.X N.x_Headers__convert_string_type N.m_Headers__convert_string_type ?_ ?_ ?_ ?_ ?_ ?_ ?_ ?_ ?_ ?_; exact SoundF.le (S_Headers__convert_string_type N) (by lia); exact e_var (.inl rfl) rfl rfl rfl; refine l_c ?_ ?_ ?_; exact e_var (.inl rfl) rfl rfl rfl; exact l_nil; exact rfl; refine k_cons ?_ ?_; exact e_bool; exact k_nil; rw [N.attrs]; decide; exact rfl; exact rfl; exact rfl; exact rfl; exact rfl; exact rfl; exact rfl; exact ss_nil; exact fun _ => rfl; exact ss_nil; exact ss_nil; exact ss_nil
noncomputable def F_Headers___init__ : FT := runFn false (bPlain 2) 2 p_Headers___init__
theorem S_Headers___init__ (N : S3 K Kf mg mb) : SoundF K 2 (.ref 125) ([] : List Str) F_Headers___init__ := by
 obtain ⟨fd, X, hd, hk⟩ := N.x_Headers___init__
 exact f_run (rest := (["k", "v"] : List Str)) (kn := ([] : List Str)) N.G X (b_peek N.X (ps := (["self", "headers"] : List Str)) (fun ras h S => by obtain ⟨a0, a1, rfl⟩ := len2 h; exact N.bd_Headers___init__ _ S _ _ hd hk)) (by decide) (kindsOk rfl) (noFree rfl) (fun L => w_Headers___init__ N fd)
noncomputable def p_Headers___init___s : XS := (sAssign 1 (xIte (bCmp opIsNot (xVar 1) cNone) (xVar 1) (xList true lNil)))
noncomputable def p_Headers___init___t : XS := (sCons (sIf (bCmp (opIsT true) (xCall fType (lCons (xVar 1) lNil)) (xG (.type "list"))) (sCons sDead
 sNil) sNil)
 (sCons (sSetF (setF 233 0) (xVar 0) (xVar 1))
 (sCons (sIf (bVal (cB true)) (sCons (sFor (tTuple 2 (tsCons (tName 2) (tsCons (tName 3) tsNil))) (xVar 1) (sCons (sExpr (xMeth 233 F_Headers__convert_string_type (xVar 0) (lCons (xVar 2) lNil) (lCons (cB true) lNil)))
 (sCons (sExpr (xMeth 233 F_Headers__convert_string_type (xVar 0) (lCons (xVar 3) lNil) (lCons (cB false) lNil)))
 sNil)))
 sNil) sNil)
 sNil)))
theorem w_Headers___init___s (N : S3 K Kf mg mb) (fd : FuncData) {a L : Addr} : SoundS K 1 (callEnvC (fdOf (clAt 11 0) fd) L a) (lk ((["self", "headers"] : List Str) ++ (["k", "v"] : List Str))) ((fBody (clAt 11 0)).getD 0 default) p_Headers___init___s := by
 conv => arg 5; whnf
 refine s_assign ?_ ?_ ?_ ?_; refine e_ite ?_ ?_ ?_; refine b_cmp ?_ ?_ ?_ ?_; exact s_isNot; exact e_var (.inl rfl) rfl rfl rfl; exact e_none; exact rfl; exact e_var (.inl rfl) rfl rfl rfl; refine e_list (m := true) ?_; exact l_nil; exact .inl rfl; exact rfl; exact rfl
theorem w_Headers___init___t (N : S3 K Kf mg mb) (fd : FuncData) {a L : Addr} : SoundSs K 1 (callEnvC (fdOf (clAt 11 0) fd) L a) (lk ((["self", "headers"] : List Str) ++ (["k", "v"] : List Str))) ((fBody (clAt 11 0)).drop 1) p_Headers___init___t := by
 conv => arg 5; whnf
 refine ss_cons ?_ ?_; refine s_if ?_ ?_ ?_; refine b_cmp ?_ ?_ ?_ ?_; exact s_isNotT; refine e_tcall N.G ?_ ?_ ?_ N.type0 N.type1 ?_ ?_; exact f_type; refine l_c ?_ ?_ ?_; exact e_var (.inl rfl) rfl rfl rfl; exact l_nil; exact rfl; exact rfl; exact rfl; exact rfl; exact e_tname N.G rfl N.list0 N.list1 rfl; exact rfl; refine ss_cons ?_ ?_; exact s_dead; exact ss_nil; exact ss_nil; refine ss_cons ?_ ?_; refine s_setf (fld_set N.X N.attrs N.c_Headers N.f_Headers__headers (by rw [N.attrs] ; rfl) rfl) ?_ ?_ ?_; exact e_var (.inl rfl) rfl rfl rfl; exact e_var (.inl rfl) rfl rfl rfl; exact rfl; refine ss_cons ?_ ?_; refine s_if ?_ ?_ ?_; refine b_val ?_ ?_; exact e_bool; exact fun _ => rfl; refine ss_cons ?_ ?_; refine s_for ?_ ?_ ?_ ?_; refine t_tuple ?_; refine ts_cons ?_ ?_ ?_; exact t_name (.inl rfl) rfl; refine ts_cons ?_ ?_ ?_; exact t_name (.inl rfl) rfl; exact ts_nil; exact rfl; exact rfl; exact e_var (.inl rfl) rfl rfl rfl; refine ss_cons ?_ ?_; refine s_expr ?_ ?_ ?_; refine e_meth_fn N.X N.x_Headers__convert_string_type N.m_Headers__convert_string_type ?_ ?_ ?_ ?_ ?_ ?_ ?_ ?_ ?_ ?_; exact SoundF.le (S_Headers__convert_string_type N) (by lia); exact e_var (.inl rfl) rfl rfl rfl; refine l_c ?_ ?_ ?_; exact e_var (.inl rfl) rfl rfl rfl; exact l_nil; exact rfl; refine k_cons ?_ ?_; exact e_bool; exact k_nil; rw [N.attrs]; decide; exact rfl; exact rfl; exact rfl; exact rfl; exact rfl; exact rfl; exact rfl; refine ss_cons ?_ ?_; refine s_expr ?_ ?_ ?_; refine e_meth_fn N.X N.x_Headers__convert_string_type N.m_Headers__convert_string_type ?_ ?_ ?_ ?_ ?_ ?_ ?_ ?_ ?_ ?_; exact SoundF.le (S_Headers__convert_string_type N) (by lia); exact e_var (.inl rfl) rfl rfl rfl; refine l_c ?_ ?_ ?_; exact e_var (.inl rfl) rfl rfl rfl; exact l_nil; exact rfl; refine k_cons ?_ ?_; exact e_bool; exact k_nil; rw [N.attrs]; decide; exact rfl; exact rfl; exact rfl; exact rfl; exact rfl; exact rfl; exact rfl; exact ss_nil; exact fun _ => rfl; exact ss_nil; exact ss_nil; exact ss_nil
noncomputable def F_Headers : FT := mkInst 233 F_Headers___init__
theorem S_Headers (N : S3 K Kf mg mb) : SoundF K 3 (.ref 233) [] F_Headers := f_make N.X (S_Headers___init__ N) (cls_m N.c_Headers) (met_f N.m_Headers___init__) (met_t N.m_Headers___init__)
noncomputable def p_Headers___delitem__ : XS := (sCons (sAssign 1 (xMeth 233 F_Headers__convert_string_type (xVar 0) (lCons (xMethS mLower (xVar 1) lNil) lNil) (lCons (cB true) lNil)))
 (sCons (sPutAll (xUn (getF 233 0) (xVar 0)) (xComp false 1 (tName 0) (xUn (getF 233 0) (xVar 0)) (bCmp opNe (xMethS mLower (xBin opItem (xVar 0) (cI 0)) lNil) (xVar 2)) (xVar 0)))
 sNil))
theorem w_Headers___delitem__ (N : S3 K Kf mg mb) (fd : FuncData) {a L : Addr} : SoundSs K 1 (callEnvC (fdOf (clAt 11 4) fd) L a) (lk ((["self", "name"] : List Str) ++ ([] : List Str))) (fBody (clAt 11 4)) p_Headers___delitem__ := by
 conv => arg 5; whnf
 refine ss_cons ?_ ?_; refine s_assign ?_ ?_ ?_ ?_; refine e_meth_fn N.X N.x_Headers__convert_string_type N.m_Headers__convert_string_type ?_ ?_ ?_ ?_ ?_ ?_ ?_ ?_ ?_ ?_; exact SoundF.le (S_Headers__convert_string_type N) (by lia); exact e_var (.inl rfl) rfl rfl rfl; refine l_c ?_ ?_ ?_; refine e_methS (id := "str.lower") ?_ ?_ ?_ ?_ ?_ ?_ ?_ ?_; exact m_lower; exact e_var (.inr (.inl rfl)) rfl rfl rfl; exact l_nil; exact PySem.F.slot_str_lower; exact PySem.F.type_str_lower; exact rfl; exact rfl; exact rfl; exact l_nil; exact rfl; refine k_cons ?_ ?_; exact e_bool; exact k_nil; rw [N.attrs]; decide; exact rfl; exact rfl; exact rfl; exact rfl; exact rfl; exact .inr rfl; exact rfl; exact rfl; refine ss_cons ?_ ?_; refine s_putAll ?_ ?_ ?_; refine e_compB ["kv"] (m := false) ?_ ?_ ?_ ?_ ?_ ?_; refine e_attr (fld_get N.X N.c_Headers N.f_Headers__headers (by rw [N.attrs] ; rfl)) ?_ ?_ ?_; exact e_var (.inl rfl) rfl rfl rfl; exact rfl; exact fun _ _ => rfl; intro _ _; exact tl_name rfl rfl; intro _ _; refine i_one ?_; refine b_cmp ?_ ?_ ?_ ?_; exact s_ne; refine e_methS (id := "str.lower") ?_ ?_ ?_ ?_ ?_ ?_ ?_ ?_; exact m_lower; refine e_sub ?_ ?_ ?_; exact e_var (.inl rfl) rfl rfl rfl; exact e_int; exact fun _ _ => rfl; exact l_nil; exact PySem.F.slot_str_lower; exact PySem.F.type_str_lower; exact rfl; exact rfl; exact rfl; exact e_var (.inr (.inl rfl)) rfl rfl rfl; exact rfl; intro _ _; exact e_var (.inl rfl) rfl rfl rfl; exact rfl; exact fun _ => rfl; refine e_attr (fld_get N.X N.c_Headers N.f_Headers__headers (by rw [N.attrs] ; rfl)) ?_ ?_ ?_; exact e_var (.inl rfl) rfl rfl rfl; exact rfl; exact fun _ _ => rfl; exact rfl; exact ss_nil
noncomputable def F_Headers___delitem__ : FT := runFn false (bPlain 2) 0 p_Headers___delitem__
theorem S_Headers___delitem__ (N : S3 K Kf mg mb) : SoundF K 2 (.ref 151) ([] : List Str) F_Headers___delitem__ := by
 obtain ⟨fd, X, hd, hk⟩ := N.x_Headers___delitem__
 exact f_run (rest := ([] : List Str)) (kn := ([] : List Str)) N.G X (b_plain (ps := (["self", "name"] : List Str)) (fun ras h => by rw [fd_eta hd hk]; obtain ⟨a0, a1, rfl⟩ := len2 h; rfl)) (by decide) (kindsOk rfl) (noFree rfl) (fun L => w_Headers___delitem__ N fd)
noncomputable def p_Headers___setitem__ : XS := (sCons (sDelOwn 233 F_Headers___delitem__ (xVar 0) (xVar 1))
 (sCons (sExpr (xMethL mAppend (xUn (getF 233 0) (xVar 0)) (lCons (xTuple (lCons (xMeth 233 F_Headers__convert_string_type (xVar 0) (lCons (xVar 1) lNil) (lCons (cB true) lNil)) (lCons (xMeth 233 F_Headers__convert_string_type (xVar 0) (lCons (xVar 2) lNil) (lCons (cB false) lNil)) lNil))) lNil)))
 sNil))
theorem w_Headers___setitem__ (N : S3 K Kf mg mb) (fd : FuncData) {a L : Addr} : SoundSs K 2 (callEnvC (fdOf (clAt 11 3) fd) L a) (lk ((["self", "name", "val"] : List Str) ++ ([] : List Str))) (fBody (clAt 11 3)) p_Headers___setitem__ := by
 conv => arg 5; whnf
 refine ss_cons ?_ ?_; refine s_delOwn N.X ?_ ?_ ?_ (cls_q N.c_Headers) (met_f N.m_Headers___delitem__) (met_t N.m_Headers___delitem__); exact SoundF.le (S_Headers___delitem__ N) (by lia); exact e_var (.inl rfl) rfl rfl rfl; exact e_var (.inl rfl) rfl rfl rfl; refine ss_cons ?_ ?_; refine s_expr ?_ ?_ ?_; refine e_methL (id := "list.append") ?_ ?_ ?_ ?_ ?_ ?_ ?_ ?_; exact m_append; refine e_attr (fld_get N.X N.c_Headers N.f_Headers__headers (by rw [N.attrs] ; rfl)) ?_ ?_ ?_; exact e_var (.inl rfl) rfl rfl rfl; exact rfl; exact fun _ _ => rfl; refine l_c ?_ ?_ ?_; refine e_tuple ?_; refine l_c ?_ ?_ ?_; refine e_meth_fn N.X N.x_Headers__convert_string_type N.m_Headers__convert_string_type ?_ ?_ ?_ ?_ ?_ ?_ ?_ ?_ ?_ ?_; exact SoundF.le (S_Headers__convert_string_type N) (by lia); exact e_var (.inl rfl) rfl rfl rfl; refine l_c ?_ ?_ ?_; exact e_var (.inl rfl) rfl rfl rfl; exact l_nil; exact rfl; refine k_cons ?_ ?_; exact e_bool; exact k_nil; rw [N.attrs]; decide; exact rfl; exact rfl; exact rfl; exact rfl; exact rfl; refine l_c ?_ ?_ ?_; refine e_meth_fn N.X N.x_Headers__convert_string_type N.m_Headers__convert_string_type ?_ ?_ ?_ ?_ ?_ ?_ ?_ ?_ ?_ ?_; exact SoundF.le (S_Headers__convert_string_type N) (by lia); exact e_var (.inl rfl) rfl rfl rfl; refine l_c ?_ ?_ ?_; exact e_var (.inl rfl) rfl rfl rfl; exact l_nil; exact rfl; refine k_cons ?_ ?_; exact e_bool; exact k_nil; rw [N.attrs]; decide; exact rfl; exact rfl; exact rfl; exact rfl; exact rfl; exact l_nil; exact rfl; exact rfl; exact l_nil; exact rfl; exact PySem.F.slot_list_append; exact PySem.F.type_list_append; exact rfl; exact rfl; exact rfl; exact rfl; exact rfl; exact ss_nil
noncomputable def F_Headers___setitem__ : FT := runFn false (bPlain 3) 0 p_Headers___setitem__
theorem S_Headers___setitem__ (N : S3 K Kf mg mb) : SoundF K 3 (.ref 146) ([] : List Str) F_Headers___setitem__ := by
 obtain ⟨fd, X, hd, hk⟩ := N.x_Headers___setitem__
 exact f_run (rest := ([] : List Str)) (kn := ([] : List Str)) N.G X (b_plain (ps := (["self", "name", "val"] : List Str)) (fun ras h => by rw [fd_eta hd hk]; obtain ⟨a0, a1, a2, rfl⟩ := len3 h; rfl)) (by decide) (kindsOk rfl) (noFree rfl) (fun L => w_Headers___setitem__ N fd)
noncomputable def p__law_product : XS := (sCons (sAssign 1 (xList true lNil))
 (sCons (sFor (tName 2) (xVar 0) (sCons (sFor (tName 3) (xVar 2) (sCons (sIf (bAnd (bCmp opNe (xVar 1) (xList false lNil)) (bCmp opEq (xBin opItem (xVar 1) (xNeg (cI 1))) (xBin opItem (cS "ABab") (xMethS mFind (cS "abAB") (lCons (xVar 3) lNil))))) (sCons (sExpr (xMethL mPop (xVar 1) lNil))
 sNil) (sCons (sExpr (xMethL mAppend (xVar 1) (lCons (xVar 3) lNil)))
 sNil))
 sNil))
 sNil))
 (sCons (sRet (xMethS mJoin (cS "") (lCons (xVar 1) lNil)))
 sNil)))
theorem w__law_product (N : S3 K Kf mg mb) (fd : FuncData) {a L : Addr} : SoundSs K 0 (callEnvC (fdOf (stAt 17) fd) L a) (lk ((["words"] : List Str) ++ (["out", "word", "sign"] : List Str))) (fBody (stAt 17)) p__law_product := by
 conv => arg 5; whnf
 refine ss_cons ?_ ?_; refine s_assign ?_ ?_ ?_ ?_; refine e_list (m := true) ?_; exact l_nil; exact .inl rfl; exact rfl; exact rfl; refine ss_cons ?_ ?_; refine s_for ?_ ?_ ?_ ?_; exact t_name (.inl rfl) rfl; exact e_var (.inl rfl) rfl rfl rfl; refine ss_cons ?_ ?_; refine s_for ?_ ?_ ?_ ?_; exact t_name (.inl rfl) rfl; exact e_var (.inl rfl) rfl rfl rfl; refine ss_cons ?_ ?_; refine s_if ?_ ?_ ?_; refine b_and ?_ ?_; refine b_cmp ?_ ?_ ?_ ?_; exact s_ne; exact e_var (.inl rfl) rfl rfl rfl; refine e_list ?_; exact l_nil; exact rfl; refine b_cmp ?_ ?_ ?_ ?_; exact s_eq; refine e_sub ?_ ?_ ?_; exact e_var (.inl rfl) rfl rfl rfl; refine e_neg ?_; exact e_int; exact fun _ _ => rfl; refine e_sub ?_ ?_ ?_; exact e_str; refine e_methS (id := "str.find") ?_ ?_ ?_ ?_ ?_ ?_ ?_ ?_; exact m_find; exact e_str; refine l_c ?_ ?_ ?_; exact e_var (.inl rfl) rfl rfl rfl; exact l_nil; exact rfl; exact PySem.F.slot_str_find; exact PySem.F.type_str_find; exact rfl; exact rfl; exact rfl; exact fun _ _ => rfl; exact rfl; refine ss_cons ?_ ?_; refine s_expr ?_ ?_ ?_; refine e_methL (id := "list.pop") ?_ ?_ ?_ ?_ ?_ ?_ ?_ ?_; exact m_pop; exact e_var (.inl rfl) rfl rfl rfl; exact l_nil; exact PySem.F.slot_list_pop; exact PySem.F.type_list_pop; exact rfl; exact rfl; exact rfl; exact rfl; exact rfl; exact ss_nil; refine ss_cons ?_ ?_; refine s_expr ?_ ?_ ?_; refine e_methL (id := "list.append") ?_ ?_ ?_ ?_ ?_ ?_ ?_ ?_; exact m_append; exact e_var (.inl rfl) rfl rfl rfl; refine l_c ?_ ?_ ?_; exact e_var (.inl rfl) rfl rfl rfl; exact l_nil; exact rfl; exact PySem.F.slot_list_append; exact PySem.F.type_list_append; exact rfl; exact rfl; exact rfl; exact rfl; exact rfl; exact ss_nil; exact ss_nil; exact fun _ => rfl; exact ss_nil; exact fun _ => rfl; refine ss_cons ?_ ?_; refine s_ret ?_; refine e_methS (id := "str.join") ?_ ?_ ?_ ?_ ?_ ?_ ?_ ?_; exact m_join; exact e_str; refine l_c ?_ ?_ ?_; exact e_var (.inl rfl) rfl rfl rfl; exact l_nil; exact rfl; exact PySem.F.slot_str_join; exact PySem.F.type_str_join; exact rfl; exact rfl; exact rfl; exact ss_nil
noncomputable def F__law_product : FT := runFn false (bPlain 1) 3 p__law_product
theorem S__law_product (N : S3 K Kf mg mb) : SoundF K 1 (.ref 268) ([] : List Str) F__law_product := by
 obtain ⟨fd, X, hd, hk⟩ := N.x__law_product
 exact f_run (rest := (["out", "word", "sign"] : List Str)) (kn := ([] : List Str)) N.G X (b_plain (ps := (["words"] : List Str)) (fun ras h => by rw [fd_eta hd hk]; obtain ⟨a0, rfl⟩ := len1 h; rfl)) (by decide) (kindsOk rfl) (noFree rfl) (fun L => w__law_product N fd)
noncomputable def p__law_book : XS := (sCons (sAssign 1 (xCall F_Headers (lCons (xList true (lCons (xTuple (lCons (cS "A") (lCons (cS "a") lNil))) (lCons (xTuple (lCons (cS "b") (lCons (cS "b") lNil))) lNil))) lNil)))
 (sCons (sFor (tTuple 3 (tsCons (tName 2) (tsCons (tName 3) (tsCons (tName 4) tsNil)))) (xVar 0) (sCons (sAssign 5 (xIte (bCmp opIn (xVar 2) (cS "ab")) (xVar 3) (xCall F__law_back (lCons (xVar 3) lNil))))
 (sCons (sPutOwn 233 F_Headers___setitem__ (xVar 1) (xVar 2) (xCall F__law_product (lCons (xComp false 1 (tName 0) (xVar 5) iNil (xIte (bCmp opIn (xVar 0) (cS "ab")) (xMeth 233 F_Headers_get (xVar 2) (lCons (xVar 0) lNil) lNil) (xCall F__law_back (lCons (xMeth 233 F_Headers_get (xVar 2) (lCons (xVar 0) lNil) lNil) lNil)))) lNil)))
 sNil)))
 (sCons (sRet (xVar 1))
 sNil)))
theorem w__law_book (N : S3 K Kf mg mb) (fd : FuncData) {a L : Addr} : SoundSs K 3 (callEnvC (fdOf (stAt 18) fd) L a) (lk ((["moves"] : List Str) ++ (["book", "letter", "image", "way", "word"] : List Str))) (fBody (stAt 18)) p__law_book := by
 conv => arg 5; whnf
 refine ss_cons ?_ ?_; refine s_assign ?_ ?_ ?_ ?_; refine e_new N.G N.X ?_ ?_ (cls_k N.c_Headers) ?_ N.g_Headers ?_ ?_ ?_; exact SoundF.le (S_Headers N) (by lia); refine l_c ?_ ?_ ?_; refine e_list (m := true) ?_; refine l_c ?_ ?_ ?_; refine e_tuple ?_; refine l_c ?_ ?_ ?_; exact e_str; refine l_c ?_ ?_ ?_; exact e_str; exact l_nil; exact rfl; exact rfl; refine l_c ?_ ?_ ?_; refine e_tuple ?_; refine l_c ?_ ?_ ?_; exact e_str; refine l_c ?_ ?_ ?_; exact e_str; exact l_nil; exact rfl; exact rfl; exact l_nil; exact rfl; exact rfl; exact l_nil; exact rfl; exact rfl; exact rfl; exact rfl; exact rfl; exact .inr rfl; exact rfl; exact rfl; refine ss_cons ?_ ?_; refine s_for ?_ ?_ ?_ ?_; refine t_tuple ?_; refine ts_cons ?_ ?_ ?_; exact t_name (.inl rfl) rfl; refine ts_cons ?_ ?_ ?_; exact t_name (.inl rfl) rfl; refine ts_cons ?_ ?_ ?_; exact t_name (.inl rfl) rfl; exact ts_nil; exact rfl; exact rfl; exact rfl; exact e_var (.inl rfl) rfl rfl rfl; refine ss_cons ?_ ?_; refine s_assign ?_ ?_ ?_ ?_; refine e_ite ?_ ?_ ?_; refine b_cmp ?_ ?_ ?_ ?_; exact s_in; exact e_var (.inl rfl) rfl rfl rfl; exact e_str; exact rfl; exact e_var (.inl rfl) rfl rfl rfl; refine e_call_fn N.G (fnAt_of N.x__law_back) ?_ ?_ ?_ N.g__law_back ?_ ?_; exact SoundF.le (S__law_back N) (by lia); refine l_c ?_ ?_ ?_; exact e_var (.inl rfl) rfl rfl rfl; exact l_nil; exact rfl; exact rfl; exact rfl; exact se_any rfl; exact .inl rfl; exact rfl; exact rfl; refine ss_cons ?_ ?_; refine s_putOwn N.X ?_ ?_ ?_ ?_ (cls_q N.c_Headers) (met_f N.m_Headers___setitem__) (met_t N.m_Headers___setitem__) ?_; exact SoundF.le (S_Headers___setitem__ N) (by lia); refine e_call_fn N.G (fnAt_of N.x__law_product) ?_ ?_ ?_ N.g__law_product ?_ ?_; exact SoundF.le (S__law_product N) (by lia); refine l_c ?_ ?_ ?_; refine e_compB ["sign"] (m := false) ?_ ?_ ?_ ?_ ?_ ?_; exact e_var (.inl rfl) rfl rfl rfl; intro _ _; exact tl_name rfl rfl; intro _ _; exact i_nil; intro _ _; refine e_ite ?_ ?_ ?_; refine b_cmp ?_ ?_ ?_ ?_; exact s_in; exact e_var (.inl rfl) rfl rfl rfl; exact e_str; exact rfl; refine e_meth_fnD N.X N.x_Headers_get N.m_Headers_get ?_ ?_ ?_ ?_ ?_ ?_ ?_ ?_ ?_ ?_; exact SoundF.le (S_Headers_get N) (by lia); exact e_var (.inr (.inl rfl)) rfl rfl rfl; refine l_c ?_ ?_ ?_; exact e_var (.inl rfl) rfl rfl rfl; exact l_nil; exact rfl; exact k_nil; rw [N.attrs]; decide; exact rfl; exact rfl; exact rfl; exact rfl; exact rfl; refine e_call_fn N.G (fnAt_of N.x__law_back) ?_ ?_ ?_ N.g__law_back ?_ ?_; exact SoundF.le (S__law_back N) (by lia); refine l_c ?_ ?_ ?_; refine e_meth_fnD N.X N.x_Headers_get N.m_Headers_get ?_ ?_ ?_ ?_ ?_ ?_ ?_ ?_ ?_ ?_; exact SoundF.le (S_Headers_get N) (by lia); exact e_var (.inr (.inl rfl)) rfl rfl rfl; refine l_c ?_ ?_ ?_; exact e_var (.inl rfl) rfl rfl rfl; exact l_nil; exact rfl; exact k_nil; rw [N.attrs]; decide; exact rfl; exact rfl; exact rfl; exact rfl; exact rfl; exact l_nil; exact rfl; exact rfl; exact rfl; exact se_any rfl; exact rfl; exact fun _ => rfl; exact l_nil; exact rfl; exact rfl; exact rfl; exact se_any rfl; exact e_var (.inr (.inl rfl)) rfl rfl rfl; exact e_var (.inl rfl) rfl rfl rfl; exact rfl; exact ss_nil; exact fun _ => rfl; refine ss_cons ?_ ?_; refine s_ret ?_; exact e_var (.inr (.inl rfl)) rfl rfl rfl; exact ss_nil
noncomputable def F__law_book : FT := runFn true (bPlain 1) 5 p__law_book
theorem S__law_book (N : S3 K Kf mg mb) : SoundF K 4 (.ref 273) ([] : List Str) F__law_book := by
 obtain ⟨fd, X, hd, hk⟩ := N.x__law_book
 exact f_run (rest := (["book", "letter", "image", "way", "word"] : List Str)) (kn := ([] : List Str)) N.G X (b_plain (ps := (["moves"] : List Str)) (fun ras h => by rw [fd_eta hd hk]; obtain ⟨a0, rfl⟩ := len1 h; rfl)) (by decide) (kindsOk rfl) (noFree rfl) (fun L => w__law_book N fd)
noncomputable def p_replace : XS := (sCons (sWhile (bVal (xVar 1)) (sCons (sAssign 0 (xMethS mJoin (xBin opItem (xVar 1) (cI 1)) (lCons (xMethS mSplit (xVar 0) (lCons (xBin opItem (xVar 1) (cI 0)) lNil)) lNil)))
 (sCons (sAssign 1 (xSlice (xVar 1) (pSome (cI 2)) pNone))
 sNil)))
 (sCons (sRet (xVar 0))
 sNil))
theorem w_replace (N : S3 K Kf mg mb) (fd : FuncData) {a L : Addr} : SoundSs K 0 (callEnvC (fdOf (stAt 3) fd) L a) (lk ((["text", "pairs"] : List Str) ++ ([] : List Str))) (fBody (stAt 3)) p_replace := by
 conv => arg 5; whnf
 refine ss_cons ?_ ?_; refine s_while ?_ ?_; refine b_val ?_ ?_; exact e_var (.inl rfl) rfl rfl rfl; exact fun _ => rfl; refine ss_cons ?_ ?_; refine s_assign ?_ ?_ ?_ ?_; refine e_methS (id := "str.join") ?_ ?_ ?_ ?_ ?_ ?_ ?_ ?_; exact m_join; refine e_sub ?_ ?_ ?_; exact e_var (.inl rfl) rfl rfl rfl; exact e_int; exact fun _ _ => rfl; refine l_c ?_ ?_ ?_; refine e_methS (id := "str.split") ?_ ?_ ?_ ?_ ?_ ?_ ?_ ?_; exact m_split; exact e_var (.inl rfl) rfl rfl rfl; refine l_c ?_ ?_ ?_; refine e_sub ?_ ?_ ?_; exact e_var (.inl rfl) rfl rfl rfl; exact e_int; exact fun _ _ => rfl; exact l_nil; exact rfl; exact PySem.F.slot_str_split; exact PySem.F.type_str_split; exact rfl; exact rfl; exact rfl; exact l_nil; exact rfl; exact PySem.F.slot_str_join; exact PySem.F.type_str_join; exact rfl; exact rfl; exact rfl; exact .inl rfl; exact rfl; exact rfl; refine ss_cons ?_ ?_; refine s_assign ?_ ?_ ?_ ?_; refine e_slice ?_ ?_ ?_; exact e_var (.inl rfl) rfl rfl rfl; refine p_some ?_; exact e_int; exact p_none; exact .inl rfl; exact rfl; exact rfl; exact ss_nil; refine ss_cons ?_ ?_; refine s_ret ?_; exact e_var (.inl rfl) rfl rfl rfl; exact ss_nil
noncomputable def F_replace : FT := runFn false bStar 0 p_replace
theorem S_replace (N : S3 K Kf mg mb) : SoundF K 1 (.ref 45) ([] : List Str) F_replace := by
 obtain ⟨fd, X, hd, hk⟩ := N.x_replace
 exact f_run (rest := ([] : List Str)) (kn := ([] : List Str)) N.G X (b_star (fun a rest => by rw [fd_eta hd hk]; cases rest <;> rfl)) (by decide) (kindsOk rfl) (noFree rfl) (fun L => w_replace N fd)
noncomputable def p__law_struck : XS := (sCons (sWhile (bVal (cB true)) (sCons (sAssign 1 (xCall F_replace (lCons (xVar 0) (lStrs ["aA", "", "Aa", "", "bB", "", "Bb", ""]))))
 (sCons (sIf (bCmp opEq (xVar 1) (xVar 0)) (sCons (sRet (xVar 0))
 sNil) sNil)
 (sCons (sAssign 0 (xVar 1))
 sNil))))
 sNil)
theorem w__law_struck (N : S3 K Kf mg mb) (fd : FuncData) {a L : Addr} : SoundSs K 1 (callEnvC (fdOf (stAt 20) fd) L a) (lk ((["word"] : List Str) ++ (["less"] : List Str))) (fBody (stAt 20)) p__law_struck := by
 conv => arg 5; whnf
 refine ss_cons ?_ ?_; refine s_while ?_ ?_; refine b_val ?_ ?_; exact e_bool; exact fun _ => rfl; refine ss_cons ?_ ?_; refine s_assign ?_ ?_ ?_ ?_; refine e_call_fn N.G (fnAt_of N.x_replace) ?_ ?_ ?_ N.g_replace ?_ ?_; exact SoundF.le (S_replace N) (by lia); refine l_c ?_ ?_ ?_; exact e_var (.inl rfl) rfl rfl rfl; refine l_strs ?_; (focus repeat constructor); exact rfl; exact rfl; exact rfl; exact se_any rfl; exact .inl rfl; exact rfl; exact rfl; refine ss_cons ?_ ?_; refine s_if ?_ ?_ ?_; refine b_cmp ?_ ?_ ?_ ?_; exact s_eq; exact e_var (.inl rfl) rfl rfl rfl; exact e_var (.inl rfl) rfl rfl rfl; exact rfl; refine ss_cons ?_ ?_; refine s_ret ?_; exact e_var (.inl rfl) rfl rfl rfl; exact ss_nil; exact ss_nil; refine ss_cons ?_ ?_; refine s_assign ?_ ?_ ?_ ?_; exact e_var (.inl rfl) rfl rfl rfl; exact .inl rfl; exact rfl; exact rfl; exact ss_nil; exact ss_nil
noncomputable def F__law_struck : FT := runFn false (bPlain 1) 1 p__law_struck
theorem S__law_struck (N : S3 K Kf mg mb) : SoundF K 2 (.ref 285) ([] : List Str) F__law_struck := by
 obtain ⟨fd, X, hd, hk⟩ := N.x__law_struck
 exact f_run (rest := (["less"] : List Str)) (kn := ([] : List Str)) N.G X (b_plain (ps := (["word"] : List Str)) (fun ras h => by rw [fd_eta hd hk]; obtain ⟨a0, rfl⟩ := len1 h; rfl)) (by decide) (kindsOk rfl) (noFree rfl) (fun L => w__law_struck N fd)
noncomputable def p__law_put_in : XS := (sCons (sFor (tName 2) (xCall fRange (lCons (xBin opSub (xBin opDiv (xCall fLen (lCons (xVar 1) lNil)) (cI 2)) (cI 1)) (lCons (xNeg (cI 1)) (lCons (xNeg (cI 1)) lNil)))) (sCons (sAssign 3 (xCall F_replace (lCons (xBin opItem (xVar 1) (xBin opMul (cI 2) (xVar 2))) (lCons (cS ":") (lCons (cS "") lNil)))))
 (sCons (sAssign 4 (xBin opItem (xVar 1) (xBin opAdd (xBin opMul (cI 2) (xVar 2)) (cI 1))))
 (sCons (sAssign 0 (xCall F_replace (lCons (xVar 0) (lCons (xVar 3) (lCons (cS "-") (lCons (xCall F__law_back (lCons (xVar 3) lNil)) (lCons (xCall F__law_back (lCons (xVar 4) lNil)) (lCons (cS "-") (lCons (xVar 4) lNil)))))))))
 (sCons (sAssign 0 (xCall F__law_struck (lCons (xVar 0) lNil)))
 sNil)))))
 (sCons (sRet (xVar 0))
 sNil))
theorem w__law_put_in (N : S3 K Kf mg mb) (fd : FuncData) {a L : Addr} : SoundSs K 2 (callEnvC (fdOf (stAt 21) fd) L a) (lk ((["text", "words"] : List Str) ++ (["k", "letter", "image"] : List Str))) (fBody (stAt 21)) p__law_put_in := by
 conv => arg 5; whnf
 refine ss_cons ?_ ?_; refine s_for ?_ ?_ ?_ ?_; exact t_name (.inl rfl) rfl; refine e_tcall N.G ?_ ?_ ?_ N.range0 N.range1 ?_ ?_; exact f_range; refine l_c ?_ ?_ ?_; refine e_bin ?_ ?_ ?_; exact s_sub; refine e_bin ?_ ?_ ?_; exact s_div; refine e_bcall N.G ?_ ?_ ?_ N.len0 N.len1 ?_ ?_; exact f_len; refine l_c ?_ ?_ ?_; exact e_var (.inl rfl) rfl rfl rfl; exact l_nil; exact rfl; exact rfl; exact rfl; exact rfl; exact e_int; exact e_int; refine l_c ?_ ?_ ?_; refine e_neg ?_; exact e_int; refine l_c ?_ ?_ ?_; refine e_neg ?_; exact e_int; exact l_nil; exact rfl; exact rfl; exact rfl; exact rfl; exact rfl; exact rfl; refine ss_cons ?_ ?_; refine s_assign ?_ ?_ ?_ ?_; refine e_call_fn N.G (fnAt_of N.x_replace) ?_ ?_ ?_ N.g_replace ?_ ?_; exact SoundF.le (S_replace N) (by lia); refine l_c ?_ ?_ ?_; refine e_sub ?_ ?_ ?_; exact e_var (.inl rfl) rfl rfl rfl; refine e_bin ?_ ?_ ?_; exact s_mul; exact e_int; exact e_var (.inl rfl) rfl rfl rfl; exact fun _ _ => rfl; refine l_c ?_ ?_ ?_; exact e_str; refine l_c ?_ ?_ ?_; exact e_str; exact l_nil; exact rfl; exact rfl; exact rfl; exact rfl; exact rfl; exact se_any rfl; exact .inl rfl; exact rfl; exact rfl; refine ss_cons ?_ ?_; refine s_assign ?_ ?_ ?_ ?_; refine e_sub ?_ ?_ ?_; exact e_var (.inl rfl) rfl rfl rfl; refine e_bin ?_ ?_ ?_; exact s_add; refine e_bin ?_ ?_ ?_; exact s_mul; exact e_int; exact e_var (.inl rfl) rfl rfl rfl; exact e_int; exact fun _ _ => rfl; exact .inl rfl; exact rfl; exact rfl; refine ss_cons ?_ ?_; refine s_assign ?_ ?_ ?_ ?_; refine e_call_fn N.G (fnAt_of N.x_replace) ?_ ?_ ?_ N.g_replace ?_ ?_; exact SoundF.le (S_replace N) (by lia); refine l_c ?_ ?_ ?_; exact e_var (.inl rfl) rfl rfl rfl; refine l_c ?_ ?_ ?_; exact e_var (.inl rfl) rfl rfl rfl; refine l_c ?_ ?_ ?_; exact e_str; refine l_c ?_ ?_ ?_; refine e_call_fn N.G (fnAt_of N.x__law_back) ?_ ?_ ?_ N.g__law_back ?_ ?_; exact SoundF.le (S__law_back N) (by lia); refine l_c ?_ ?_ ?_; exact e_var (.inl rfl) rfl rfl rfl; exact l_nil; exact rfl; exact rfl; exact rfl; exact se_any rfl; refine l_c ?_ ?_ ?_; refine e_call_fn N.G (fnAt_of N.x__law_back) ?_ ?_ ?_ N.g__law_back ?_ ?_; exact SoundF.le (S__law_back N) (by lia); refine l_c ?_ ?_ ?_; exact e_var (.inl rfl) rfl rfl rfl; exact l_nil; exact rfl; exact rfl; exact rfl; exact se_any rfl; refine l_c ?_ ?_ ?_; exact e_str; refine l_c ?_ ?_ ?_; exact e_var (.inl rfl) rfl rfl rfl; exact l_nil; exact rfl; exact rfl; exact rfl; exact rfl; exact rfl; exact rfl; exact rfl; exact rfl; exact rfl; exact se_any rfl; exact .inl rfl; exact rfl; exact rfl; refine ss_cons ?_ ?_; refine s_assign ?_ ?_ ?_ ?_; refine e_call_fn N.G (fnAt_of N.x__law_struck) ?_ ?_ ?_ N.g__law_struck ?_ ?_; exact SoundF.le (S__law_struck N) (by lia); refine l_c ?_ ?_ ?_; exact e_var (.inl rfl) rfl rfl rfl; exact l_nil; exact rfl; exact rfl; exact rfl; exact se_any rfl; exact .inl rfl; exact rfl; exact rfl; exact ss_nil; exact fun _ => rfl; refine ss_cons ?_ ?_; refine s_ret ?_; exact e_var (.inl rfl) rfl rfl rfl; exact ss_nil
noncomputable def F__law_put_in : FT := runFn false (bPlain 2) 3 p__law_put_in
theorem S__law_put_in (N : S3 K Kf mg mb) : SoundF K 3 (.ref 292) ([] : List Str) F__law_put_in := by
 obtain ⟨fd, X, hd, hk⟩ := N.x__law_put_in
 exact f_run (rest := (["k", "letter", "image"] : List Str)) (kn := ([] : List Str)) N.G X (b_plain (ps := (["text", "words"] : List Str)) (fun ras h => by rw [fd_eta hd hk]; obtain ⟨a0, a1, rfl⟩ := len2 h; rfl)) (by decide) (kindsOk rfl) (noFree rfl) (fun L => w__law_put_in N fd)
noncomputable def p__law_sums : XS := (sCons (sAssign 1 (xList true (lCons (xList false (lCons (cI 1) (lCons (cI 0) lNil))) (lCons (xList false (lCons (cI 0) (lCons (cI 1) lNil))) lNil))))
 (sCons (sFor (tTuple 3 (tsCons (tName 2) (tsCons (tName 3) (tsCons (tName 4) tsNil)))) (xVar 0) (sCons (sAssign 5 (xList false (lCons (cI 0) (lCons (cI 0) lNil))))
 (sCons (sFor (tName 6) (xVar 3) (sCons (sAssign 7 (xIte (bCmp opEq (xBin opIn (xVar 2) (cS "ab")) (xBin opIn (xVar 6) (cS "ab"))) (cI 1) (xNeg (cI 1))))
 (sCons (sAssign 8 (xBin opItem (xVar 1) (xBin opMod (xMethS mFind (cS "abAB") (lCons (xVar 6) lNil)) (cI 2))))
 (sCons (sAssign 5 (xList false (lCons (xBin opAdd (xBin opItem (xVar 5) (cI 0)) (xBin opMul (xVar 7) (xBin opItem (xVar 8) (cI 0)))) (lCons (xBin opAdd (xBin opItem (xVar 5) (cI 1)) (xBin opMul (xVar 7) (xBin opItem (xVar 8) (cI 1)))) lNil))))
 sNil))))
 (sCons (sPut (xVar 1) (xBin opMod (xMethS mFind (cS "abAB") (lCons (xVar 2) lNil)) (cI 2)) (xVar 5))
 sNil))))
 (sCons (sRet (xVar 1))
 sNil)))
theorem w__law_sums (N : S3 K Kf mg mb) (fd : FuncData) {a L : Addr} : SoundSs K 0 (callEnvC (fdOf (stAt 22) fd) L a) (lk ((["moves"] : List Str) ++ (["sums", "letter", "image", "way", "new", "sign", "ways", "row"] : List Str))) (fBody (stAt 22)) p__law_sums := by
 conv => arg 5; whnf
 refine ss_cons ?_ ?_; refine s_assign ?_ ?_ ?_ ?_; refine e_list (m := true) ?_; refine l_c ?_ ?_ ?_; refine e_list ?_; refine l_c ?_ ?_ ?_; exact e_int; refine l_c ?_ ?_ ?_; exact e_int; exact l_nil; exact rfl; exact rfl; refine l_c ?_ ?_ ?_; refine e_list ?_; refine l_c ?_ ?_ ?_; exact e_int; refine l_c ?_ ?_ ?_; exact e_int; exact l_nil; exact rfl; exact rfl; exact l_nil; exact rfl; exact rfl; exact .inl rfl; exact rfl; exact rfl; refine ss_cons ?_ ?_; refine s_for ?_ ?_ ?_ ?_; refine t_tuple ?_; refine ts_cons ?_ ?_ ?_; exact t_name (.inl rfl) rfl; refine ts_cons ?_ ?_ ?_; exact t_name (.inl rfl) rfl; refine ts_cons ?_ ?_ ?_; exact t_name (.inl rfl) rfl; exact ts_nil; exact rfl; exact rfl; exact rfl; exact e_var (.inl rfl) rfl rfl rfl; refine ss_cons ?_ ?_; refine s_assign ?_ ?_ ?_ ?_; refine e_list ?_; refine l_c ?_ ?_ ?_; exact e_int; refine l_c ?_ ?_ ?_; exact e_int; exact l_nil; exact rfl; exact rfl; exact .inl rfl; exact rfl; exact rfl; refine ss_cons ?_ ?_; refine s_for ?_ ?_ ?_ ?_; exact t_name (.inl rfl) rfl; exact e_var (.inl rfl) rfl rfl rfl; refine ss_cons ?_ ?_; refine s_assign ?_ ?_ ?_ ?_; refine e_ite ?_ ?_ ?_; refine b_cmp ?_ ?_ ?_ ?_; exact s_eq; refine e_cmp ?_ ?_ ?_ ?_; exact s_in; exact e_var (.inl rfl) rfl rfl rfl; exact e_str; exact rfl; refine e_cmp ?_ ?_ ?_ ?_; exact s_in; exact e_var (.inl rfl) rfl rfl rfl; exact e_str; exact rfl; exact rfl; exact e_int; refine e_neg ?_; exact e_int; exact .inl rfl; exact rfl; exact rfl; refine ss_cons ?_ ?_; refine s_assign ?_ ?_ ?_ ?_; refine e_sub ?_ ?_ ?_; exact e_var (.inl rfl) rfl rfl rfl; refine e_bin ?_ ?_ ?_; exact s_mod; refine e_methS (id := "str.find") ?_ ?_ ?_ ?_ ?_ ?_ ?_ ?_; exact m_find; exact e_str; refine l_c ?_ ?_ ?_; exact e_var (.inl rfl) rfl rfl rfl; exact l_nil; exact rfl; exact PySem.F.slot_str_find; exact PySem.F.type_str_find; exact rfl; exact rfl; exact rfl; exact e_int; exact fun _ _ => rfl; exact .inl rfl; exact rfl; exact rfl; refine ss_cons ?_ ?_; refine s_assign ?_ ?_ ?_ ?_; refine e_list ?_; refine l_c ?_ ?_ ?_; refine e_bin ?_ ?_ ?_; exact s_add; refine e_sub ?_ ?_ ?_; exact e_var (.inl rfl) rfl rfl rfl; exact e_int; exact fun _ _ => rfl; refine e_bin ?_ ?_ ?_; exact s_mul; exact e_var (.inl rfl) rfl rfl rfl; refine e_sub ?_ ?_ ?_; exact e_var (.inl rfl) rfl rfl rfl; exact e_int; exact fun _ _ => rfl; refine l_c ?_ ?_ ?_; refine e_bin ?_ ?_ ?_; exact s_add; refine e_sub ?_ ?_ ?_; exact e_var (.inl rfl) rfl rfl rfl; exact e_int; exact fun _ _ => rfl; refine e_bin ?_ ?_ ?_; exact s_mul; exact e_var (.inl rfl) rfl rfl rfl; refine e_sub ?_ ?_ ?_; exact e_var (.inl rfl) rfl rfl rfl; exact e_int; exact fun _ _ => rfl; exact l_nil; exact rfl; exact rfl; exact .inl rfl; exact rfl; exact rfl; exact ss_nil; exact fun _ => rfl; refine ss_cons ?_ ?_; refine s_put ?_ ?_ ?_ ?_; exact e_var (.inl rfl) rfl rfl rfl; exact e_var (.inl rfl) rfl rfl rfl; refine e_bin ?_ ?_ ?_; exact s_mod; refine e_methS (id := "str.find") ?_ ?_ ?_ ?_ ?_ ?_ ?_ ?_; exact m_find; exact e_str; refine l_c ?_ ?_ ?_; exact e_var (.inl rfl) rfl rfl rfl; exact l_nil; exact rfl; exact PySem.F.slot_str_find; exact PySem.F.type_str_find; exact rfl; exact rfl; exact rfl; exact e_int; exact rfl; exact ss_nil; exact fun _ => rfl; refine ss_cons ?_ ?_; refine s_ret ?_; exact e_var (.inl rfl) rfl rfl rfl; exact ss_nil
noncomputable def F__law_sums : FT := runFn false (bPlain 1) 8 p__law_sums
theorem S__law_sums (N : S3 K Kf mg mb) : SoundF K 1 (.ref 299) ([] : List Str) F__law_sums := by
 obtain ⟨fd, X, hd, hk⟩ := N.x__law_sums
 exact f_run (rest := (["sums", "letter", "image", "way", "new", "sign", "ways", "row"] : List Str)) (kn := ([] : List Str)) N.G X (b_plain (ps := (["moves"] : List Str)) (fun ras h => by rw [fd_eta hd hk]; obtain ⟨a0, rfl⟩ := len1 h; rfl)) (by decide) (kindsOk rfl) (noFree rfl) (fun L => w__law_sums N fd)
noncomputable def p__law_is_ring : XS := (sCons (sWhile (bAnd (bCmp opGt (xCall fLen (lCons (xVar 0) lNil)) (cI 1)) (bCmp opEq (xBin opItem (xVar 0) (cI 0)) (xCall F__law_back (lCons (xBin opItem (xVar 0) (xNeg (cI 1))) lNil)))) (sCons (sAssign 0 (xSlice (xVar 0) (pSome (cI 1)) (pSome (xNeg (cI 1)))))
 sNil))
 (sCons (sRet (xAnd (xBin opEq (xCall fLen (lCons (xVar 0) lNil)) (xCall fLen (lCons (xVar 1) lNil))) (xBin opIn (xVar 0) (xBin opAdd (xVar 1) (xVar 1)))))
 sNil))
theorem w__law_is_ring (N : S3 K Kf mg mb) (fd : FuncData) {a L : Addr} : SoundSs K 1 (callEnvC (fdOf (stAt 24) fd) L a) (lk ((["word", "due"] : List Str) ++ ([] : List Str))) (fBody (stAt 24)) p__law_is_ring := by
 conv => arg 5; whnf
 refine ss_cons ?_ ?_; refine s_while ?_ ?_; refine b_and ?_ ?_; refine b_cmp ?_ ?_ ?_ ?_; exact s_gt; refine e_bcall N.G ?_ ?_ ?_ N.len0 N.len1 ?_ ?_; exact f_len; refine l_c ?_ ?_ ?_; exact e_var (.inl rfl) rfl rfl rfl; exact l_nil; exact rfl; exact rfl; exact rfl; exact rfl; exact e_int; exact rfl; refine b_cmp ?_ ?_ ?_ ?_; exact s_eq; refine e_sub ?_ ?_ ?_; exact e_var (.inl rfl) rfl rfl rfl; exact e_int; exact fun _ _ => rfl; refine e_call_fn N.G (fnAt_of N.x__law_back) ?_ ?_ ?_ N.g__law_back ?_ ?_; exact SoundF.le (S__law_back N) (by lia); refine l_c ?_ ?_ ?_; refine e_sub ?_ ?_ ?_; exact e_var (.inl rfl) rfl rfl rfl; refine e_neg ?_; exact e_int; exact fun _ _ => rfl; exact l_nil; exact rfl; exact rfl; exact rfl; exact se_any rfl; exact rfl; refine ss_cons ?_ ?_; refine s_assign ?_ ?_ ?_ ?_; refine e_slice ?_ ?_ ?_; exact e_var (.inl rfl) rfl rfl rfl; refine p_some ?_; exact e_int; refine p_some ?_; refine e_neg ?_; exact e_int; exact .inl rfl; exact rfl; exact rfl; exact ss_nil; refine ss_cons ?_ ?_; refine s_ret ?_; refine e_and ?_ ?_; refine e_cmp ?_ ?_ ?_ ?_; exact s_eq; refine e_bcall N.G ?_ ?_ ?_ N.len0 N.len1 ?_ ?_; exact f_len; refine l_c ?_ ?_ ?_; exact e_var (.inl rfl) rfl rfl rfl; exact l_nil; exact rfl; exact rfl; exact rfl; exact rfl; refine e_bcall N.G ?_ ?_ ?_ N.len0 N.len1 ?_ ?_; exact f_len; refine l_c ?_ ?_ ?_; exact e_var (.inl rfl) rfl rfl rfl; exact l_nil; exact rfl; exact rfl; exact rfl; exact rfl; exact rfl; refine e_cmp ?_ ?_ ?_ ?_; exact s_in; exact e_var (.inl rfl) rfl rfl rfl; refine e_bin ?_ ?_ ?_; exact s_add; exact e_var (.inl rfl) rfl rfl rfl; exact e_var (.inl rfl) rfl rfl rfl; exact rfl; exact ss_nil
noncomputable def F__law_is_ring : FT := runFn false (bPlain 2) 0 p__law_is_ring
theorem S__law_is_ring (N : S3 K Kf mg mb) : SoundF K 2 (.ref 311) ([] : List Str) F__law_is_ring := by
 obtain ⟨fd, X, hd, hk⟩ := N.x__law_is_ring
 exact f_run (rest := ([] : List Str)) (kn := ([] : List Str)) N.G X (b_plain (ps := (["word", "due"] : List Str)) (fun ras h => by rw [fd_eta hd hk]; obtain ⟨a0, a1, rfl⟩ := len2 h; rfl)) (by decide) (kindsOk rfl) (noFree rfl) (fun L => w__law_is_ring N fd)
noncomputable def p__law_line : XS := (sCons (sAssign 2 (xBin opAdd (xCall fAbs (lCons (xVar 0) lNil)) (xCall fAbs (lCons (xVar 1) lNil))))
 (sCons (sAssign 3 (xIte (bCmp opGt (xVar 0) (cI 0)) (cS "a") (cS "A")))
 (sCons (sAssign 4 (xIte (bCmp opGt (xVar 1) (cI 0)) (cS "b") (cS "B")))
 (sCons (sRet (xMethS mJoin (cS "") (lCons (xComp false 1 (tName 0) (xCall fRange (lCons (xVar 2) lNil)) iNil (xIte (bCmp opLt (xBin opAdd (xBin opMod (xBin opMul (xVar 0) (xCall fAbs (lCons (xVar 2) lNil))) (xVar 3)) (xCall fAbs (lCons (xVar 2) lNil))) (xVar 3)) (xVar 4) (xVar 5))) lNil)))
 sNil))))
theorem w__law_line (N : S3 K Kf mg mb) (fd : FuncData) {a L : Addr} : SoundSs K 0 (callEnvC (fdOf (stAt 23) fd) L a) (lk ((["p", "q"] : List Str) ++ (["size", "low", "high"] : List Str))) (fBody (stAt 23)) p__law_line := by
 conv => arg 5; whnf
 refine ss_cons ?_ ?_; refine s_assign ?_ ?_ ?_ ?_; refine e_bin ?_ ?_ ?_; exact s_add; refine e_bcall N.G ?_ ?_ ?_ N.abs0 N.abs1 ?_ ?_; exact f_abs; refine l_c ?_ ?_ ?_; exact e_var (.inl rfl) rfl rfl rfl; exact l_nil; exact rfl; exact rfl; exact rfl; exact rfl; refine e_bcall N.G ?_ ?_ ?_ N.abs0 N.abs1 ?_ ?_; exact f_abs; refine l_c ?_ ?_ ?_; exact e_var (.inr (.inl rfl)) rfl rfl rfl; exact l_nil; exact rfl; exact rfl; exact rfl; exact rfl; exact .inr rfl; exact rfl; exact rfl; refine ss_cons ?_ ?_; refine s_assign ?_ ?_ ?_ ?_; refine e_ite ?_ ?_ ?_; refine b_cmp ?_ ?_ ?_ ?_; exact s_gt; exact e_var (.inl rfl) rfl rfl rfl; exact e_int; exact rfl; exact e_str; exact e_str; exact .inr rfl; exact rfl; exact rfl; refine ss_cons ?_ ?_; refine s_assign ?_ ?_ ?_ ?_; refine e_ite ?_ ?_ ?_; refine b_cmp ?_ ?_ ?_ ?_; exact s_gt; exact e_var (.inr (.inl rfl)) rfl rfl rfl; exact e_int; exact rfl; exact e_str; exact e_str; exact .inr rfl; exact rfl; exact rfl; refine ss_cons ?_ ?_; refine s_ret ?_; refine e_methS (id := "str.join") ?_ ?_ ?_ ?_ ?_ ?_ ?_ ?_; exact m_join; exact e_str; refine l_c ?_ ?_ ?_; refine e_compB ["k"] (m := false) ?_ ?_ ?_ ?_ ?_ ?_; refine e_tcall N.G ?_ ?_ ?_ N.range0 N.range1 ?_ ?_; exact f_range; refine l_c ?_ ?_ ?_; exact e_var (.inr (.inl rfl)) rfl rfl rfl; exact l_nil; exact rfl; exact rfl; exact rfl; exact rfl; intro _ _; exact tl_name rfl rfl; intro _ _; exact i_nil; intro _ _; refine e_ite ?_ ?_ ?_; refine b_cmp ?_ ?_ ?_ ?_; exact s_lt; refine e_bin ?_ ?_ ?_; exact s_add; refine e_bin ?_ ?_ ?_; exact s_mod; refine e_bin ?_ ?_ ?_; exact s_mul; exact e_var (.inl rfl) rfl rfl rfl; refine e_bcall N.G ?_ ?_ ?_ N.abs0 N.abs1 ?_ ?_; exact f_abs; refine l_c ?_ ?_ ?_; exact e_var (.inr (.inl rfl)) rfl rfl rfl; exact l_nil; exact rfl; exact rfl; exact rfl; exact rfl; exact e_var (.inr (.inl rfl)) rfl rfl rfl; refine e_bcall N.G ?_ ?_ ?_ N.abs0 N.abs1 ?_ ?_; exact f_abs; refine l_c ?_ ?_ ?_; exact e_var (.inr (.inl rfl)) rfl rfl rfl; exact l_nil; exact rfl; exact rfl; exact rfl; exact rfl; exact e_var (.inr (.inl rfl)) rfl rfl rfl; exact rfl; exact e_var (.inr (.inl rfl)) rfl rfl rfl; exact e_var (.inr (.inl rfl)) rfl rfl rfl; exact rfl; exact fun _ => rfl; exact l_nil; exact rfl; exact PySem.F.slot_str_join; exact PySem.F.type_str_join; exact rfl; exact rfl; exact rfl; exact ss_nil
noncomputable def F__law_line : FT := runFn false (bPlain 2) 3 p__law_line
theorem S__law_line (N : S3 K Kf mg mb) : SoundF K 1 (.ref 304) ([] : List Str) F__law_line := by
 obtain ⟨fd, X, hd, hk⟩ := N.x__law_line
 exact f_run (rest := (["size", "low", "high"] : List Str)) (kn := ([] : List Str)) N.G X (b_plain (ps := (["p", "q"] : List Str)) (fun ras h => by rw [fd_eta hd hk]; obtain ⟨a0, a1, rfl⟩ := len2 h; rfl)) (by decide) (kindsOk rfl) (noFree rfl) (fun L => w__law_line N fd)
noncomputable def p__law_names : XS := (sCons (sAssign 1 (xList false (lCons (cS "A") (lCons (cS "b") lNil))))
 (sCons (sFor (tTuple 3 (tsCons (tName 2) (tsCons (tName 3) (tsCons (tName 4) tsNil)))) (xVar 0) (sCons (sAssign 1 (xBin opAdd (xComp false 1 (tName 0) (xVar 1) (bAnd (bCmp opNe (xVar 0) (xVar 3)) (bCmp opNe (xVar 0) (xCall F__law_back (lCons (xVar 3) lNil)))) (xVar 0)) (xList false (lCons (xVar 2) lNil))))
 sNil))
 (sCons (sRet (xVar 1))
 sNil)))
theorem w__law_names (N : S3 K Kf mg mb) (fd : FuncData) {a L : Addr} : SoundSs K 1 (callEnvC (fdOf (stAt 19) fd) L a) (lk ((["moves"] : List Str) ++ (["names", "letter", "image", "way"] : List Str))) (fBody (stAt 19)) p__law_names := by
 conv => arg 5; whnf
 refine ss_cons ?_ ?_; refine s_assign ?_ ?_ ?_ ?_; refine e_list ?_; refine l_c ?_ ?_ ?_; exact e_str; refine l_c ?_ ?_ ?_; exact e_str; exact l_nil; exact rfl; exact rfl; exact .inl rfl; exact rfl; exact rfl; refine ss_cons ?_ ?_; refine s_for ?_ ?_ ?_ ?_; refine t_tuple ?_; refine ts_cons ?_ ?_ ?_; exact t_name (.inr rfl) rfl; refine ts_cons ?_ ?_ ?_; exact t_name (.inl rfl) rfl; refine ts_cons ?_ ?_ ?_; exact t_name (.inl rfl) rfl; exact ts_nil; exact rfl; exact rfl; exact rfl; exact e_var (.inl rfl) rfl rfl rfl; refine ss_cons ?_ ?_; refine s_assign ?_ ?_ ?_ ?_; refine e_bin ?_ ?_ ?_; exact s_add; refine e_compB ["name"] (m := false) ?_ ?_ ?_ ?_ ?_ ?_; exact e_var (.inl rfl) rfl rfl rfl; intro _ _; exact tl_name rfl rfl; intro _ _; refine i_one ?_; refine b_and ?_ ?_; refine b_cmp ?_ ?_ ?_ ?_; exact s_ne; exact e_var (.inl rfl) rfl rfl rfl; exact e_var (.inr (.inl rfl)) rfl rfl rfl; exact rfl; refine b_cmp ?_ ?_ ?_ ?_; exact s_ne; exact e_var (.inl rfl) rfl rfl rfl; refine e_call_fn N.G (fnAt_of N.x__law_back) ?_ ?_ ?_ N.g__law_back ?_ ?_; exact SoundF.le (S__law_back N) (by lia); refine l_c ?_ ?_ ?_; exact e_var (.inr (.inl rfl)) rfl rfl rfl; exact l_nil; exact rfl; exact rfl; exact rfl; exact se_any rfl; exact rfl; intro _ _; exact e_var (.inl rfl) rfl rfl rfl; exact rfl; exact fun _ => rfl; refine e_list ?_; refine l_c ?_ ?_ ?_; exact e_var (.inr (.inl rfl)) rfl rfl rfl; exact l_nil; exact rfl; exact .inl rfl; exact rfl; exact rfl; exact ss_nil; exact fun _ => rfl; refine ss_cons ?_ ?_; refine s_ret ?_; exact e_var (.inl rfl) rfl rfl rfl; exact ss_nil
noncomputable def F__law_names : FT := runFn false (bPlain 1) 4 p__law_names
theorem S__law_names (N : S3 K Kf mg mb) : SoundF K 2 (.ref 278) ([] : List Str) F__law_names := by
 obtain ⟨fd, X, hd, hk⟩ := N.x__law_names
 exact f_run (rest := (["names", "letter", "image", "way"] : List Str)) (kn := ([] : List Str)) N.G X (b_plain (ps := (["moves"] : List Str)) (fun ras h => by rw [fd_eta hd hk]; obtain ⟨a0, rfl⟩ := len1 h; rfl)) (by decide) (kindsOk rfl) (noFree rfl) (fun L => w__law_names N fd)
end Mine
namespace Mine
open PySem PySem.Spec PySem.Calls PyProof.Rows
theorem f_goB {K : KX} {mg mb : Str → Option Value} (G : KG K mg mb) {r : Nat} {a : Addr} {fd : FuncData} {body : List Stmt} (X : FnAt K a fd body) {ps rest : List Str} {n : Nat}
  (nd : ps.Nodup) (hkind : ∀ x ∈ ps, fd.scope.names.lookup x = some .local ∨ fd.scope.names.lookup x = some .cell) (hfree : ∀ x, fd.scope.names.lookup x ≠ some .free)
  {A : Around} (ok : OkA (r + 1) A) {ρ : Rho} {hp : List O} {s : Shared} {vas : List V} {ras ras0 : List Value} {E : Value → Shared → Prop} {Post : Value → Shared → Prop} (H : HRel K ρ hp s.heap) (R : VRs ρ s.heap vas ras) (hl : ras.length = ps.length) (hbinds : BindsTo s fd ⟨ras0, []⟩ (ps.zip ras))
  (hbody : ∀ h₂ t₂ A' E', OkA r A' → FRel K (callEnvC fd s.heap.objs.size a) (lk (ps ++ rest)) (vas.map some ++ List.replicate n none) ρ h₂ → HRel K ρ hp h₂ → Step K ρ s.heap ρ h₂ →
   (∀ b o, s.heap.get? b = some o → ¬ Place (callEnvC fd s.heap.objs.size a) b) →
   wpAny (model K.prog K.w) A' (execs body (callEnvC fd s.heap.objs.size a)) (fun fl s' => (fl = .next ∧ Post .none s') ∨ ∃ rv, fl = .ret rv ∧ Post rv s') E' { s with heap := h₂, toks := t₂ }) :
  codeAny (model K.prog K.w) A (.call (.ref a) ⟨ras0, []⟩) (fun r s' => match r with | .ok (.ret v) => Post v s' | .ok _ => False | .error e => E e s') s := by
 obtain ⟨o, ho, hd⟩ := X.ob
 refine codeAny_call_function (fd := fd) (by have := ok.dp; lia) (H.keep _ _ ho X.tb) hd X.co X.gen X.bd ?_ ?_
 ·obtain ⟨c, oc, vs, t, e1, e2, e3, e4, e5⟩ := X.code
  exact ⟨c, oc, vs, t, e1, H.keep _ _ e2 e5, e3, e4⟩
 refine hbinds _ _ _ _ ?_
 rw [X.clo]
 refine wpAny_newFunctionEnv_cells X.kd ?_ ?_
 ·intro x hx
  obtain ⟨x1, x2⟩ := x
  have hm : x1 ∈ ps := (List.of_mem_zip hx).1
  rcases hkind x1 hm with e | e
  ·exact .inl e
  ·exact .inr ⟨e, cellsFrom_some _ _ _ _ (.inl (mem_of_lookup e))⟩
 intro env he s₂ I
 have he' : env = callEnvC fd s.heap.objs.size a := he
 have hs₂ : ∃ h₂ t₂, s₂ = { s with heap := h₂, toks := t₂ } := by
  obtain ⟨h₂, t₂, e⟩ := I.toInCall.same
  exact ⟨h₂, t₂, e⟩
 obtain ⟨h₂, t₂, rfl⟩ := hs₂
 have keep₂ : ∀ b o, s.heap.get? b = some o → h₂.get? b = some o := I.toInCall.keep
 have H₂ : HRel K ρ hp h₂ := H.grow keep₂
 have S₂ : Step K ρ s.heap ρ h₂ := Step.grow keep₂
 have R₂ := R.step S₂ H
 have hloc : env.locals = s.heap.objs.size := by rw [he']; rfl
 have hkof : ∀ x, env.kindOf x = fd.scope.names.lookup x := by intro x; rw [he']; rfl
 have hcell : env.cells = cellsFrom (s.heap.objs.size + 1) fd.scope.names [] := by rw [he']; rfl
 have hvs : ∀ (k : Nat) (v : V), (vas.map some ++ List.replicate n none)[k]? = some (some v) → vas[k]? = some v := by
  intro k v e
  by_cases hk : k < vas.length
  ·rw [List.getElem?_append_left (by simpa using hk), List.getElem?_map] at e
   cases e' : vas[k]? with
   | none => rw [e'] at e; cases e
   | some w => rw [e'] at e; simpa using e
  ·rw [List.getElem?_append_right (by simpa using hk), List.getElem?_replicate] at e
   split at e <;> cases e
 have hps : ∀ (x : Str) (k : Nat) (v : V), lk (ps ++ rest) x = some k → vas[k]? = some v → ps[k]? = some x := by
  intro x k v e e'
  have := lk_get e
  have hk : k < ps.length := by rw [← hl, ← R.length]; exact (List.getElem?_eq_some_iff.mp e').1
  rwa [List.getElem?_append_left hk] at this
 have newc : ∀ c, s.heap.objs.size ≤ c → K.New c ∧ Off ρ c := fun c hc => ⟨H.fresh (get?_beyond hc), H.off (get?_beyond hc)⟩
 have F : FRel K env (lk (ps ++ rest)) (vas.map some ++ List.replicate n none) ρ h₂ := by
  refine ⟨by rw [he']; exact X.kd, by rw [he']; exact X.gl, by rw [he']; exact X.bi, ?_, ?_, ?_, ?_, ?_, ?_⟩
  ·rw [hloc]; exact (newc _ (Nat.le_refl _)).1
  ·rw [hloc]; exact (newc _ (Nat.le_refl _)).2
  ·refine ⟨_, I.toInCall.ns, fun x k v hx hl e => ?_⟩
   have e1 := hvs k v e
   obtain ⟨rv, e2, e3⟩ := R₂.get e1
   exact ⟨rv, bindL_get nd (hps x k v hl e1) e2 hx, e3⟩
  ·intro x hx
   have hxc : fd.scope.names.lookup x = some .cell := by
    rcases hx with hx | hx
    ·rw [← hkof]; exact hx
    ·exact absurd (by rw [← hkof]; exact hx) (hfree x)
   have is : (env.cells.lookup x).isSome = true := by rw [hcell]; exact cellsFrom_some _ _ _ _ (.inl (mem_of_lookup hxc))
   obtain ⟨c, hc⟩ := Option.isSome_iff_exists.mp is
   have hab := I.above x c (mem_of_lookup hc)
   rw [hloc] at hab
   obtain ⟨oc, g1, g2⟩ := I.cell x c hc
   refine ⟨c, oc, _, hc, (newc c (Nat.le_of_lt hab)).1, (newc c (Nat.le_of_lt hab)).2, g1, g2, fun k v hl e => ?_⟩
   have e1 := hvs k v e
   obtain ⟨rv, e2, e3⟩ := R₂.get e1
   refine ⟨rv, bindC_get nd (hps x k v hl e1) e2 ?_, e3⟩
   rw [hkof, hxc]; simp
  ·intro x y c h1 h2
   exact name_of_addr I.apart (mem_of_lookup h1) (mem_of_lookup h2)
  ·intro x y k h1 h2
   have e1 := lk_get h1
   have e2 := lk_get h2
   rw [e1] at e2; cases e2; rfl
 refine ⟨H₂.limOf G, codeAny_func ?_⟩
 have ok' : OkA r (A.deeper env) := ⟨ok.hh, by have := ok.dp; show A.depth + 1 + r < _; lia, by have := ok.un; show A.units + 3 + _ + 200 < _; lia⟩
 have np : ∀ b o, s.heap.get? b = some o → ¬ Place env b := by
  intro b o e
  have hlt := Heap.lt_size e
  rintro (z | ⟨x, _, hc⟩)
  ·rw [hloc] at z; exact absurd hlt (by rw [z]; exact Nat.lt_irrefl _)
  ·have := I.above x b (mem_of_lookup hc); rw [hloc] at this; exact absurd hlt (Nat.not_lt.mpr (Nat.le_of_lt this))
 rw [he'] at F np ok' ⊢
 refine wpAny_mono (hbody h₂ t₂ _ _ ok' F H₂ S₂ np) ?_ (fun _ _ x => x)
 rintro fl s₃ (⟨rfl, p⟩ | ⟨rv, rfl, p⟩) <;> exact p
noncomputable def flipI (n i : Nat) : Nat := if i = n then n + 1 else if i = n + 1 then n else i
noncomputable def flipV (n : Nat) : V → V | .r i => .r (flipI n i) | v => v
theorem flip_get {α : Type} {ρ : List α} {p q x : α} {i : Nat} (e : (ρ ++ [p, q])[i]? = some x) : (ρ ++ [q, p])[flipI ρ.length i]? = some x := by
 unfold flipI
 by_cases h1 : i < ρ.length
 ·rw [if_neg (by lia), if_neg (by lia), List.getElem?_append_left h1]
  rwa [List.getElem?_append_left h1] at e
 ·rw [List.getElem?_append_right (by lia)] at e
  by_cases h2 : i = ρ.length
  ·subst h2
   rw [if_pos rfl, List.getElem?_append_right (by lia)]
   simp at e ⊢
   exact e
  ·rw [if_neg h2]
   have h3 : i = ρ.length + 1 := by
    have := (List.getElem?_eq_some_iff.mp e).1
    simp at this; lia
   subst h3
   rw [if_pos rfl]
   simp at e ⊢
   exact e
theorem flip_low {n i : Nat} (h : i < n) : flipI n i = i := by unfold flipI; rw [if_neg (by lia), if_neg (by lia)]
theorem mem_flip {α : Type} {ρ : List α} {p q x : α} : x ∈ ρ ++ [q, p] ↔ x ∈ ρ ++ [p, q] := by simp only [List.mem_append, List.mem_cons, List.not_mem_nil, or_false]; constructor <;> (rintro (h | h | h) <;> simp [h])
theorem mu_flip {ρ : Rho} {p q : P} {a : Addr} : a ∈ mu (ρ ++ [q, p]) ↔ a ∈ mu (ρ ++ [p, q]) := by simp only [mu, List.map_append, List.map_cons, List.map_nil]; exact mem_flip
theorem VR.flip {ρ : Rho} {p q : P} {h : Heap} {v : V} {rv : Value} (x : VR (ρ ++ [p, q]) h v rv) : VR (ρ ++ [q, p]) h (flipV ρ.length v) rv := by
 cases v with
 | d y => exact DR.mono (fun a o vs n e hd hm => ⟨e, fun z => hm (mu_flip.mp z)⟩) x
 | r i => obtain ⟨pp, e, rfl⟩ := x; exact ⟨pp, flip_get e, rfl⟩
 | rng a b c => obtain ⟨qq, t, u, w, rfl, e1, hm⟩ := x; exact ⟨qq, t, u, w, rfl, e1, fun z => hm (mu_flip.mp z)⟩
 | g v => exact x
theorem FRel.flip {K : KX} {env : Env} {look : Str → Option Nat} {vs : List (Option V)} {ρ : Rho} {p q : P} {h : Heap} (F : FRel K env look vs (ρ ++ [p, q]) h) : FRel K env look (vs.map fun x => x.map (flipV ρ.length)) (ρ ++ [q, p]) h := by
 have key : ∀ {k : Nat} {v : V}, (vs.map fun x => x.map (flipV ρ.length))[k]? = some (some v) → ∃ u, vs[k]? = some (some u) ∧ v = flipV ρ.length u := by
  intro k v e
  rw [List.getElem?_map] at e
  cases hq : vs[k]? with
  | none => rw [hq] at e; cases e
  | some w =>
   rw [hq] at e
   cases w with
   | none => simp at e
   | some u => simp at e; exact ⟨u, rfl, e.symm⟩
 refine ⟨F.kd, F.gl, F.bi, F.lb, fun x hx => F.lo x (mem_flip.mp hx), ?_, ?_, F.ci, F.ij⟩
 ·obtain ⟨m, nn, f⟩ := F.ns
  refine ⟨m, nn, fun x k v hx hl e => ?_⟩
  obtain ⟨u, e1, rfl⟩ := key e
  obtain ⟨rv, f1, f2⟩ := f x k u hx hl e1
  exact ⟨rv, f1, f2.flip⟩
 ·intro x hx
  obtain ⟨c, o, ov, a1, a2, a3, a4, a5, a6⟩ := F.cl x hx
  refine ⟨c, o, ov, a1, a2, fun y hy => a3 y (mem_flip.mp hy), a4, a5, fun k v hl e => ?_⟩
  obtain ⟨u, e1, rfl⟩ := key e
  obtain ⟨rv, f1, f2⟩ := a6 k u hl e1
  exact ⟨rv, f1, f2.flip⟩
theorem HRel.flip {K : KX} {ρ : Rho} {p q : P} {h : Heap} {hp : List O} {C : Addr} {l : List PyData} (H : HRel K (ρ ++ [p, q]) (hp ++ [.inst C [], .lst l]) h) (hl : ρ.length = hp.length) : HRel K (ρ ++ [q, p]) (hp ++ [.lst l, .inst C []]) h := by
 have hV : ∀ {v : V} {rv : Value} {i : Nat}, i < ρ.length → (∀ j, v = .r j → j < i) → VR (ρ ++ [p, q]) h v rv → VR (ρ ++ [q, p]) h v rv := by
  intro v rv i hi hj x
  have := x.flip
  cases v with
  | r j =>
   have e : flipV ρ.length (.r j) = .r j := by show V.r (flipI _ _) = _; rw [flip_low (Nat.lt_trans (hj j rfl) hi)]
   rw [e] at this; exact this
  | _ => exact this
 have hD : ∀ {vs : List Value} {xs : List PyData}, DRs h (mu (ρ ++ [p, q])) vs xs → DRs h (mu (ρ ++ [q, p])) vs xs := fun d => d.mono fun a o vs n e hd hm => ⟨e, fun z => hm (mu_flip.mp z)⟩
 refine ⟨H.tbd, H.keep, H.tab, by simp [hl], ?_, fun x hx => H.hi x (mem_flip.mp hx), fun x hx a ha => ⟨fun z => (H.fx x (mem_flip.mp hx) a ha).1 (mu_flip.mp z), (H.fx x (mem_flip.mp hx) a ha).2⟩, fun x hx => H.lt x (mem_flip.mp hx), ?_⟩
 ·have := H.nd
  simp only [mu, List.map_append, List.map_cons, List.map_nil] at this ⊢
  rw [List.nodup_append] at this ⊢
  obtain ⟨a, b, c⟩ := this
  refine ⟨a, by simp at b ⊢; exact fun e => b e.symm, fun x hx y hy => c x hx y ?_⟩
  simp only [List.mem_cons, List.not_mem_nil, or_false] at hy ⊢
  exact hy.symm
 ·intro i oi pi e e'
  by_cases hi : i < hp.length
  ·rw [List.getElem?_append_left hi] at e
   have hi' : i < ρ.length := by lia
   have e2 : (ρ ++ [p, q])[i]? = some pi := by rw [List.getElem?_append_left hi'] at e' ⊢; exact e'
   have r := H.ob i oi pi (get_left e _) e2
   cases oi with
   | lst l => obtain ⟨a, vs, n, h1, h4⟩ := r; exact ⟨a, vs, n, h1, hD h4⟩
   | inst c fs =>
    obtain ⟨o, od, m, h1, h2, h3, h4, h5, h7, h8, h9, h10, h11⟩ := r
    refine ⟨o, od, m, h1, h2, h3, h4, h5, h7, h8, h9, ?_, h11⟩
    intro k x hx
    have q' := h10 k x hx
    revert q'
    cases fs.lookup k with
    | none => exact id
    | some v => rintro ⟨⟨rv, q1, q2⟩, q3, q4⟩; exact ⟨⟨rv, q1, hV hi' q3 q2⟩, q3, q4⟩
   | stream l => obtain ⟨d, X, f1, f4⟩ := r; exact ⟨d, X, f1, hD f4⟩
   | edict => exact r
   | citer c =>
    obtain ⟨e, o, vs, h1, h2, h3, h4⟩ := r
    refine ⟨e, o, vs, h1, h2, h3, ?_⟩
    cases c with
    | none => exact h4
    | some j =>
     obtain ⟨hj, M, t', q', q1, q2, q4, q6⟩ := h4
     exact ⟨hj, M, t', q', q1, q2, q4, by rw [List.getElem?_append_left (by lia)] at q6 ⊢; exact q6⟩
  ·rw [List.getElem?_append_right (by lia)] at e
   have h2 : i = hp.length ∨ i = hp.length + 1 := by
    have := (List.getElem?_eq_some_iff.mp e).1
    simp at this; lia
   rw [List.getElem?_append_right (by lia)] at e'
   rcases h2 with rfl | rfl
   ·simp [hl] at e e'
    subst e; subst e'
    have r := H.ob (hp.length + 1) (.lst l) q (by simp) (by rw [← hl]; simp)
    obtain ⟨a, vs, n, h1, h4⟩ := r
    exact ⟨a, vs, n, h1, hD h4⟩
   ·simp [hl] at e e'
    subst e; subst e'
    have r := H.ob hp.length (.inst C []) p (by simp) (by rw [← hl]; simp)
    obtain ⟨o, od, m, h1, h2, h3, h4, h5, h7, h8, h9, h10, h11⟩ := r
    exact ⟨o, od, m, h1, h2, h3, h4, h5, h7, h8, h9, fun k x hx => h10 k x hx, h11⟩
noncomputable def F_Headers0 : FT := fun vas Q hp => vas = [] ∧ Q (.r (hp.length + 1)) (hp ++ [.lst [], .inst 233 [(0, .r hp.length)]])
theorem x_init_s {n : Nat} {hp : List O} {Q : QS} (q : Q .next [some (.r n), some (.r hp.length), none, none] (hp ++ [.lst []])) :
  p_Headers___init___s [some (.r n), some (.d .none), none, none] Q hp := by
 show (match datas [] with | some xs => xs.length ≤ sizeLine ∧ mkL true xs _ _ | none => False)
 exact ⟨by simp [sizeLine_eq], q⟩
theorem get_n0 {α : Type} {l : List α} {a b : α} : (l ++ [a, b])[l.length]? = some a := by simp
theorem get_n1 {α : Type} {l : List α} {a b : α} : (l ++ [a, b])[l.length + 1]? = some b := by simp
theorem set_n1 {α : Type} {l : List α} {a b c : α} : (l ++ [a, b]).set (l.length + 1) c = l ++ [a, c] := by
 rw [List.set_append_right _ _ (by lia)]; simp
theorem x_init_t {hp : List O} {Q : QS} (q : Q .next [some (.r (hp.length + 1)), some (.r hp.length), none, none] (hp ++ [.lst [], .inst 233 [(0, .r hp.length)]])) :
  p_Headers___init___t [some (.r (hp.length + 1)), some (.r hp.length), none, none] Q (hp ++ [.lst [], .inst 233 []]) := by
 unfold p_Headers___init___t sCons sIf
 simp only [bCmp, xCall, lCons, lNil, xVar, xG, List.getElem?_cons_zero, List.getElem?_cons_succ]
 unfold fType
 have e1 : dget (.r hp.length) (hp ++ [.lst [], .inst 233 []]) = some (.list []) := by unfold dget; simp
 simp only [e1, tyOf, opIsT, tyV, truthV, sNil, if_true, show ((Value.type "list" == Value.type "list")) = true from by decide, Bool.not_true]
 simp only [sSetF, xVar, List.getElem?_cons_zero, List.getElem?_cons_succ]
 unfold setF atI
 simp only [get_n1, set_n1]
 refine ⟨trivial, Nat.lt_succ_self _, ?_⟩
 simp only [bVal, cB, truthV, sFor, xVar, List.getElem?_cons_zero, List.getElem?_cons_succ]
 unfold iterV
 simp only [putFs, List.filter_nil, get_n0]
 exact ⟨get_n0, q⟩
theorem Step.flip {K : KX} {ρ : Rho} {p q : P} {h h' : Heap} (S : Step K ρ h (ρ ++ [p, q]) h') : Step K ρ h (ρ ++ [q, p]) h' :=
 ⟨List.prefix_append _ _, fun x hx => S.new x (mem_flip.mp hx), S.keep, S.dom⟩
theorem StepS.full {K : KX} {env : Env} {ρ ρ' : Rho} {h h₂ h' : Heap} (S₂ : Step K ρ h ρ h₂) (S : StepS K env ρ h₂ ρ' h') (np : ∀ b o, h.get? b = some o → ¬ Place env b) : Step K ρ h ρ' h' := by
 have T := S₂.toS (env := env) |>.trans S
 exact ⟨T.pre, T.new, fun b o e hb hm => T.keep b o e hb hm (np b o e), T.dom⟩
theorem two_more {K : KX} {ρ ρ₁ : Rho} {hp : List O} {a b : O} {h : Heap} {p : P} (H : HRel K ρ₁ (hp ++ [a, b]) h) (hl : ρ.length = hp.length) (hpre : ρ ++ [p] <+: ρ₁) : ∃ q, ρ₁ = ρ ++ [p, q] := by
 obtain ⟨t, rfl⟩ := hpre
 have := H.len
 simp only [List.length_append, List.length_cons, List.length_nil, hl] at this
 match t, (by lia : t.length = 1) with
 | [q], _ => exact ⟨q, by simp⟩
section
variable {K : KX} {Kf : W.Frag} {mg mb : Str → Option Value}
theorem S_Headers0 (N : S3 K Kf mg mb) : SoundF K 3 (.ref 233) [] F_Headers0 := by
 rintro A ok ρ hp s vas ras ks Q E hlen ⟨rfl, q⟩ H R
 obtain ⟨rfl, rfl⟩ : ras = [] ∧ ks = [] := by
  have := R.length
  simp only [List.length_nil, List.length_append] at this
  exact ⟨List.eq_nil_of_length_eq_zero (by omega), List.eq_nil_of_length_eq_zero (by omega)⟩
 obtain ⟨hh, g, d, t, os⟩ := s
 have Xn := N.X.now H
 refine W.make_core (W.makes_of Xn (cls_m N.c_Headers)) (W.looks_findIn Xn (met_f N.m_Headers___init__)) (fun self => W.bind_fn Xn self (met_t N.m_Headers___init__)) (.inl rfl) ?_
 have keep : ∀ b o, hh.get? b = some o → ((hh.push W.emptyDict).push (W.instObj 233 hh.objs.size)).get? b = some o := fun b o e => Heap.get?_push_of_some _ (Heap.get?_push_of_some _ e)
 have gx : ((hh.push W.emptyDict).push (W.instObj 233 hh.objs.size)).get? (hh.objs.size + 1) = some (W.instObj 233 hh.objs.size) := by
  have := Heap.get?_push_size (o := W.instObj 233 hh.objs.size) (hh.push W.emptyDict) rfl
  rwa [Heap.size_push] at this
 have gd : ((hh.push W.emptyDict).push (W.instObj 233 hh.objs.size)).get? hh.objs.size = some W.emptyDict := Heap.get?_push_of_some _ (Heap.get?_push_size _ rfl)
 have n1 : hh.get? hh.objs.size = none := get?_beyond (Nat.le_refl _)
 have n2 : hh.get? (hh.objs.size + 1) = none := get?_beyond (Nat.le_succ _)
 obtain ⟨H', S'⟩ := H.add keep (p := ⟨hh.objs.size + 1, hh.objs.size, [hh.objs.size + 1]⟩) (o := .inst 233 []) n1 ⟨_, gd⟩ (by
   intro a ha
   simp at ha; subst ha
   exact ⟨n2, ⟨_, gx⟩, Nat.succ_ne_self _⟩) (by
   refine ⟨_, _, fun _ => none, gx, rfl, rfl, rfl, by simp, gd, rfl, ⟨_, #[], 0, gd, rfl, (fun e he => by simp at he), (by unfold UniqKeys; simp), fun _ => rfl⟩, ?_, fun _ _ => rfl⟩
   intro k x hx
   rfl)
 generalize hpi : (⟨hh.objs.size + 1, hh.objs.size, [hh.objs.size + 1]⟩ : P) = pi at H' S'
 have hpa : pi.a = hh.objs.size + 1 := by rw [← hpi]
 generalize (hh.push W.emptyDict).push (W.instObj 233 hh.objs.size) = h0 at *
 have ok' : OkA 2 (A.under (.builtin "type.__call__" ⟨.ref 233 :: [], ([] : List Str).zip []⟩)) := by
  refine ⟨ok.hh, ?_, ?_⟩
  ·have := ok.dp
   have e := W.depth_under_kw A 233 [] (([] : List Str).zip [])
   rw [e]; omega
  ·have := ok.un
   have e : (A.under (.builtin "type.__call__" ⟨.ref 233 :: [], ([] : List Str).zip []⟩)).units = A.units + (Code.builtin "type.__call__" ⟨.ref 233 :: [], ([] : List Str).zip []⟩).cUnits := rfl
   have e2 : (Code.builtin "type.__call__" ⟨.ref 233 :: [], ([] : List Str).zip []⟩).cUnits ≤ 50 := by
    show 1 + 3 * 0 ≤ 50
    decide
   rw [e]; omega
 obtain ⟨fd, X, hd, hk⟩ := N.x_Headers___init__
 have hl : ρ.length = hp.length := H.len
 have R' : VRs (ρ ++ [pi]) h0 [.r hp.length, .d .none] [.ref pi.a, .none] := .cons ⟨pi, by rw [← hl]; simp, rfl⟩ (.cons (v := .d .none) (x := .none) DR.none .nil)
 have W' := f_goB (r := 1) (ps := ["self", "headers"]) (rest := (["k", "v"] : List Str)) (n := 2) (s := ⟨h0, g, d, t, os⟩) (E := E) (ras0 := [.ref (hh.objs.size + 1)])
  (Post := fun v s' => v = .none ∧ ∃ ρ' h' t', s' = ⟨h', g, d, t', os⟩ ∧ HRel K ρ' (hp ++ [.lst [], .inst 233 [(0, .r hp.length)]]) h' ∧ Step K ρ hh ρ' h' ∧ ρ'[hp.length + 1]? = some pi)
  N.G X (by decide) (kindsOk rfl) (noFree rfl) ok' H' R' rfl (by rw [← hpa]; exact W.kp_binds (N.X.now H') (fun S => N.bd0_Headers___init__ fd S _ hd hk)) ?_
 ·refine codeAny_mono W' ?_
  intro rr s' hr
  rcases rr with e | (v | _ | _ | _)
  ·exact hr
  all_goals first | exact hr.elim | skip
  obtain ⟨rfl, ρ', h', t', rfl, Hf, Sf, gp⟩ := hr
  exact ⟨rfl, .r (hp.length + 1), _, ρ', h', t', rfl, q, Hf, Sf, ⟨pi, gp, by rw [hpa]⟩⟩
 intro h₂ t₂ A' E' ok2 F H₂ S₂ np
 have hb : fBody (clAt 11 0) = (fBody (clAt 11 0)).getD 0 default :: (fBody (clAt 11 0)).drop 1 := rfl
 rw [hb]
 refine wpAny_execs_cons (wpAny_mono (w_Headers___init___s N fd A' ok2 [some (.r hp.length), some (.d .none), none, none] (fun fl vs' hp' => fl = .next ∧ vs' = [some (.r hp.length), some (.r (hp.length + 1)), none, none] ∧ hp' = hp ++ [.inst 233 [], .lst []])
  (hp ++ [.inst 233 []]) (ρ ++ [pi]) ⟨h₂, g, d, t₂, os⟩ E' ?_ F H₂) ?_ (fun _ _ x => x))
 ·have := x_init_s (n := hp.length) (hp := hp ++ [.inst 233 []]) (Q := fun fl vs' hp' => fl = .next ∧ vs' = [some (.r hp.length), some (.r (hp.length + 1)), none, none] ∧ hp' = hp ++ [.inst 233 [], .lst []]) ⟨rfl, by simp, by simp⟩
  exact this
 rintro fl s₃ ⟨af, vs', hp', ρ₃, h₃, t₃, rfl, ⟨rfl, rfl, rfl⟩, F₃, H₃, S₃, fr⟩
 cases fl <;> first | exact fr.elim | skip
 obtain ⟨pl, rfl⟩ := two_more H₃ hl S₃.pre
 dsimp only at F₃ H₃ S₃ ⊢
 have T₃ : Step K (ρ ++ [pi]) h0 (ρ ++ [pi, pl]) h₃ := StepS.full S₂ S₃ np
 have T₃' : Step K ρ hh (ρ ++ [pl, pi]) h₃ := (S'.trans T₃).flip
 have F₃' := F₃.flip
 have H₃' := H₃.flip hl
 have ev : ([some (.r hp.length), some (.r (hp.length + 1)), none, none] : List (Option V)).map (fun x => x.map (flipV ρ.length)) = [some (.r (hp.length + 1)), some (.r hp.length), none, none] := by
  simp [flipV, flipI, hl]
 rw [ev] at F₃'
 refine wpAny_mono (w_Headers___init___t N fd A' ok2 _ (fun fl vs' hp' => fl = .next ∧ hp' = hp ++ [.lst [], .inst 233 [(0, .r hp.length)]]) _ _ ⟨h₃, g, d, t₃, os⟩ E' (x_init_t ⟨rfl, rfl⟩) F₃' H₃') ?_ (fun _ _ x => x)
 rintro fl s₄ ⟨af, vs', hp', ρ₄, h₄, t₄, rfl, ⟨rfl, rfl⟩, F₄, H₄, S₄, fr⟩
 cases fl <;> first | exact fr.elim | skip
 have ST := T₃'.toS.trans S₄
 exact .inl ⟨rfl, rfl, ρ₄, h₄, t₄, rfl, H₄, ⟨ST.pre, ST.new, fun b o e hb hm => ST.keep b o e hb hm (np b o (keep b o e)), ST.dom⟩, pre_get S₄.pre (by rw [← hl]; simp)⟩
theorem e_new0 {r : Nat} {env : Env} {look : Str → Option Nat} (G : KG K mg mb) (X : KF K Kf) {f : Str} {C : Addr} {p pos : Pos} {F : FT} (hF : SoundF K r (.ref C) [] F)
  (hkp : W.keepIn Kf (.ref C) = true) (hk : env.kindOf f = some .globalImplicit) (hg : mg f = some (.ref C)) (hd : (f == ("__debug__" : Str)) = false) :
  SoundE K r env look (.Call (.Name f p) [] [] pos) (xCall F lNil) := by
 intro A ok vs Q hp ρ s E q FR H
 refine wpAny_Call_Name_kw (Calls.Name_function_global FR.kd hk (Calls.loadGlobal_global (mg := mg) ?_ hg ?_) hd)
 ·rw [FR.gl]; exact H.nsOf G.g G.g'
 refine W.callWith_K0 (X.now H) hkp ?_
 exact hF.call A ok ρ hp s [] [] [] Q E rfl q H .nil
theorem SoundV.le {r r' : Nat} {f : Value} {F : FT} (h : SoundV K r f F) (hr : r ≤ r') : SoundV K r' f F := fun A ok => h A (ok.le hr)
end
variable {K : KX} {Kf : W.Frag} {mg mb : Str → Option Value}
noncomputable def p_law0 : XS := (sAssign 1 (xCall F__law_moves (lCons (xVar 0) lNil)))
theorem w_law0 (N : S3 K Kf mg mb) (fd : FuncData) {a L : Addr} : SoundS K 9 (callEnvC (fdOf (stAt 25) fd) L a) (lk (["script", "moves", "page", "due", "letter", "image", "way", "lexer", "words", "book", "first", "second", "across", "p", "q", "r", "s"] : List Str)) ((fBody (stAt 25)).getD 0 default) p_law0 := by
 conv => arg 5; whnf
 refine s_assign ?_ ?_ ?_ ?_; refine e_call_fn N.G (fnAt_of N.x__law_moves) ?_ ?_ ?_ N.g__law_moves ?_ ?_; exact SoundF.le (S__law_moves N) (by lia); refine l_c ?_ ?_ ?_; exact e_var (.inl rfl) rfl rfl rfl; exact l_nil; exact rfl; exact rfl; exact rfl; exact se_any rfl; exact .inl rfl; exact rfl; exact rfl
noncomputable def p_law1 : XS := (sAssign 2 (xCall F_Headers0 lNil))
theorem w_law1 (N : S3 K Kf mg mb) (fd : FuncData) {a L : Addr} : SoundS K 9 (callEnvC (fdOf (stAt 25) fd) L a) (lk (["script", "moves", "page", "due", "letter", "image", "way", "lexer", "words", "book", "first", "second", "across", "p", "q", "r", "s"] : List Str)) ((fBody (stAt 25)).getD 1 default) p_law1 := by
 conv => arg 5; whnf
 refine s_assign ?_ ?_ ?_ ?_; refine e_new0 N.G N.X ?_ (cls_k N.c_Headers) ?_ N.g_Headers ?_; exact SoundF.le (S_Headers0 N) (by lia); exact rfl; exact rfl; exact .inl rfl; exact rfl; exact rfl
noncomputable def p_law2 : XS := (sAssign 3 (xList true lNil))
theorem w_law2 (N : S3 K Kf mg mb) (fd : FuncData) {a L : Addr} : SoundS K 9 (callEnvC (fdOf (stAt 25) fd) L a) (lk (["script", "moves", "page", "due", "letter", "image", "way", "lexer", "words", "book", "first", "second", "across", "p", "q", "r", "s"] : List Str)) ((fBody (stAt 25)).getD 2 default) p_law2 := by
 conv => arg 5; whnf
 refine s_assign ?_ ?_ ?_ ?_; refine e_list (m := true) ?_; exact l_nil; exact .inl rfl; exact rfl; exact rfl
noncomputable def p_law3 : XS := (sFor (tTuple 3 (tsCons (tName 4) (tsCons (tName 5) (tsCons (tName 6) tsNil)))) (xVar 1) (sCons (sExpr (xMeth 233 F_Headers_add_header (xVar 2) (lCons (xVar 4) (lCons (xCall F__law_written (lCons (xVar 5) (lCons (xVar 6) lNil))) lNil)) lNil))
 (sCons (sAug opIAdd 3 (xList false (lCons (xBin opAdd (xVar 4) (cS ":")) (lCons (xVar 5) lNil))))
 sNil)))
theorem w_law3 (N : S3 K Kf mg mb) (fd : FuncData) {a L : Addr} : SoundS K 9 (callEnvC (fdOf (stAt 25) fd) L a) (lk (["script", "moves", "page", "due", "letter", "image", "way", "lexer", "words", "book", "first", "second", "across", "p", "q", "r", "s"] : List Str)) ((fBody (stAt 25)).getD 3 default) p_law3 := by
 conv => arg 5; whnf
 refine s_for ?_ ?_ ?_ ?_; refine t_tuple ?_; refine ts_cons ?_ ?_ ?_; exact t_name (.inl rfl) rfl; refine ts_cons ?_ ?_ ?_; exact t_name (.inl rfl) rfl; refine ts_cons ?_ ?_ ?_; exact t_name (.inl rfl) rfl; exact ts_nil; exact rfl; exact rfl; exact rfl; exact e_var (.inl rfl) rfl rfl rfl; refine ss_cons ?_ ?_; refine s_expr ?_ ?_ ?_; refine e_meth_fn N.X N.x_Headers_add_header N.m_Headers_add_header ?_ ?_ ?_ ?_ ?_ ?_ ?_ ?_ ?_ ?_; exact SoundF.le (S_Headers_add_header N) (by lia); exact e_var (.inl rfl) rfl rfl rfl; refine l_c ?_ ?_ ?_; exact e_var (.inl rfl) rfl rfl rfl; refine l_c ?_ ?_ ?_; refine e_call_fn N.G (fnAt_of N.x__law_written) ?_ ?_ ?_ N.g__law_written ?_ ?_; exact SoundF.le (S__law_written N) (by lia); refine l_c ?_ ?_ ?_; exact e_var (.inl rfl) rfl rfl rfl; refine l_c ?_ ?_ ?_; exact e_var (.inl rfl) rfl rfl rfl; exact l_nil; exact rfl; exact rfl; exact rfl; exact rfl; exact se_any rfl; exact l_nil; exact rfl; exact rfl; exact k_nil; rw [N.attrs]; decide; exact rfl; exact rfl; exact rfl; exact rfl; exact rfl; exact rfl; exact rfl; refine ss_cons ?_ ?_; refine s_aug ?_ ?_ ?_ ?_; exact s_iadd; refine e_list ?_; refine l_c ?_ ?_ ?_; refine e_bin ?_ ?_ ?_; exact s_add; exact e_var (.inl rfl) rfl rfl rfl; exact e_str; refine l_c ?_ ?_ ?_; exact e_var (.inl rfl) rfl rfl rfl; exact l_nil; exact rfl; exact rfl; exact .inl rfl; exact rfl; exact ss_nil; exact fun _ => rfl
noncomputable def p_law5 : XS := (sAssign 8 (xComp false 1 (tName 0) (xCall fRange (lCons (xBin opAdd (xCall fLen (lCons (xVar 3) lNil)) (cI 1)) lNil)) iNil (xMeth 83 F__netrclex_get_token (xVar 8) lNil lNil)))
theorem w_law5 (N : S3 K Kf mg mb) (fd : FuncData) {a L : Addr} : SoundS K 9 (callEnvC (fdOf (stAt 25) fd) L a) (lk (["script", "moves", "page", "due", "letter", "image", "way", "lexer", "words", "book", "first", "second", "across", "p", "q", "r", "s"] : List Str)) ((fBody (stAt 25)).getD 5 default) p_law5 := by
 conv => arg 5; whnf
 refine s_assign ?_ ?_ ?_ ?_; refine e_compB ["k"] (m := false) ?_ ?_ ?_ ?_ ?_ ?_; refine e_tcall N.G ?_ ?_ ?_ N.range0 N.range1 ?_ ?_; exact f_range; refine l_c ?_ ?_ ?_; refine e_bin ?_ ?_ ?_; exact s_add; refine e_bcall N.G ?_ ?_ ?_ N.len0 N.len1 ?_ ?_; exact f_len; refine l_c ?_ ?_ ?_; exact e_var (.inl rfl) rfl rfl rfl; exact l_nil; exact rfl; exact rfl; exact rfl; exact rfl; exact e_int; exact l_nil; exact rfl; exact rfl; exact rfl; exact rfl; intro _ _; exact tl_name rfl rfl; intro _ _; exact i_nil; intro _ _; refine e_meth_fn N.X N.x__netrclex_get_token N.m__netrclex_get_token ?_ ?_ ?_ ?_ ?_ ?_ ?_ ?_ ?_ ?_; exact SoundF.le (S__netrclex_get_token N) (by lia); exact e_var (.inr (.inl rfl)) rfl rfl rfl; exact l_nil; exact k_nil; rw [N.attrs]; decide; exact rfl; exact rfl; exact rfl; exact rfl; exact rfl; exact rfl; exact fun _ => rfl; exact .inr rfl; exact rfl; exact rfl
noncomputable def p_law6 : XS := (sIf (bOr (bCmp opNe (xVar 8) (xBin opAdd (xVar 3) (xList false (lCons (cS "") lNil)))) (bCmp opNe (xUn (getF 83 1) (xVar 7)) (xBin opAdd (xCall fLen (lCons (xVar 1) lNil)) (cI 2)))) (sCons (sRet (cB false))
 sNil) sNil)
theorem w_law6 (N : S3 K Kf mg mb) (fd : FuncData) {a L : Addr} : SoundS K 9 (callEnvC (fdOf (stAt 25) fd) L a) (lk (["script", "moves", "page", "due", "letter", "image", "way", "lexer", "words", "book", "first", "second", "across", "p", "q", "r", "s"] : List Str)) ((fBody (stAt 25)).getD 6 default) p_law6 := by
 conv => arg 5; whnf
 refine s_if ?_ ?_ ?_; refine b_or ?_ ?_; refine b_cmp ?_ ?_ ?_ ?_; exact s_ne; exact e_var (.inr (.inl rfl)) rfl rfl rfl; refine e_bin ?_ ?_ ?_; exact s_add; exact e_var (.inl rfl) rfl rfl rfl; refine e_list ?_; refine l_c ?_ ?_ ?_; exact e_str; exact l_nil; exact rfl; exact rfl; refine b_cmp ?_ ?_ ?_ ?_; exact s_ne; refine e_attr (fld_get N.X N.c__netrclex N.f__netrclex_lineno (by rw [N.attrs] ; rfl)) ?_ ?_ ?_; exact e_var (.inr (.inl rfl)) rfl rfl rfl; exact rfl; exact fun _ _ => rfl; refine e_bin ?_ ?_ ?_; exact s_add; refine e_bcall N.G ?_ ?_ ?_ N.len0 N.len1 ?_ ?_; exact f_len; refine l_c ?_ ?_ ?_; exact e_var (.inl rfl) rfl rfl rfl; exact l_nil; exact rfl; exact rfl; exact rfl; exact rfl; exact e_int; exact rfl; refine ss_cons ?_ ?_; refine s_ret ?_; exact e_bool; exact ss_nil; exact ss_nil
noncomputable def p_law7 : XS := (sAssign 9 (xCall F__law_book (lCons (xVar 1) lNil)))
theorem w_law7 (N : S3 K Kf mg mb) (fd : FuncData) {a L : Addr} : SoundS K 9 (callEnvC (fdOf (stAt 25) fd) L a) (lk (["script", "moves", "page", "due", "letter", "image", "way", "lexer", "words", "book", "first", "second", "across", "p", "q", "r", "s"] : List Str)) ((fBody (stAt 25)).getD 7 default) p_law7 := by
 conv => arg 5; whnf
 refine s_assign ?_ ?_ ?_ ?_; refine e_call_fn N.G (fnAt_of N.x__law_book) ?_ ?_ ?_ N.g__law_book ?_ ?_; exact SoundF.le (S__law_book N) (by lia); refine l_c ?_ ?_ ?_; exact e_var (.inl rfl) rfl rfl rfl; exact l_nil; exact rfl; exact rfl; exact rfl; exact se_any rfl; exact .inl rfl; exact rfl; exact rfl
noncomputable def p_law8 : XS := (sAssign 10 (xMeth 233 F_Headers_get (xVar 9) (lCons (cS "a") lNil) lNil))
theorem w_law8 (N : S3 K Kf mg mb) (fd : FuncData) {a L : Addr} : SoundS K 9 (callEnvC (fdOf (stAt 25) fd) L a) (lk (["script", "moves", "page", "due", "letter", "image", "way", "lexer", "words", "book", "first", "second", "across", "p", "q", "r", "s"] : List Str)) ((fBody (stAt 25)).getD 8 default) p_law8 := by
 conv => arg 5; whnf
 refine s_assign ?_ ?_ ?_ ?_; refine e_meth_fnD N.X N.x_Headers_get N.m_Headers_get ?_ ?_ ?_ ?_ ?_ ?_ ?_ ?_ ?_ ?_; exact SoundF.le (S_Headers_get N) (by lia); exact e_var (.inl rfl) rfl rfl rfl; refine l_c ?_ ?_ ?_; exact e_str; exact l_nil; exact rfl; exact k_nil; rw [N.attrs]; decide; exact rfl; exact rfl; exact rfl; exact rfl; exact rfl; exact .inl rfl; exact rfl; exact rfl
noncomputable def p_law9 : XS := (sAssign 11 (xMeth 233 F_Headers_get (xVar 9) (lCons (cS "B") lNil) lNil))
theorem w_law9 (N : S3 K Kf mg mb) (fd : FuncData) {a L : Addr} : SoundS K 9 (callEnvC (fdOf (stAt 25) fd) L a) (lk (["script", "moves", "page", "due", "letter", "image", "way", "lexer", "words", "book", "first", "second", "across", "p", "q", "r", "s"] : List Str)) ((fBody (stAt 25)).getD 9 default) p_law9 := by
 conv => arg 5; whnf
 refine s_assign ?_ ?_ ?_ ?_; refine e_meth_fnD N.X N.x_Headers_get N.m_Headers_get ?_ ?_ ?_ ?_ ?_ ?_ ?_ ?_ ?_ ?_; exact SoundF.le (S_Headers_get N) (by lia); exact e_var (.inl rfl) rfl rfl rfl; refine l_c ?_ ?_ ?_; exact e_str; exact l_nil; exact rfl; exact k_nil; rw [N.attrs]; decide; exact rfl; exact rfl; exact rfl; exact rfl; exact rfl; exact .inl rfl; exact rfl; exact rfl
noncomputable def p_law10 : XS := (sAssign 12 (xCall F__law_product (lCons (xList false (lCons (xVar 10) (lCons (xVar 11) (lCons (xCall F__law_back (lCons (xVar 10) lNil)) (lCons (xCall F__law_back (lCons (xVar 11) lNil)) lNil))))) lNil)))
theorem w_law10 (N : S3 K Kf mg mb) (fd : FuncData) {a L : Addr} : SoundS K 9 (callEnvC (fdOf (stAt 25) fd) L a) (lk (["script", "moves", "page", "due", "letter", "image", "way", "lexer", "words", "book", "first", "second", "across", "p", "q", "r", "s"] : List Str)) ((fBody (stAt 25)).getD 10 default) p_law10 := by
 conv => arg 5; whnf
 refine s_assign ?_ ?_ ?_ ?_; refine e_call_fn N.G (fnAt_of N.x__law_product) ?_ ?_ ?_ N.g__law_product ?_ ?_; exact SoundF.le (S__law_product N) (by lia); refine l_c ?_ ?_ ?_; refine e_list ?_; refine l_c ?_ ?_ ?_; exact e_var (.inl rfl) rfl rfl rfl; refine l_c ?_ ?_ ?_; exact e_var (.inl rfl) rfl rfl rfl; refine l_c ?_ ?_ ?_; refine e_call_fn N.G (fnAt_of N.x__law_back) ?_ ?_ ?_ N.g__law_back ?_ ?_; exact SoundF.le (S__law_back N) (by lia); refine l_c ?_ ?_ ?_; exact e_var (.inl rfl) rfl rfl rfl; exact l_nil; exact rfl; exact rfl; exact rfl; exact se_any rfl; refine l_c ?_ ?_ ?_; refine e_call_fn N.G (fnAt_of N.x__law_back) ?_ ?_ ?_ N.g__law_back ?_ ?_; exact SoundF.le (S__law_back N) (by lia); refine l_c ?_ ?_ ?_; exact e_var (.inl rfl) rfl rfl rfl; exact l_nil; exact rfl; exact rfl; exact rfl; exact se_any rfl; exact l_nil; exact rfl; exact rfl; exact rfl; exact rfl; exact l_nil; exact rfl; exact rfl; exact rfl; exact se_any rfl; exact .inl rfl; exact rfl; exact rfl
noncomputable def p_law11 : XS := (sIf (bCmp opNe (xComp false 1 (tName 0) (xList false (lStrs ["a", "b", "abAB"])) iNil (xCall F__law_put_in (lCons (xVar 0) (lCons (xVar 9) lNil)))) (xList false (lCons (xVar 10) (lCons (xVar 11) (lCons (xVar 12) lNil))))) (sCons (sRet (cB false))
 sNil) sNil)
theorem w_law11 (N : S3 K Kf mg mb) (fd : FuncData) {a L : Addr} : SoundS K 9 (callEnvC (fdOf (stAt 25) fd) L a) (lk (["script", "moves", "page", "due", "letter", "image", "way", "lexer", "words", "book", "first", "second", "across", "p", "q", "r", "s"] : List Str)) ((fBody (stAt 25)).getD 11 default) p_law11 := by
 conv => arg 5; whnf
 refine s_if ?_ ?_ ?_; refine b_cmp ?_ ?_ ?_ ?_; exact s_ne; refine e_compB ["text"] (m := false) ?_ ?_ ?_ ?_ ?_ ?_; refine e_list ?_; refine l_strs ?_; (focus repeat constructor); intro _ _; exact tl_name rfl rfl; intro _ _; exact i_nil; intro _ _; refine e_call_fn N.G (fnAt_of N.x__law_put_in) ?_ ?_ ?_ N.g__law_put_in ?_ ?_; exact SoundF.le (S__law_put_in N) (by lia); refine l_c ?_ ?_ ?_; exact e_var (.inl rfl) rfl rfl rfl; refine l_c ?_ ?_ ?_; exact e_var (.inr (.inl rfl)) rfl rfl rfl; exact l_nil; exact rfl; exact rfl; exact rfl; exact rfl; exact se_any rfl; exact rfl; exact fun _ => rfl; refine e_list ?_; refine l_c ?_ ?_ ?_; exact e_var (.inl rfl) rfl rfl rfl; refine l_c ?_ ?_ ?_; exact e_var (.inl rfl) rfl rfl rfl; refine l_c ?_ ?_ ?_; exact e_var (.inl rfl) rfl rfl rfl; exact l_nil; exact rfl; exact rfl; exact rfl; exact rfl; refine ss_cons ?_ ?_; refine s_ret ?_; exact e_bool; exact ss_nil; exact ss_nil
noncomputable def p_law12 : XS := (sAssignT (tTuple 2 (tsCons (tTuple 2 (tsCons (tName 13) (tsCons (tName 14) tsNil))) (tsCons (tTuple 2 (tsCons (tName 15) (tsCons (tName 16) tsNil))) tsNil))) (xCall F__law_sums (lCons (xVar 1) lNil)))
theorem w_law12 (N : S3 K Kf mg mb) (fd : FuncData) {a L : Addr} : SoundS K 9 (callEnvC (fdOf (stAt 25) fd) L a) (lk (["script", "moves", "page", "due", "letter", "image", "way", "lexer", "words", "book", "first", "second", "across", "p", "q", "r", "s"] : List Str)) ((fBody (stAt 25)).getD 12 default) p_law12 := by
 conv => arg 5; whnf
 refine s_assignT ?_ ?_ ?_ ?_; refine e_call_fn N.G (fnAt_of N.x__law_sums) ?_ ?_ ?_ N.g__law_sums ?_ ?_; exact SoundF.le (S__law_sums N) (by lia); refine l_c ?_ ?_ ?_; exact e_var (.inl rfl) rfl rfl rfl; exact l_nil; exact rfl; exact rfl; exact rfl; exact se_any rfl; refine t_tuple ?_; refine ts_cons ?_ ?_ ?_; refine t_tuple ?_; refine ts_cons ?_ ?_ ?_; exact t_name (.inl rfl) rfl; refine ts_cons ?_ ?_ ?_; exact t_name (.inl rfl) rfl; exact ts_nil; exact rfl; exact rfl; refine ts_cons ?_ ?_ ?_; refine t_tuple ?_; refine ts_cons ?_ ?_ ?_; exact t_name (.inl rfl) rfl; refine ts_cons ?_ ?_ ?_; exact t_name (.inl rfl) rfl; exact ts_nil; exact rfl; exact rfl; exact ts_nil; exact rfl; exact rfl; exact rfl; exact rfl
noncomputable def p_law13 : XS := (sIf (bOr (bNot (bVal (xCall F__law_is_ring (lCons (xVar 10) (lCons (xCall F__law_line (lCons (xVar 13) (lCons (xVar 14) lNil))) lNil))))) (bNot (bVal (xCall F__law_is_ring (lCons (xVar 11) (lCons (xCall F__law_line (lCons (xVar 15) (lCons (xVar 16) lNil))) lNil)))))) (sCons (sRet (cB false))
 sNil) sNil)
theorem w_law13 (N : S3 K Kf mg mb) (fd : FuncData) {a L : Addr} : SoundS K 9 (callEnvC (fdOf (stAt 25) fd) L a) (lk (["script", "moves", "page", "due", "letter", "image", "way", "lexer", "words", "book", "first", "second", "across", "p", "q", "r", "s"] : List Str)) ((fBody (stAt 25)).getD 13 default) p_law13 := by
 conv => arg 5; whnf
 refine s_if ?_ ?_ ?_; refine b_or ?_ ?_; refine b_not ?_; refine b_val ?_ ?_; refine e_call_fn N.G (fnAt_of N.x__law_is_ring) ?_ ?_ ?_ N.g__law_is_ring ?_ ?_; exact SoundF.le (S__law_is_ring N) (by lia); refine l_c ?_ ?_ ?_; exact e_var (.inl rfl) rfl rfl rfl; refine l_c ?_ ?_ ?_; refine e_call_fn N.G (fnAt_of N.x__law_line) ?_ ?_ ?_ N.g__law_line ?_ ?_; exact SoundF.le (S__law_line N) (by lia); refine l_c ?_ ?_ ?_; exact e_var (.inl rfl) rfl rfl rfl; refine l_c ?_ ?_ ?_; exact e_var (.inl rfl) rfl rfl rfl; exact l_nil; exact rfl; exact rfl; exact rfl; exact rfl; exact se_any rfl; exact l_nil; exact rfl; exact rfl; exact rfl; exact rfl; exact se_any rfl; exact fun _ => rfl; refine b_not ?_; refine b_val ?_ ?_; refine e_call_fn N.G (fnAt_of N.x__law_is_ring) ?_ ?_ ?_ N.g__law_is_ring ?_ ?_; exact SoundF.le (S__law_is_ring N) (by lia); refine l_c ?_ ?_ ?_; exact e_var (.inl rfl) rfl rfl rfl; refine l_c ?_ ?_ ?_; refine e_call_fn N.G (fnAt_of N.x__law_line) ?_ ?_ ?_ N.g__law_line ?_ ?_; exact SoundF.le (S__law_line N) (by lia); refine l_c ?_ ?_ ?_; exact e_var (.inl rfl) rfl rfl rfl; refine l_c ?_ ?_ ?_; exact e_var (.inl rfl) rfl rfl rfl; exact l_nil; exact rfl; exact rfl; exact rfl; exact rfl; exact se_any rfl; exact l_nil; exact rfl; exact rfl; exact rfl; exact rfl; exact se_any rfl; exact fun _ => rfl; refine ss_cons ?_ ?_; refine s_ret ?_; exact e_bool; exact ss_nil; exact ss_nil
noncomputable def p_law14 : XS := (sRet (xAnd (xBin opEq (xMeth 233 F_Headers_keys (xVar 9) lNil lNil) (xCall F__law_names (lCons (xVar 1) lNil))) (xCall F__law_is_ring (lCons (xVar 12) (lCons (xIte (bCmp opEq (xBin opSub (xBin opMul (xVar 13) (xVar 16)) (xBin opMul (xVar 14) (xVar 15))) (cI 1)) (cS "abAB") (cS "baBA")) lNil)))))
theorem w_law14 (N : S3 K Kf mg mb) (fd : FuncData) {a L : Addr} : SoundS K 9 (callEnvC (fdOf (stAt 25) fd) L a) (lk (["script", "moves", "page", "due", "letter", "image", "way", "lexer", "words", "book", "first", "second", "across", "p", "q", "r", "s"] : List Str)) ((fBody (stAt 25)).getD 14 default) p_law14 := by
 conv => arg 5; whnf
 refine s_ret ?_; refine e_and ?_ ?_; refine e_cmp ?_ ?_ ?_ ?_; exact s_eq; refine e_meth_fn N.X N.x_Headers_keys N.m_Headers_keys ?_ ?_ ?_ ?_ ?_ ?_ ?_ ?_ ?_ ?_; exact SoundF.le (S_Headers_keys N) (by lia); exact e_var (.inl rfl) rfl rfl rfl; exact l_nil; exact k_nil; rw [N.attrs]; decide; exact rfl; exact rfl; exact rfl; exact rfl; exact rfl; refine e_call_fn N.G (fnAt_of N.x__law_names) ?_ ?_ ?_ N.g__law_names ?_ ?_; exact SoundF.le (S__law_names N) (by lia); refine l_c ?_ ?_ ?_; exact e_var (.inl rfl) rfl rfl rfl; exact l_nil; exact rfl; exact rfl; exact rfl; exact se_any rfl; exact rfl; refine e_call_fn N.G (fnAt_of N.x__law_is_ring) ?_ ?_ ?_ N.g__law_is_ring ?_ ?_; exact SoundF.le (S__law_is_ring N) (by lia); refine l_c ?_ ?_ ?_; exact e_var (.inl rfl) rfl rfl rfl; refine l_c ?_ ?_ ?_; refine e_ite ?_ ?_ ?_; refine b_cmp ?_ ?_ ?_ ?_; exact s_eq; refine e_bin ?_ ?_ ?_; exact s_sub; refine e_bin ?_ ?_ ?_; exact s_mul; exact e_var (.inl rfl) rfl rfl rfl; exact e_var (.inl rfl) rfl rfl rfl; refine e_bin ?_ ?_ ?_; exact s_mul; exact e_var (.inl rfl) rfl rfl rfl; exact e_var (.inl rfl) rfl rfl rfl; exact e_int; exact rfl; exact e_str; exact e_str; exact l_nil; exact rfl; exact rfl; exact rfl; exact rfl; exact se_any rfl
end Mine
namespace Mine
open PySem
theorem fmodB (x : Int) {n : Int} (hn : 0 < n) : 0 ≤ x.fmod n ∧ x.fmod n < n := by
 rw [Int.fmod_eq_emod_of_nonneg x (by lia)]
 exact ⟨Int.emod_nonneg x (by lia), Int.emod_lt_of_pos x hn⟩
noncomputable abbrev ch (c : Nat) : Str := ⟨#[c]⟩
noncomputable abbrev mkS (l : List Nat) : Str := ⟨l.toArray⟩
noncomputable def wsS : Str := "\n\t\r "
noncomputable def isWs (c : Nat) : Bool := c == 10 || c == 9 || c == 13 || c == 32
theorem ws_all : ∀ c : Fin 128, Txt.contains wsS (ch c.val) = isWs c.val := by decide +kernel
theorem ws_of {c : Nat} (h : c < 128) : Txt.contains wsS (ch c) = isWs c := ws_all ⟨c, h⟩
theorem ch_beq (c d : Nat) : ((ch c) == (ch d)) = (c == d) := by
 by_cases h : c = d
 ·subst h; simp
 ·have : ch c ≠ ch d := by intro e; cases e; exact h rfl
  rw [beq_eq_false_iff_ne.mpr this, beq_eq_false_iff_ne.mpr h]
theorem mkS_snoc (t : List Nat) (c : Nat) : mkS t ++ ch c = mkS (t ++ [c]) := by
 show (⟨_ ++ _⟩ : Str) = _
 simp
theorem mkS_nil (t : List Nat) : mkS t ++ mkS [] = mkS t := by
 show (⟨_ ++ _⟩ : Str) = _
 simp
theorem mkS_len (t : List Nat) : (mkS t).length = t.length := by show t.toArray.size = _; simp
noncomputable def okl (l : List Nat) : Prop := l.length ≤ 2 ^ 20 ∧ ∀ c ∈ l, c < 128
theorem okD_strs {l : List PyData} (h : ∀ x ∈ l, ∃ y, x = .str y ∧ PyData.strOk y = true) : okD (.list l) = true := by
 have k : PyData.canLayAll0 l = true ∧ PyData.depthAll l = 0 := by
  induction l with
  | nil => exact ⟨rfl, rfl⟩
  | cons x xs ih =>
   obtain ⟨y, rfl, hy⟩ := h x List.mem_cons_self
   obtain ⟨a, b⟩ := ih (fun z hz => h z (List.mem_cons_of_mem _ hz))
   refine ⟨?_, ?_⟩
   ·simp only [PyData.canLayAll0, PyData.canLay0, hy, a, Bool.and_self]
   ·simp only [PyData.depthAll, PyData.depth, b]; rfl
 unfold okD
 simp only [PyData.canLay0, PyData.depth, k.1, k.2]
 decide
theorem okD_strL {l : List Nat} (h : ∀ c ∈ l, c < 128) : okD (strL l) = true := by
 refine okD_strs ?_
 intro x hx
 obtain ⟨c, hc, rfl⟩ := List.mem_map.mp hx
 refine ⟨_, rfl, ?_⟩
 have := h c (by simpa using hc)
 unfold PyData.strOk
 simp; lia
structure Lx (hp : List O) (il is : Nat) (n : Int) (l : List Nat) : Prop where
 ne : il ≠ is
 ob : ∃ fs, hp[il]? = some (.inst 83 fs) ∧ fs.lookup 1 = some (.d (.int n)) ∧ fs.lookup 2 = some (.r is) ∧ fs.lookup 3 = some (.d (.str wsS)) ∧ fs.lookup 4 = some (.d (.list []))
 st : hp[is]? = some (.stream l)
 ok : okl l
noncomputable def Kp (S : List Nat) (hp hp' : List O) : Prop := hp'.length = hp.length ∧ ∀ k, k ∉ S → hp'[k]? = hp[k]?
theorem Kp.refl (S : List Nat) (hp : List O) : Kp S hp hp := ⟨rfl, fun _ _ => rfl⟩
theorem Kp.trans {S : List Nat} {a b c : List O} (x : Kp S a b) (y : Kp S b c) : Kp S a c := ⟨y.1.trans x.1, fun k hk => (y.2 k hk).trans (x.2 k hk)⟩
theorem Kp.mono {S T : List Nat} {a b : List O} (x : Kp S a b) (h : ∀ k ∈ S, k ∈ T) : Kp T a b := ⟨x.1, fun k hk => x.2 k (fun q => hk (h k q))⟩
theorem Kp.set {S : List Nat} {hp : List O} {i : Nat} {o : O} (h : i ∈ S) : Kp S hp (hp.set i o) := ⟨by simp, fun k hk => by rw [List.getElem?_set_ne]; rintro rfl; exact hk h⟩
noncomputable def nl (c : Nat) : Int := if c = 10 then 1 else 0
noncomputable def hd (l : List Nat) : List Nat := l.take 1
noncomputable def nlh : List Nat → Int | [] => 0 | c :: _ => nl c
theorem set_get {hp : List O} {i : Nat} {o o' : O} (h : hp[i]? = some o) : (hp.set i o')[i]? = some o' := by
 rw [List.getElem?_set_self' ]; simp [h]
theorem fin_len {n : Nat} {Q : V → List O → Prop} {x : PyData} {hp : List O} (h : hp.length = n) (q : Q (.d x) hp) : fin false n Q (.d x) hp := by
 show Q _ (hp.take n)
 rw [← h, List.take_length]; exact q
theorem getF_go {C : Addr} {k i : Nat} {fs : List (Nat × V)} {w : V} {Q : V → List O → Prop} {hp : List O} (e : hp[i]? = some (.inst C fs)) (f : fs.lookup k = some w) (q : Q w hp) : getF C k (.r i) Q hp := by
 unfold getF atI
 simp only [e, f]
 exact ⟨trivial, q⟩
theorem setF_go {C : Addr} {k i : Nat} {fs : List (Nat × V)} {w : PyData} {Q : List O → Prop} {hp : List O} (e : hp[i]? = some (.inst C fs)) (q : Q (hp.set i (.inst C (putFs k (.d w) fs)))) : setF C k (.r i) (.d w) Q hp := by
 unfold setF atI
 simp only [e]
 exact ⟨trivial, trivial, q⟩
theorem c_read {il is : Nat} {n : Int} {l : List Nat} {hp : List O} {Q : V → List O → Prop} (L : Lx hp il is n l)
  (q : ∀ hp', Kp [il, is] hp hp' → Lx hp' il is (n + nlh l) l.tail → Q (.d (.str (mkS (hd l)))) hp') : F__netrclex__read_char [.r il] Q hp := by
 obtain ⟨ne, ⟨fs, e1, f1, f2, f3, f4⟩, st, ok⟩ := L
 simp only [F__netrclex__read_char, runFn, bPlain, p__netrclex__read_char, sCons, sAssign, xRead, xUn, xVar, sIf, bCmp, sAugF, sRet, cI, cS, sNil, List.map_cons, List.map_nil, List.replicate, List.cons_append, List.nil_append, List.getElem?_cons_zero, List.getElem?_cons_succ, List.set_cons_zero, List.set_cons_succ]
 refine ⟨rfl, ?_⟩
 refine getF_go e1 f2 ?_
 show readS is _ hp
 unfold readS
 rw [st]
 cases l with
 | nil =>
  refine fin_len rfl (q hp (Kp.refl _ _) ⟨ne, ⟨fs, e1, ?_, f2, f3, f4⟩, st, ok⟩)
  simpa [nlh] using f1
 | cons c l =>
  have okt : okl l := ⟨Nat.le_trans (Nat.le_succ _) ok.1, fun d hd => ok.2 d (List.mem_cons_of_mem _ hd)⟩
  refine ⟨⟨Nat.le_trans ok.1 (by rw [sizeLine_eq]; decide), okD_strL ok.2⟩, ?_⟩
  have s1 : (hp.set is (.stream l))[is]? = some (.stream l) := set_get st
  have s2 : (hp.set is (.stream l))[il]? = some (.inst 83 fs) := by rw [List.getElem?_set_ne (Ne.symm ne)]; exact e1
  have hb : ((ch c) == ("\n" : Str)) = (c == 10) := by rw [show (("\n" : Str)) = ch 10 from by decide, ch_beq]
  simp only [opEq, truthV, hb]
  by_cases h : c = 10
  ·subst h
   refine getF_go s2 f1 (setF_go s2 ?_)
   refine fin_len (by simp) (q _ ?_ ⟨ne, ⟨_, set_get s2, ?_, ?_, ?_, ?_⟩, ?_, okt⟩)
   ·exact (Kp.set (by simp)).trans (Kp.set (by simp))
   ·rw [putFs_look]; simp [nlh, nl]
   ·rw [putFs_look]; simp [f2]
   ·rw [putFs_look]; simp [f3]
   ·rw [putFs_look]; simp [f4]
   ·rw [List.getElem?_set_ne ne]; exact s1
  ·have : (c == 10) = false := by simpa using h
   rw [this]
   refine fin_len (by simp) (q _ (Kp.set (by simp)) ⟨ne, ⟨fs, s2, ?_, f2, f3, f4⟩, s1, okt⟩)
   simpa [nlh, nl, h] using f1
theorem Lx.keep {hp hp' : List O} {il is ic : Nat} {n : Int} {l : List Nat} {o : O} (L : Lx hp il is n l) (h1 : ic ≠ il) (h2 : ic ≠ is) : Lx (hp.set ic o) il is n l := by
 obtain ⟨ne, ⟨fs, e1, f⟩, st, ok⟩ := L
 exact ⟨ne, ⟨fs, by rw [List.getElem?_set_ne h1]; exact e1, f⟩, by rw [List.getElem?_set_ne h2]; exact st, ok⟩
theorem c_next {ic il is : Nat} {n : Int} {l : List Nat} {hp : List O} {Q : Option V → List O → Prop} (L : Lx hp il is n l) (hc : hp[ic]? = some (.citer (some il))) (h1 : ic ≠ il) (h2 : ic ≠ is)
  (q : ∀ hp', Kp [il, is, ic] hp hp' → Lx hp' il is (n + nlh l) l.tail → match l with | [] => hp'[ic]? = some (.citer none) → Q none hp' | c :: _ => hp'[ic]? = some (.citer (some il)) → Q (some (.d (.str (ch c)))) hp') : nextC ic F__netrclex__read_char Q hp := by
 unfold nextC
 rw [hc]
 refine c_read L ?_
 intro hp' k L'
 have hc' : hp'[ic]? = some (.citer (some il)) := (k.2 ic (by simp [h1, h2])).trans hc
 refine ⟨hc', ?_⟩
 cases l with
 | nil =>
  show (if (⟨#[]⟩ : Str) = mkS (hd []) then _ else _)
  rw [if_pos (by rfl)]
  exact q _ ((k.mono (by simp)).trans (Kp.set (by simp))) (L'.keep (hp' := hp') h1 h2) (set_get hc')
 | cons c l =>
  show (if (⟨#[]⟩ : Str) = mkS (hd (c :: l)) then _ else _)
  rw [if_neg (by intro e; cases e)]
  exact q _ (k.mono (by simp)) L' hc'
noncomputable def tL (e : Nat → Bool) : Bool → List Nat → List Nat × List Nat × Int
 | _, [] => ([], [], 0)
 | true, c :: l => (c :: (tL e false l).1, (tL e false l).2.1, nl c + (tL e false l).2.2)
 | false, c :: l => if e c then ([], l, nl c) else if c = 92 then tL e true l else (c :: (tL e false l).1, (tL e false l).2.1, nl c + (tL e false l).2.2)
noncomputable def bT (T : XB) : XS := sCons (sIf T (sCons (sRet (xVar 1)) sNil) (sCons (sIf (bCmp opEq (xVar 3) (cS "\\")) (sCons (sAssign 3 (xMeth 83 F__netrclex__read_char (xVar 0) lNil lNil)) sNil) sNil) sNil)) (sCons (sAug opIAdd 1 (xVar 3)) sNil)
theorem c_t {T : XB} {e : Nat → Bool} {ic il is : Nat} (h1 : ic ≠ il) (h2 : ic ≠ is) (he : e 92 = false)
    (hT : ∀ (t : V) hp n l c Q, Lx hp il is n l → c < 128 → Q (e c) hp → T [some (.r il), some t, some (.r ic), some (.d (.str (ch c)))] Q hp) :
    ∀ (m : Nat) (l : List Nat), l.length ≤ m → ∀ (t : List Nat) (n : Int) (hp : List O) (o : Option V) (Q : QS), Lx hp il is n l → hp[ic]? = some (.citer (some il)) → t.length + l.length ≤ 2 ^ 20 →
    (∀ hp', Kp [il, is, ic] hp hp' → Lx hp' il is (n + (tL e false l).2.2) (tL e false l).2.1 → ∀ o',
      Q (.ret (.d (.str (mkS (t ++ (tL e false l).1))))) [some (.r il), some (.d (.str (mkS (t ++ (tL e false l).1)))), some (.r ic), o'] hp' ∧
      (hp'[ic]? = some (.citer none) → Q .next [some (.r il), some (.d (.str (mkS (t ++ (tL e false l).1)))), some (.r ic), o'] hp')) →
    ∀ k, l.length < k → forC ic F__netrclex__read_char (tName 3) (bT T) Q k [some (.r il), some (.d (.str (mkS t))), some (.r ic), o] hp := by
  intro m
  induction m with
  | zero =>
    intro l hl t n hp o Q L hc hz q k hk
    have : l = [] := List.length_eq_zero_iff.mp (Nat.le_zero.mp hl)
    subst this
    obtain ⟨k, rfl⟩ : ∃ j, k = j + 1 := ⟨k - 1, by lia⟩
    refine c_next L hc h1 h2 fun hp' kp L' hn => ?_
    have := (q hp' kp (by simpa [tL, nlh] using L') o).2 hn
    simpa [tL] using this
  | succ m ih =>
    intro l hl t n hp o Q L hc hz q k hk
    obtain ⟨k, rfl⟩ : ∃ j, k = j + 1 := ⟨k - 1, by lia⟩
    cases l with
    | nil =>
      refine c_next L hc h1 h2 fun hp' kp L' hn => ?_
      have := (q hp' kp (by simpa [tL, nlh] using L') o).2 hn
      simpa [tL] using this
    | cons c l =>
      have hcc : c < 128 := L.ok.2 c List.mem_cons_self
      have hl' : l.length ≤ m := by simpa using hl
      have hk' : l.length < k := by simpa using hk
      have bsl : ((ch c) == ("\\" : Str)) = (c == 92) := by rw [show (("\\" : Str)) = ch 92 from by decide, ch_beq]
      refine c_next L hc h1 h2 fun hp' kp L' hn => ?_
      simp only [tName, bT, sCons, sIf, List.set_cons_succ, List.set_cons_zero]
      refine hT _ _ _ _ _ _ L' hcc ?_
      have step : ∀ (d : Nat) (l' : List Nat) hp₂ n₂, Kp [il, is, ic] hp hp₂ → Lx hp₂ il is n₂ l' → hp₂[ic]? = some (.citer (some il)) → l'.length < k → l'.length ≤ m → t.length + l'.length + 1 ≤ 2 ^ 20 →
          tL e false (c :: l) = (d :: (tL e false l').1, (tL e false l').2.1, (n₂ - n) + (tL e false l').2.2) →
          sAug opIAdd 1 (xVar 3) [some (.r il), some (.d (.str (mkS t))), some (.r ic), some (.d (.str (ch d)))] (fun fl vs' hp => match fl with
            | .next => sNil vs' (fun fl vs'' hp'' => match fl with
              | .next => forC ic F__netrclex__read_char (tName 3) (bT T) Q k vs'' hp''
              | .cont => forC ic F__netrclex__read_char (tName 3) (bT T) Q k vs'' hp''
              | .brk => Q .next vs'' hp''
              | .ret v => Q (.ret v) vs'' hp'') hp
            | fl => (fun fl vs'' hp'' => match fl with
              | .next => forC ic F__netrclex__read_char (tName 3) (bT T) Q k vs'' hp''
              | .cont => forC ic F__netrclex__read_char (tName 3) (bT T) Q k vs'' hp''
              | .brk => Q .next vs'' hp''
              | .ret v => Q (.ret v) vs'' hp'') fl vs' hp) hp₂ := by
        intro d l' hp₂ n₂ kp₂ L₂ hn₂ hk₂ hm₂ hz₂ hd
        refine ⟨?_, ?_⟩
        · rw [mkS_len]; show _ + 1 ≤ _; rw [sizeLine_eq]; lia
        · show forC ic F__netrclex__read_char (tName 3) (bT T) Q k [some (.r il), some (.d (.str (mkS t ++ ch d))), some (.r ic), some (.d (.str (ch d)))] hp₂
          rw [mkS_snoc]
          refine ih l' hm₂ _ _ _ _ _ L₂ hn₂ (by simp; lia) ?_ k hk₂
          intro hp₃ kp₃ L₃ o'
          have := q hp₃ (kp₂.trans kp₃) (by rw [hd]; have e : n₂ + (tL e false l').2.2 = n + (n₂ - n + (tL e false l').2.2) := by lia
                                            rw [e] at L₃; exact L₃) o'
          rw [hd] at this
          simpa using this
      by_cases hec : e c = true
      · simp only [hec, sRet, xVar, List.getElem?_cons_zero, List.getElem?_cons_succ]
        have := (q hp' kp (by simpa [tL, hec, nlh] using L') (some (.d (.str (ch c))))).1
        simpa [tL, hec] using this
      · have hec' : e c = false := by simpa using hec
        simp only [hec', bCmp, xVar, List.getElem?_cons_zero, List.getElem?_cons_succ, cS, opEq, truthV, bsl]
        by_cases h92 : c = 92
        · subst h92
          obtain ⟨fs, e1, _⟩ := L'.ob
          have hat : atI (.r il) hp' 83 (fun _ _ => True) := by unfold atI; simp only [e1]; exact ⟨trivial, trivial⟩
          refine ⟨hat, c_read L' ?_⟩
          intro hp₂ kp₂ L₂
          have kp' : Kp [il, is, ic] hp hp₂ := kp.trans (kp₂.mono (by simp))
          have hn₂ : hp₂[ic]? = some (.citer (some il)) := (kp₂.2 ic (by simp [h1, h2])).trans hn
          cases l with
          | nil =>
            refine ⟨?_, ?_⟩
            · rw [mkS_len]; show _ + 0 ≤ _; rw [sizeLine_eq]; simp at hz; lia
            · show forC ic F__netrclex__read_char (tName 3) (bT T) Q k [some (.r il), some (.d (.str (mkS t ++ mkS []))), some (.r ic), some (.d (.str (mkS [])))] hp₂
              rw [mkS_nil]
              refine ih [] (Nat.zero_le _) _ _ _ _ _ L₂ hn₂ (by simp at hz ⊢; lia) ?_ k (by simpa using hk')
              intro hp₃ kp₃ L₃ o'
              have := q hp₃ (kp'.trans kp₃) (by simpa [tL, hec', nlh, nl] using L₃) o'
              simpa [tL, hec'] using this
          | cons d l =>
            refine step d l hp₂ _ kp' L₂ hn₂ (by simp at hk'; lia) (by simp at hl'; lia) (by simp at hz; lia) ?_
            simp [tL, hec', nlh, nl]
            lia
        · have : (c == 92) = false := by simpa using h92
          simp only [this]
          refine step c l hp' _ kp L' hn hk' hl' (by simp at hz; lia) ?_
          simp [tL, hec', h92, nlh]
          lia
noncomputable def gTok : List Nat → List Nat × List Nat × Int
 | [] => ([], [], 0)
 | c :: l => if isWs c then ((gTok l).1, (gTok l).2.1, nl c + (gTok l).2.2) else if c = 34 then tL (· == 34) false l else tL isWs false (c :: l)
noncomputable def tQ : XB := bCmp opEq (xVar 3) (cS "\"")
noncomputable def tW : XB := bCmp opIn (xVar 3) (xUn (getF 83 3) (xVar 0))
theorem t_q {il ic is : Nat} (t : V) (hp : List O) (n : Int) (l : List Nat) (c : Nat) (Q : Bool → List O → Prop) (L : Lx hp il is n l) (hc : c < 128) (q : Q (c == 34) hp) : tQ [some (.r il), some t, some (.r ic), some (.d (.str (ch c)))] Q hp := by
 have b : ((ch c) == ("\"" : Str)) = (c == 34) := by rw [show (("\"" : Str)) = ch 34 from by decide, ch_beq]
 simp only [tQ, bCmp, xVar, List.getElem?_cons_zero, List.getElem?_cons_succ, cS, opEq, truthV, b]
 exact q
theorem t_w {il ic is : Nat} (t : V) (hp : List O) (n : Int) (l : List Nat) (c : Nat) (Q : Bool → List O → Prop) (L : Lx hp il is n l) (hc : c < 128) (q : Q (isWs c) hp) : tW [some (.r il), some t, some (.r ic), some (.d (.str (ch c)))] Q hp := by
 obtain ⟨fs, e1, f1, f2, f3, f4⟩ := L.ob
 simp only [tW, bCmp, xVar, xUn, List.getElem?_cons_zero, List.getElem?_cons_succ]
 refine getF_go e1 f3 ?_
 simp only [opIn, truthV, ws_of hc]
 exact q
noncomputable def bO : XS := sCons (sIf tW (sCons sCont sNil) sNil)
 (sCons (sIf tQ (sCons (sForC F__netrclex__read_char (tName 3) (xVar 2) (bT tQ)) sNil)
  (sCons (sIf (bCmp opEq (xVar 3) (cS "\\")) (sCons (sAssign 3 (xMeth 83 F__netrclex__read_char (xVar 0) lNil lNil)) sNil) sNil)
  (sCons (sAug opIAdd 1 (xVar 3))
  (sCons (sForC F__netrclex__read_char (tName 3) (xVar 2) (bT tW)) sNil)))) sNil)
theorem c_end {ic k : Nat} {F : FT} {tgt : XT} {b : XS} {Q : QS} {vs : List (Option V)} {hp : List O} (h : hp[ic]? = some (.citer none)) (hk : 0 < k) (q : Q .next vs hp) : forC ic F tgt b Q k vs hp := by
 obtain ⟨k, rfl⟩ : ∃ j, k = j + 1 := ⟨k - 1, by lia⟩
 show nextC ic F _ hp
 unfold nextC
 rw [h]
 exact q
theorem isC_of {hp : List O} {ic : Nat} {c : Option Nat} (h : hp[ic]? = some (.citer c)) : isC hp ic := by
 unfold isC; rw [h]; trivial
theorem c_o {ic il is : Nat} (h1 : ic ≠ il) (h2 : ic ≠ is) : ∀ (l : List Nat) (n : Int) (hp : List O) (o : Option V) (Q : QS), Lx hp il is n l → hp[ic]? = some (.citer (some il)) →
  (∀ hp', Kp [il, is, ic] hp hp' → Lx hp' il is (n + (gTok l).2.2) (gTok l).2.1 → ∀ o',
   Q (.ret (.d (.str (mkS (gTok l).1)))) [some (.r il), some (.d (.str (mkS (gTok l).1))), some (.r ic), o'] hp' ∧ Q .next [some (.r il), some (.d (.str (mkS (gTok l).1))), some (.r ic), o'] hp') →
  ∀ k, l.length < k → forC ic F__netrclex__read_char (tName 3) bO Q k [some (.r il), some (.d (.str (mkS []))), some (.r ic), o] hp := by
 intro l
 induction l with
 | nil =>
  intro n hp o Q L hc q k hk
  obtain ⟨k, rfl⟩ : ∃ j, k = j + 1 := ⟨k - 1, by lia⟩
  refine c_next L hc h1 h2 fun hp' kp L' hn => ?_
  exact (q hp' kp (by simpa [gTok, nlh] using L') o).2
 | cons c l ih =>
  intro n hp o Q L hc q k hk
  obtain ⟨k, rfl⟩ : ∃ j, k = j + 1 := ⟨k - 1, by lia⟩
  have hcc : c < 128 := L.ok.2 c List.mem_cons_self
  have hk' : l.length < k := by simpa using hk
  have hz := L.ok.1
  refine c_next L hc h1 h2 fun hp' kp L' hn => ?_
  simp only [tName, bO, sCons, sIf, List.set_cons_succ, List.set_cons_zero]
  refine t_w _ _ _ _ _ _ L' hcc ?_
  by_cases hw : isWs c = true
  ·simp only [hw, sCont]
   refine ih _ _ _ _ L' hn ?_ k hk'
   intro hp₂ kp₂ L₂ o'
   have := q hp₂ (kp.trans kp₂) (by simp only [gTok, hw, if_true]; rw [← Int.add_assoc]; exact L₂) o'
   simpa [gTok, hw] using this
  ·have hw' : isWs c = false := by simpa using hw
   simp only [hw', sNil]
   refine t_q _ _ _ _ _ _ L' hcc ?_
   have after : ∀ (t : List Nat) {o' : Option V} {hp₂ : List O}, hp₂[ic]? = some (.citer none) → Q .next [some (.r il), some (.d (.str (mkS t))), some (.r ic), o'] hp₂ →
     forC ic F__netrclex__read_char (tName 3) bO Q k [some (.r il), some (.d (.str (mkS t))), some (.r ic), o'] hp₂ := fun t o' hp₂ h q => c_end h (by lia) q
   by_cases h34 : c = 34
   ·subst h34
    refine ⟨isC_of hn, k, c_t h1 h2 (e := (· == 34)) (by rfl) (fun t hp n l c Q L hc q => t_q t hp n l c Q L hc q) l.length l (Nat.le_refl _) [] _ _ _ _ L' hn (by simp at hz ⊢; lia) ?_ k hk'⟩
    intro hp₂ kp₂ L₂ o'
    have := q hp₂ (kp.trans kp₂) (by simp only [gTok, hw', if_true]; simpa [nlh, nl] using L₂) o'
    simp only [gTok, hw', if_true, Bool.false_eq_true, if_false] at this
    exact ⟨this.1, fun h => after _ h this.2⟩
   ·have e34 : (c == 34) = false := by simpa using h34
    have bsl : ((ch c) == ("\\" : Str)) = (c == 92) := by rw [show (("\\" : Str)) = ch 92 from by decide, ch_beq]
    simp only [e34, bCmp, xVar, List.getElem?_cons_zero, List.getElem?_cons_succ, cS, opEq, truthV, bsl]
    have plain : ∀ (QQ : QS), (∀ v vs h, Q (.ret v) vs h → QQ (.ret v) vs h) → (∀ vs h, forC ic F__netrclex__read_char (tName 3) bO Q k vs h → QQ .next vs h) → ∀ (t l' : List Nat) (o₂ : Option V) hp₂ n₂, Kp [il, is, ic] hp hp₂ → Lx hp₂ il is n₂ l' → hp₂[ic]? = some (.citer (some il)) → l'.length < k → t.length + l'.length ≤ 2 ^ 20 →
      tL isWs false (c :: l) = (t ++ (tL isWs false l').1, (tL isWs false l').2.1, (n₂ - n) + (tL isWs false l').2.2) →
      forC ic F__netrclex__read_char (tName 3) (bT tW) QQ k [some (.r il), some (.d (.str (mkS t))), some (.r ic), o₂] hp₂ := by
     intro QQ qr qn t l' o₂ hp₂ n₂ kp₂ L₂ hn₂ hk₂ hz₂ ht
     refine c_t h1 h2 (by decide) (fun t hp n l c Q L hc q => t_w t hp n l c Q L hc q) l'.length l' (Nat.le_refl _) t _ _ _ _ L₂ hn₂ hz₂ ?_ k hk₂
     intro hp₃ kp₃ L₃ o'
     have := q hp₃ (kp₂.trans kp₃) (by
      simp only [gTok, hw', if_neg h34, ht, Bool.false_eq_true, if_false]
      have e : n₂ + (tL isWs false l').2.2 = n + (n₂ - n + (tL isWs false l').2.2) := by lia
      rw [e] at L₃; exact L₃) o'
     simp only [gTok, hw', if_neg h34, ht, Bool.false_eq_true, if_false] at this
     exact ⟨qr _ _ _ this.1, fun h => qn _ _ (after _ h this.2)⟩
    by_cases h92 : c = 92
    ·subst h92
     obtain ⟨fs, e1, _⟩ := L'.ob
     have hat : atI (.r il) hp' 83 (fun _ _ => True) := by unfold atI; simp only [e1]; exact ⟨trivial, trivial⟩
     refine ⟨hat, c_read L' ?_⟩
     intro hp₂ kp₂ L₂
     have kp' : Kp [il, is, ic] hp hp₂ := kp.trans (kp₂.mono (by simp))
     have hn₂ : hp₂[ic]? = some (.citer (some il)) := (kp₂.2 ic (by simp [h1, h2])).trans hn
     cases l with
     | nil =>
      refine ⟨by rw [mkS_len]; show 0 + 0 ≤ _; exact Nat.zero_le _, isC_of hn₂, k, ?_⟩
      have := fun QQ h1 h2 => plain QQ h1 h2 [] [] (some (.d (.str (mkS [])))) hp₂ _ kp' L₂ hn₂ (by simpa using hk') (by simp) (by simp [tL, isWs, nlh, nl])
      exact this _ (fun _ _ _ x => x) (fun _ _ x => x)
     | cons d l =>
      refine ⟨by rw [mkS_len]; show 0 + 1 ≤ _; rw [sizeLine_eq]; decide, isC_of hn₂, k, ?_⟩
      have := fun QQ h1 h2 => plain QQ h1 h2 [d] l (some (.d (.str (ch d)))) hp₂ _ kp' L₂ hn₂ (by simp at hk'; lia) (by simp at hz ⊢; lia) (by simp [tL, isWs, nlh, nl]; lia)
      exact this _ (fun _ _ _ x => x) (fun _ _ x => x)
    ·have e92 : (c == 92) = false := by simpa using h92
     rw [e92]
     refine ⟨by rw [mkS_len]; show 0 + 1 ≤ _; rw [sizeLine_eq]; decide, isC_of hn, k, ?_⟩
     have := fun QQ h1 h2 => plain QQ h1 h2 [c] l (some (.d (.str (ch c)))) hp' _ kp L' hn hk' (by simp at hz ⊢; lia) (by simp [tL, hw', h92, nlh]; lia)
     exact this _ (fun _ _ _ x => x) (fun _ _ x => x)
theorem c_token {il is : Nat} {n : Int} {l : List Nat} {hp : List O} {Q : V → List O → Prop} (L : Lx hp il is n l)
  (q : ∀ hp', Kp [il, is] hp hp' → Lx hp' il is (n + (gTok l).2.2) (gTok l).2.1 → Q (.d (.str (mkS (gTok l).1))) hp') : F__netrclex_get_token [.r il] Q hp := by
 obtain ⟨fs, e1, f1, f2, f3, f4⟩ := L.ob
 have hil := (List.getElem?_eq_some_iff.mp e1).1
 have his := (List.getElem?_eq_some_iff.mp L.st).1
 have h1 : hp.length ≠ il := by lia
 have h2 : hp.length ≠ is := by lia
 have L₀ : Lx (hp ++ [.citer (some il)]) il is n l := ⟨L.ne, ⟨fs, get_left e1 _, f1, f2, f3, f4⟩, get_left L.st _, L.ok⟩
 have hc : (hp ++ [.citer (some il)])[hp.length]? = some (.citer (some il)) := by simp
 have hat : atI (.r il) hp 83 (fun i _ => isC (hp ++ [.citer (some i)]) hp.length ∧ True) := by
  unfold atI; simp only [e1]; exact ⟨trivial, isC_of (c := some il) (by simp), trivial⟩
 refine ⟨rfl, getF_go e1 f4 ?_⟩
 refine ⟨[], rfl, Nat.zero_le _, ?_⟩
 simp only [sCons, sAssign, cS, xIter, xVar, List.isEmpty_nil, Bool.not_true, sNil, List.map_cons, List.map_nil, List.replicate, List.cons_append, List.nil_append, List.getElem?_cons_zero, List.getElem?_cons_succ, List.set_cons_zero, List.set_cons_succ]
 unfold atI
 simp only [e1]
 refine ⟨trivial, isC_of hc, l.length + 1, ?_⟩
 refine c_o h1 h2 l n _ _ _ L₀ hc ?_ (l.length + 1) (Nat.lt_succ_self _)
 intro hp' kp L' o'
 have hlen : hp'.length = hp.length + 1 := by rw [kp.1]; simp
 have kk : Kp [il, is] hp (hp'.take hp.length) := by
  refine ⟨by simp; lia, fun k hk => ?_⟩
  rw [List.getElem?_take]
  split
  ·rename_i hlt
   rw [kp.2 k (by simp at hk ⊢; lia)]
   rw [List.getElem?_append_left hlt]
  ·rw [List.getElem?_eq_none (by lia)]
 have LL : Lx (hp'.take hp.length) il is (n + (gTok l).2.2) (gTok l).2.1 := by
  obtain ⟨ne, ⟨fs, a, b⟩, c, d⟩ := L'
  exact ⟨ne, ⟨fs, by rw [List.getElem?_take, if_pos hil]; exact a, b⟩, by rw [List.getElem?_take, if_pos his]; exact c, d⟩
 exact ⟨q _ kk LL, q _ kk LL⟩
noncomputable def rowD (r : Str × Str) : PyData := .tuple [.str r.1, .str r.2]
structure Tb (hp : List O) (it ih : Nat) (rows : List (Str × Str)) : Prop where
 lt : ih < it
 ob : ∃ fs, hp[it]? = some (.inst 233 fs) ∧ fs.lookup 0 = some (.r ih)
 ls : hp[ih]? = some (.lst (rows.map rowD))
 few : rows.length ≤ 1000
noncomputable def okS (x : Str) : Prop := cleanS x = true ∧ x.length ≤ 1000
theorem okS_le {x : Str} (h : okS x) : x.length ≤ sizeLine := Nat.le_trans h.2 (by rw [sizeLine_eq]; decide)
theorem atI_go {C : Addr} {i : Nat} {fs : List (Nat × V)} {k : Nat → List (Nat × V) → Prop} {hp : List O} (e : hp[i]? = some (.inst C fs)) (q : k i fs) : atI (.r i) hp C k := by
 unfold atI; simp only [e]; exact ⟨trivial, q⟩
theorem atL_go {i : Nat} {l : List PyData} {k : Nat → List PyData → Prop} {hp : List O} (e : hp[i]? = some (.lst l)) (q : k i l) : atL (.r i) hp k := by
 unfold atL; simp only [e]; exact q
theorem lget_go {i : Nat} {l : List PyData} {hp : List O} (e : hp[i]? = some (.lst l)) : lget (.r i) hp = some l := by
 unfold lget; simp only [e]
theorem c_conv {i : Nat} {x : Str} {b : Bool} {Q : V → List O → Prop} {hp : List O} (h : okS x) (q : Q (.d (.str x)) hp) : F_Headers__convert_string_type [.r i, .d (.str x), .d (.bool b)] Q hp := by
 dsimp only [F_Headers__convert_string_type, runFn, bPlain, p_Headers__convert_string_type, sCons, sAssign, xUn, xVar, sIf, bCmp, sRet, cI, cS, sNil, xCall, lCons, lNil, xG, opIsT, tyV, truthV, bVal, xIte, fType, dget, tyOf, List.map_cons, List.map_nil, List.replicate, List.cons_append, List.nil_append, List.getElem?_cons_zero, List.getElem?_cons_succ, List.set_cons_zero, List.set_cons_succ]
 refine ⟨rfl, ?_⟩
 cases b with
 | true => exact ⟨by simp, h.1, okS_le h, fin_len rfl q⟩
 | false => exact ⟨by simp, h.1, okS_le h, fin_len rfl q⟩
theorem c_del {it ih : Nat} {rows : List (Str × Str)} {x : Str} {Q : V → List O → Prop} {hp : List O} (T : Tb hp it ih rows) (hx : okS (Txt.lower x)) (hr : ∀ r ∈ rows, (Txt.lower r.1).length ≤ sizeLine)
  (q : Q (.d .none) (hp.set ih (.lst ((rows.filter fun r => Txt.lower r.1 != Txt.lower x).map rowD)))) : F_Headers___delitem__ [.r it, .d (.str x)] Q hp := by
 obtain ⟨hlt, ⟨fs, e1, f⟩, ls, few⟩ := T
 simp only [F_Headers___delitem__, runFn, bPlain, p_Headers___delitem__, sCons, sAssign, xUn, xVar, sIf, bCmp, sRet, cI, cS, cB, sNil, xMeth, xMethS, mLower, lCons, lNil, List.map_cons, List.map_nil, List.replicate, List.cons_append, List.nil_append, List.getElem?_cons_zero, List.getElem?_cons_succ, List.set_cons_zero, List.set_cons_succ]
 refine ⟨rfl, atI_go e1 trivial, okS_le hx, c_conv hx ?_⟩
 simp only [sPutAll]
 refine comp1 (v := .r ih) (xs := rows.map rowD) (fun d => match d with | .tuple (.str k :: _) => Txt.lower k != Txt.lower x | _ => false) id (fun K k => getF_go e1 f k) (by unfold iterV; simp only [ls]) ?_ ?_ ?_ ?_
 ·intro y hy l K k
  obtain ⟨r, hr', rfl⟩ := List.mem_map.mp hy
  refine ⟨by decide, ?_⟩
  exact ⟨hr r hr', k⟩
 ·intro y hy hc l K k
  exact k
 ·rw [List.length_map, sizeLine_eq]; lia
 ·refine getF_go e1 f ?_
  refine atL_go ls ⟨_, rfl, by simp, ?_, ?_⟩
  ·rw [List.map_id]
   refine Nat.le_trans (Nat.add_le_add_left (List.length_filter_le _ _) _) ?_
   rw [List.length_map, sizeLine_eq]; lia
  ·have e : (((rows.map rowD).filter fun d => match d with | .tuple (.str k :: _) => Txt.lower k != Txt.lower x | _ => false).map id) = (rows.filter fun r => Txt.lower r.1 != Txt.lower x).map rowD := by
    rw [List.map_id, List.filter_map]; rfl
   rw [e]
   exact fin_len (by simp) q
theorem c_set {it ih : Nat} {rows : List (Str × Str)} {x y : Str} {Q : V → List O → Prop} {hp : List O} (T : Tb hp it ih rows) (hx : okS (Txt.lower x)) (hx' : okS x) (hy : okS y) (hr : ∀ r ∈ rows, (Txt.lower r.1).length ≤ sizeLine)
  (q : Q (.d .none) (hp.set ih (.lst (((rows.filter fun r => Txt.lower r.1 != Txt.lower x) ++ [(x, y)]).map rowD)))) : F_Headers___setitem__ [.r it, .d (.str x), .d (.str y)] Q hp := by
 obtain ⟨fs, e1, f⟩ := T.ob
 dsimp only [F_Headers___setitem__, runFn, bPlain, p_Headers___setitem__, sCons, sDelOwn, sExpr, xUn, xVar, sIf, bCmp, sRet, cI, cS, cB, sNil, xMeth, xMethL, xTuple, mLower, lCons, lNil, List.map_cons, List.map_nil, List.replicate, List.cons_append, List.nil_append, List.getElem?_cons_zero, List.getElem?_cons_succ, List.set_cons_zero, List.set_cons_succ]
 refine ⟨rfl, atI_go e1 trivial, c_del T hx hr ?_⟩
 have e2 : ∀ o, (hp.set ih o)[it]? = some (.inst 233 fs) := fun o => by rw [List.getElem?_set_ne (Nat.ne_of_lt T.lt)]; exact e1
 have l2 : ∀ o, (hp.set ih o)[ih]? = some o := fun o => set_get T.ls
 refine getF_go (e2 _) f ⟨by rw [lget_go (l2 _)]; rfl, ?_⟩
 refine ⟨atI_go (e2 _) trivial, ?_⟩
 refine c_conv hx' ?_
 refine ⟨atI_go (e2 _) trivial, ?_⟩
 refine c_conv hy ?_
 refine ⟨by show 2 ≤ sizeLine; rw [sizeLine_eq]; decide, by rw [lget_go (l2 _)]; rfl, ?_⟩
 unfold mAppend
 dsimp only
 refine atL_go (l2 _) ⟨?_, ?_⟩
 ·rw [List.length_map]
  refine Nat.le_trans (List.length_filter_le _ _) ?_
  have := T.few
  rw [sizeLine_eq]; lia
 ·rw [List.set_set]
  refine fin_len (by simp) ?_
  rw [List.map_append] at q
  exact q
theorem c_keys {it ih : Nat} {rows : List (Str × Str)} {Q : V → List O → Prop} {hp : List O} (T : Tb hp it ih rows) (q : Q (.d (.list (rows.map fun r => .str r.1))) hp) : F_Headers_keys [.r it] Q hp := by
 obtain ⟨hlt, ⟨fs, e1, f⟩, ls, few⟩ := T
 dsimp only [F_Headers_keys, runFn, bPlain, p_Headers_keys, sCons, sRet, xUn, List.map_cons, List.map_nil, List.replicate, List.cons_append, List.nil_append]
 refine ⟨rfl, ?_⟩
 dsimp only [xComp, xUn, xVar, List.getElem?_cons_zero]
 refine getF_go e1 f ?_
 have key : compL (some (ih, rows.map rowD)) hp.length (tTuple 2 (tsCons (tName 0) (tsCons (tName 1) tsNil))) iNil (xVar 0) (compEnd false hp.length fun v hp' => fin false hp.length Q v hp') (rows.map rowD) (List.replicate 2 none ++ [some (.r it)]) (hp ++ [.lst []]) := by
  refine comp_go (n := 2) (fun _ => true) (fun d => match d with | .tuple (k :: _) => k | _ => .none) (fun d => match d with | .tuple [a, b] => [some (.d a), some (.d b)] | _ => [none, none]) (rows.map rowD) [] _ rfl ?_ ?_ ?_ ?_ ls ?_ ?_
  ·intro x hx; obtain ⟨r, _, rfl⟩ := List.mem_map.mp hx; rfl
  ·intro x hx old ho K h k
   obtain ⟨r, _, rfl⟩ := List.mem_map.mp hx
   obtain ⟨a, b, rfl⟩ := len2 ho
   exact ⟨rfl, k⟩
  ·intro x hx l K k; exact k
  ·intro x hx _ l K k; obtain ⟨r, _, rfl⟩ := List.mem_map.mp hx; exact k
  ·rw [List.length_map, sizeLine_eq]; simp; lia
  ·refine end_false (fin_len rfl ?_)
   rw [List.nil_append]
   have e : (((rows.map rowD).filter fun _ => true).map fun d => match d with | .tuple (k :: _) => k | _ => .none) = rows.map fun r => .str r.1 := by
    rw [List.filter_eq_self.mpr (fun _ _ => rfl), List.map_map]; rfl
   rw [e]; exact q
 show iterV (.r ih) hp _
 unfold iterV
 simp only [ls]
 exact key
theorem setF_goR {C : Addr} {k i j : Nat} {fs : List (Nat × V)} {Q : List O → Prop} {hp : List O} (e : hp[i]? = some (.inst C fs)) (hj : j < i) (q : Q (hp.set i (.inst C (putFs k (.r j) fs)))) : setF C k (.r i) (.r j) Q hp := by
 unfold setF atI
 simp only [e]
 exact ⟨trivial, hj, q⟩
theorem tyeq : (Value.type "list" == Value.type "list") = true := by first | exact beq_self_eq_true _ | rfl
theorem c_headers {ih : Nat} {rows : List (Str × Str)} {Q : V → List O → Prop} {hp : List O} (ls : hp[ih]? = some (.lst (rows.map rowD))) (few : rows.length ≤ 1000) (hr : ∀ r ∈ rows, okS r.1 ∧ okS r.2)
  (q : ∀ hp', hp'.length = hp.length + 1 → (∀ k, k < hp.length → hp'[k]? = hp[k]?) → Tb hp' hp.length ih rows → Q (.r hp.length) hp') : F_Headers [.r ih] Q hp := by
 have hlt := (List.getElem?_eq_some_iff.mp ls).1
 have l0 : (hp ++ [.inst 233 []])[ih]? = some (.lst (rows.map rowD)) := get_left ls _
 have i0 : (hp ++ [O.inst 233 []])[hp.length]? = some (.inst 233 []) := by simp
 simp only [F_Headers, mkInst, F_Headers___init__, runFn, bPlain, p_Headers___init__, sCons, sAssign, sSetF, sIf, bCmp, bVal, cB, cNone, xIte, xCall, xG, opIsNot, opIsT, tyV, isNoneV, sNil, xVar, lCons, lNil, truthV, List.map_cons, List.map_nil, List.replicate, List.cons_append, List.nil_append, List.getElem?_cons_zero, List.getElem?_cons_succ, List.set_cons_zero, List.set_cons_succ, Bool.not_false]
 refine ⟨rfl, ?_⟩
 simp only [fType, dget, l0, tyOf]
 simp only [opIsT, tyV, truthV, tyeq, Bool.not_true, if_true]
 refine setF_goR i0 hlt ?_
 rw [show (hp ++ [O.inst 233 []]).set hp.length (.inst 233 (putFs 0 (.r ih) [])) = hp ++ [.inst 233 [(0, .r ih)]] from by rw [set_last]; rfl]
 have i1 : (hp ++ [O.inst 233 [(0, .r ih)]])[hp.length]? = some (.inst 233 [(0, .r ih)]) := by simp
 have l1 : (hp ++ [O.inst 233 [(0, .r ih)]])[ih]? = some (.lst (rows.map rowD)) := get_left ls _
 simp only [sFor, xVar, List.getElem?_cons_zero, List.getElem?_cons_succ]
 unfold iterV
 simp only [l1]
 refine for_go (α := Unit) (fun _ vs h => h = hp ++ [O.inst 233 [(0, .r ih)]] ∧ ∃ a b, vs = [some (.r hp.length), some (.r ih), a, b]) (fun _ _ => ()) (fun _ vs h r => by rw [r.1]; exact l1) _ () _ _ ⟨rfl, _, _, rfl⟩ ?_ ?_
 ·rintro _ vs h x hx ⟨rfl, a, b, rfl⟩ K hK
  obtain ⟨r, hr', rfl⟩ := List.mem_map.mp hx
  refine ⟨rfl, ?_⟩
  show (atI (.r hp.length) _ 233 fun _ _ => True) ∧ F_Headers__convert_string_type [.r hp.length, .d (.str r.1), .d (.bool true)] (fun _ h => (atI (.r hp.length) h 233 fun _ _ => True) ∧ F_Headers__convert_string_type [.r hp.length, .d (.str r.2), .d (.bool false)] (fun _ h => K .next [some (.r hp.length), some (.r ih), some (.d (.str r.1)), some (.d (.str r.2))] h) h) _
  refine ⟨atI_go i1 trivial, ?_⟩
  refine c_conv (hr r hr').1 ?_
  refine ⟨atI_go i1 trivial, ?_⟩
  refine c_conv (hr r hr').2 ?_
  exact (hK _ _ ⟨rfl, _, _, rfl⟩).1
 ·rintro vs h ⟨rfl, a, b, rfl⟩
  show fin false _ _ _ _
  refine fin_len (by simp) ⟨rfl, ?_⟩
  refine q _ (by simp) (fun k hk => ?_) ⟨hlt, ⟨_, i1, rfl⟩, l1, few⟩
  rw [List.getElem?_append_left hk]
theorem c_lexer {is : Nat} {l : List Nat} {Q : V → List O → Prop} {hp : List O} (st : hp[is]? = some (.stream l)) (ok : okl l)
  (q : ∀ hp', hp'.length = hp.length + 1 → (∀ k, k < hp.length → hp'[k]? = hp[k]?) → Lx hp' hp.length is 1 l → Q (.r hp.length) hp') : F__netrclex [.r is] Q hp := by
 have hlt := (List.getElem?_eq_some_iff.mp st).1
 dsimp only [F__netrclex, mkInst, F__netrclex___init__, runFn, bPlain, p__netrclex___init__, sCons, sSetF, cI, cS, sNil, xVar, xList, lNil, datas, mkL, List.map_cons, List.map_nil, List.replicate, List.cons_append, List.nil_append, List.append_nil, List.getElem?_cons_zero, List.getElem?_cons_succ]
 have i : ∀ fs, (hp ++ [O.inst 83 fs])[hp.length]? = some (.inst 83 fs) := fun fs => by simp
 have ss : ∀ fs k w, (hp ++ [O.inst 83 fs]).set hp.length (.inst 83 (putFs k w fs)) = hp ++ [.inst 83 (putFs k w fs)] := fun fs k w => set_last
 refine ⟨rfl, setF_go (i _) ?_⟩
 rw [ss]
 refine setF_goR (i _) hlt ?_
 rw [ss]
 refine setF_go (i _) ?_
 rw [ss]
 refine ⟨Nat.zero_le _, setF_go (i _) ?_⟩
 rw [ss]
 show fin false _ _ _ _
 refine fin_len (by simp) ⟨rfl, ?_⟩
 refine q _ (by simp) (fun k hk => ?_) ⟨(by lia), ⟨_, i _, rfl, rfl, rfl, rfl⟩, get_left st _, ok⟩
 rw [List.getElem?_append_left hk]
theorem joinOk {q : Str} {parts : List Str} (h : (Txt.join q parts).length ≤ 2 ^ 20) (hq : q.length ≤ 2 ^ 20) : JoinOk q parts = true := by
 have f : ∀ (l : List Str) (n : Nat), l.foldl (· + ·.length + q.length) n = n + (l.map (·.length)).sum + l.length * q.length := by
  intro l
  induction l with
  | nil => intro n; simp
  | cons a l ih => intro n; simp only [List.foldl_cons, ih, List.map_cons, List.sum_cons, List.length_cons, Nat.add_mul]; lia
 have g : (Txt.join q parts).length = (parts.map (·.length)).sum + (parts.length - 1) * q.length := size_glued q parts
 unfold JoinOk Builtin.Str.tooLong
 rw [List.foldl_toArray, f, sizeLine_eq]
 have : parts.length * q.length ≤ (parts.length - 1) * q.length + q.length := by
  rcases Nat.eq_zero_or_pos parts.length with z | z
  ·rw [z]; simp
  ·obtain ⟨m, e⟩ : ∃ m, parts.length = m + 1 := ⟨parts.length - 1, by lia⟩
   rw [e, Nat.add_mul]; simp
 simp
 lia
noncomputable def replA (ps : List (List Nat × List Nat)) (x : List Nat) : List Nat := ps.foldl (fun x pq => repL pq.1 pq.2 0 x) x
noncomputable def okR : List (List Nat × List Nat) → List Nat → Prop
 | [], x => okl x
 | pq :: ps, x => okl x ∧ pq.1 ≠ [] ∧ (∀ c ∈ pq.1, c < 128) ∧ pq.2.length ≤ 2 ^ 20 ∧ okR ps (repL pq.1 pq.2 0 x)
theorem okR.ok : ∀ {ps : List (List Nat × List Nat)} {x : List Nat}, okR ps x → okl x
 | [], _, h => h
 | _ :: _, _, h => h.1
noncomputable def flatD : List (List Nat × List Nat) → List PyData
 | [] => []
 | pq :: ps => .str (mkS pq.1) :: .str (mkS pq.2) :: flatD ps
theorem flatD_len : ∀ ps : List (List Nat × List Nat), (flatD ps).length = 2 * ps.length
 | [] => rfl
 | _ :: ps => by simp [flatD, flatD_len ps]; lia
theorem datas_map : ∀ l : List PyData, datas (l.map .d) = some l
 | [] => rfl
 | x :: l => by simp [datas, datas_map l]
theorem item0 {a b : PyData} {l : List PyData} {K : V → List O → Prop} {hp : List O} (k : K (.d a) hp) : opItem (.d (.tuple (a :: b :: l))) (.d (.int 0)) K hp := by
 refine ⟨by decide, ?_⟩
 have : seqIndex? 0 (a :: b :: l).length = some 0 := by unfold seqIndex?; simp; lia
 dsimp only; rw [this]; exact k
theorem item1 {a b : PyData} {l : List PyData} {K : V → List O → Prop} {hp : List O} (k : K (.d b) hp) : opItem (.d (.tuple (a :: b :: l))) (.d (.int 1)) K hp := by
 refine ⟨by decide, ?_⟩
 have : seqIndex? 1 (a :: b :: l).length = some 1 := by unfold seqIndex?; simp; lia
 dsimp only; rw [this]; exact k
theorem c_replace {ps : List (List Nat × List Nat)} {x : List Nat} {Q : V → List O → Prop} {hp : List O} (hz : ps.length ≤ 1000) (h : okR ps x) (q : Q (.d (.str (mkS (replA ps x)))) hp) :
  F_replace (.d (.str (mkS x)) :: (flatD ps).map .d) Q hp := by
 simp only [F_replace, runFn, bStar, p_replace, datas_map]
 refine ⟨by rw [flatD_len, sizeLine_eq]; lia, ?_⟩
 simp only [List.map_cons, List.map_nil, List.replicate, List.append_nil, sCons, sRet, sNil]
 refine ⟨ps.length + 1, ?_⟩
 have go : ∀ (ps : List (List Nat × List Nat)) (x : List Nat) (QQ : QS), ps.length ≤ 1000 → okR ps x → (∀ v, QQ .next [some (.d (.str (mkS (replA ps x)))), v] hp) →
   whileN (bVal (xVar 1)) (sCons (sAssign 0 (xMethS mJoin (xBin opItem (xVar 1) (cI 1)) (lCons (xMethS mSplit (xVar 0) (lCons (xBin opItem (xVar 1) (cI 0)) lNil)) lNil)))
    (sCons (sAssign 1 (xSlice (xVar 1) (pSome (cI 2)) pNone)) sNil)) QQ (ps.length + 1) [some (.d (.str (mkS x))), some (.d (.tuple (flatD ps)))] hp := by
  intro ps
  induction ps with
  | nil => intro x QQ hz h q; exact ⟨Nat.zero_le _, q _⟩
  | cons pq ps ih =>
   intro x QQ hz h q
   obtain ⟨h1, h2, h3, h4, h5⟩ := h
   have hl : (flatD (pq :: ps)).length ≤ sizeLine := by rw [flatD_len, sizeLine_eq]; lia
   refine ⟨hl, ?_⟩
   simp only [flatD, List.isEmpty_cons, Bool.not_false, sCons, sAssign, xMethS, xBin, xVar, cI, cS, lCons, lNil, sNil, List.getElem?_cons_zero, List.getElem?_cons_succ, List.set_cons_zero, List.set_cons_succ]
   refine item1 ?_
   dsimp only
   refine item0 ?_
   have r1 := repl_eq (q := pq.2) h2 h1.2 h3
   refine ⟨by rw [mkS_len]; intro e; exact h2 (List.length_eq_zero_iff.mp e), by rw [mkS_len, sizeLine_eq]; have := h1.1; lia, ?_⟩
   refine ⟨_, Txt.split (mkS x) (mkS pq.1), rfl, ?_, joinOk ?_ ?_, ?_⟩
   ·generalize Txt.split (mkS x) (mkS pq.1) = l
    induction l with
    | nil => rfl
    | cons a l ih => simp [strsOf, ih]
   ·show (Txt.join ⟨pq.2.toArray⟩ (Txt.split ⟨x.toArray⟩ ⟨pq.1.toArray⟩)).length ≤ _
    rw [r1]; rw [mkS_len]; exact h5.ok.1
   ·rw [mkS_len]; exact h4
   ·show xSlice (xVar 1) (pSome (cI 2)) pNone [some (.d (.str (Txt.join ⟨pq.2.toArray⟩ (Txt.split ⟨x.toArray⟩ ⟨pq.1.toArray⟩)))), some (.d (.tuple (.str (mkS pq.1) :: .str (mkS pq.2) :: flatD ps)))] _ hp
    rw [r1]
    refine ⟨1, rfl, rfl, by simp, hl, ?_⟩
    exact ih (repL pq.1 pq.2 0 x) QQ (by simp at hz; lia) h5 (fun v => q v)
 exact go ps x _ hz h (fun v => fin_len rfl q)
theorem item_at {l : List PyData} {k : Nat} {x : PyData} (h : l[k]? = some x) (hk : k < 2 ^ 62) {K : V → List O → Prop} {hp : List O} {v : V} (hv : lget v hp = some l) (hd : ∀ t, v ≠ .d (.tuple t)) (q : K (.d x) hp) : opItem v (.d (.int k)) K hp := by
 have hlt := (List.getElem?_eq_some_iff.mp h).1
 have hs : seqIndex? (k : Int) l.length = some k := by
  unfold seqIndex?
  have : ¬ ((k : Int) < 0) := by lia
  simp [this, hlt]
 refine ⟨by lia, ?_⟩
 have e : (seqIndex? (k : Int) l.length).bind (l[·]?) = some x := by rw [hs]; exact h
 cases v with
 | d y =>
  cases y with
  | tuple t => exact absurd rfl (hd t)
  | str s => cases hv
  | list l' => cases hv; exact ⟨l, rfl, by rw [e]; exact q⟩
  | _ => cases hv
 | r i => exact ⟨l, hv, by rw [e]; exact q⟩
 | _ => cases hv
theorem for_map {α β : Type} {g : G} {tgt : XT} {body : XS} {Q : QS} (f : β → PyData) (R : Nat → α → List (Option V) → List O → Prop) (step : α → β → α) (hg : ∀ i a vs hp, R i a vs hp → gOk g hp) :
    ∀ (xs : List β) (i N : Nat) (a : α) (vs : List (Option V)) (hp : List O), i + xs.length = N → R i a vs hp →
    (∀ i a vs hp x, i < N → x ∈ xs → R i a vs hp → ∀ K : QS, (∀ vs' hp', R (i + 1) (step a x) vs' hp' → K .next vs' hp' ∧ K .cont vs' hp') → tgt (.d (f x)) vs (fun vs' hp' => body vs' K hp') hp) →
    (∀ vs hp, R N (xs.foldl step a) vs hp → Q .next vs hp) → forL g tgt body Q (xs.map f) vs hp
  | [], i, N, a, vs, hp, hN, r, hb, hq => ⟨hg _ _ _ _ r, hq _ _ (by have : i = N := by simpa using hN
                                                                    rw [← this]; exact r)⟩
  | x :: xs, i, N, a, vs, hp, hN, r, hb, hq => ⟨hg _ _ _ _ r, hb i a vs hp x (by simp at hN; lia) List.mem_cons_self r _ fun vs' hp' r' =>
      have := for_map f R step hg xs (i + 1) N (step a x) vs' hp' (by simp at hN; lia) r' (fun i a vs hp y hi hy => hb i a vs hp y hi (List.mem_cons_of_mem _ hy)) hq
      ⟨this, this⟩⟩
theorem for_pre {β : Type} {g : G} {tgt : XT} {body : XS} {Q : QS} (f : β → PyData) (xs : List β) (R : List β → List (Option V) → List O → Prop) (hg : ∀ p vs hp, R p vs hp → gOk g hp)
  (hb : ∀ pre x post vs hp, xs = pre ++ x :: post → R pre vs hp → ∀ K : QS, (∀ vs' hp', R (pre ++ [x]) vs' hp' → K .next vs' hp' ∧ K .cont vs' hp') → tgt (.d (f x)) vs (fun vs' hp' => body vs' K hp') hp)
  (hq : ∀ vs hp, R xs vs hp → Q .next vs hp) :
  ∀ (post pre : List β) (vs : List (Option V)) (hp : List O), pre ++ post = xs → R pre vs hp → forL g tgt body Q (post.map f) vs hp
 | [], pre, vs, hp, e, r => ⟨hg _ _ _ r, hq _ _ (by rw [List.append_nil] at e; rw [← e]; exact r)⟩
 | x :: post, pre, vs, hp, e, r => ⟨hg _ _ _ r, hb pre x post vs hp e.symm r _ fun vs' hp' r' =>
   have := for_pre f xs R hg hb hq post (pre ++ [x]) vs' hp' (by rw [List.append_assoc]; exact e) r'
   ⟨this, this⟩⟩
theorem iadd_go {i : Nat} {l1 l2 : List PyData} {Q : V → List O → Prop} {hp : List O} (e : hp[i]? = some (.lst l1)) (hz : l1.length + l2.length ≤ sizeLine) (q : Q (.r i) (hp.set i (.lst (l1 ++ l2)))) : opIAdd (.r i) (.d (.list l2)) Q hp := by
 show atL (.r i) hp fun i l1 => ∃ l, lget (.d (.list l2)) hp = some l ∧ l1.length + l.length ≤ sizeLine ∧ Q (.r i) (hp.set i (.lst (l1 ++ l)))
 exact atL_go e ⟨l2, rfl, hz, q⟩
theorem get_last {hp : List O} {o : O} : (hp ++ [o])[hp.length]? = some o := by simp
noncomputable def isL (c : Nat) : Bool := c == 97 || c == 98 || c == 65 || c == 66
noncomputable def iv (c : Nat) : Nat := if c = 97 then 65 else if c = 65 then 97 else if c = 98 then 66 else 98
noncomputable def ix (c : Nat) : Nat := if c = 97 then 0 else if c = 98 then 1 else if c = 65 then 2 else 3
noncomputable def wd (w : List Nat) : Prop := ∀ c ∈ w, isL c = true
noncomputable def back (w : List Nat) : List Nat := (w.map iv).reverse
theorem L4 {c : Nat} (h : isL c = true) : c = 97 ∨ c = 98 ∨ c = 65 ∨ c = 66 := by unfold isL at h; simp at h; lia
theorem L_lt {c : Nat} (h : isL c = true) : c < 128 := by rcases L4 h with rfl | rfl | rfl | rfl <;> decide
theorem iv_L {c : Nat} (h : isL c = true) : isL (iv c) = true := by rcases L4 h with rfl | rfl | rfl | rfl <;> decide
theorem iv_iv {c : Nat} (h : isL c = true) : iv (iv c) = c := by rcases L4 h with rfl | rfl | rfl | rfl <;> decide
theorem iv_ne {c : Nat} (h : isL c = true) : iv c ≠ c := by rcases L4 h with rfl | rfl | rfl | rfl <;> decide
theorem wd_nil : wd [] := fun _ h => nomatch h
theorem wd_cons {c : Nat} {w : List Nat} : wd (c :: w) ↔ isL c = true ∧ wd w := by unfold wd; simp
theorem wd_app {u v : List Nat} : wd (u ++ v) ↔ wd u ∧ wd v := by unfold wd; simp only [List.mem_append]; exact ⟨fun h => ⟨fun c x => h c (.inl x), fun c x => h c (.inr x)⟩, fun h c x => x.elim (h.1 c) (h.2 c)⟩
theorem wd_back {w : List Nat} (h : wd w) : wd (back w) := by
 intro c hc
 unfold back at hc
 rw [List.mem_reverse] at hc
 obtain ⟨d, hd, rfl⟩ := List.mem_map.mp hc
 exact iv_L (h d hd)
theorem back_len (w : List Nat) : (back w).length = w.length := by simp [back]
theorem back_app (u v : List Nat) : back (u ++ v) = back v ++ back u := by simp [back]
theorem find4 {c : Nat} (h : isL c = true) : Txt.find "abAB" (ch c) = (ix c : Int) := by rcases L4 h with rfl | rfl | rfl | rfl <;> decide +kernel
theorem ix_lt (c : Nat) : ix c < 4 := by unfold ix; split; lia; split; lia; split <;> lia
theorem chat_iv {c : Nat} (h : isL c = true) : Txt.charAt "ABab" (ix c : Int) = some (iv c) := by rcases L4 h with rfl | rfl | rfl | rfl <;> decide +kernel
theorem sg (w : List Nat) : signsOf (mkS w) = w.map fun c => PyData.str (ch c) := by unfold signsOf; simp
theorem item_iv {c : Nat} (h : isL c = true) {K : V → List O → Prop} {hp : List O} (k : K (.d (.str (ch (iv c)))) hp) : opItem (.d (.str "ABab")) (.d (.int (Txt.find "abAB" (ch c)))) K hp := by
 rw [find4 h]
 refine ⟨by have := ix_lt c; lia, ?_⟩
 show (match Txt.charAt "ABab" (ix c : Int) with | some c => K (.d (.str ⟨#[c]⟩)) hp | none => False)
 rw [chat_iv h]
 exact k
theorem mkS_cons (c : Nat) (w : List Nat) : ch c ++ mkS w = mkS (c :: w) := by
 show (⟨_ ++ _⟩ : Str) = _
 simp
theorem mkS_app (u w : List Nat) : mkS u ++ mkS w = mkS (u ++ w) := by
 show (⟨_ ++ _⟩ : Str) = _
 simp
theorem mkS_beq (a b : List Nat) : ((mkS a) == (mkS b)) = (a == b) := by
 by_cases h : a = b
 ·subst h; simp
 ·have : mkS a ≠ mkS b := by intro e; exact h (by simpa [mkS] using e)
  rw [beq_eq_false_iff_ne.mpr this, beq_eq_false_iff_ne.mpr h]
theorem c_back {w : List Nat} {Q : V → List O → Prop} {hp : List O} (h : wd w) (hl : w.length ≤ 2 ^ 20) (q : Q (.d (.str (mkS (back w)))) hp) : F__law_back [.d (.str (mkS w))] Q hp := by
 dsimp only [F__law_back, runFn, bPlain, p__law_back]
 refine ⟨rfl, ?_⟩
 dsimp only [List.map_cons, List.map_nil, List.replicate, List.cons_append, List.nil_append, sCons, sAssign, cS, sFor, xVar, sNil, sRet, List.getElem?_cons_zero, List.set_cons_succ, List.set_cons_zero]
 show forL none _ _ _ (signsOf (mkS w)) _ _
 rw [sg]
 refine for_map (g := none) (α := List Nat) (fun c => PyData.str (ch c)) (fun i b vs h => h = hp ∧ b.length = i ∧ ∃ o, vs = [some (.d (.str (mkS w))), some (.d (.str (mkS b))), o])
  (fun b c => iv c :: b) (fun _ _ _ _ _ => trivial) w 0 w.length [] _ _ (by simp) ⟨rfl, rfl, none, rfl⟩ ?_ ?_
 ·rintro i b vs hp' c hi hc ⟨rfl, hb, o, rfl⟩ K hK
  dsimp only [tName, sCons, sNil, sAssign, xBin, cS, xMethS, lCons, lNil, xVar, mFind, List.getElem?_cons_zero, List.getElem?_cons_succ, List.set_cons_zero, List.set_cons_succ]
  refine item_iv (h c hc) ?_
  refine ⟨by show 1 + (mkS b).length ≤ _; rw [mkS_len, sizeLine_eq]; lia, ?_⟩
  rw [mkS_cons]
  exact (hK _ _ ⟨rfl, by simp [hb], _, rfl⟩).1
 ·rintro vs hp' ⟨rfl, _, o, rfl⟩
  have e : ∀ (w b : List Nat), w.foldl (fun b c => iv c :: b) b = (w.map iv).reverse ++ b := by
   intro w
   induction w with
   | nil => intro b; rfl
   | cons c w ih => intro b; dsimp only [List.map_cons, List.foldl_cons, List.reverse_cons]; rw [ih]; simp
  rw [e, List.append_nil]
  exact fin_len rfl q
theorem join_nil (ls : List (List Nat)) : Txt.join (mkS []) (ls.map mkS) = mkS ls.flatten := by
 unfold Txt.join
 rw [StrLaws.glued_eq_join]
 induction ls with
 | nil => rfl
 | cons a ls ih =>
  cases ls with
  | nil => simp [Str.join]
  | cons b ls =>
   show mkS a ++ mkS [] ++ Str.join (mkS []) ((b :: ls).map mkS) = _
   rw [ih]
   show (⟨_ ++ _ ++ _⟩ : Str) = _
   simp
theorem strsOf_map : ∀ l : List Str, strsOf (l.map .str) = some l
 | [] => rfl
 | a :: l => by simp [strsOf, strsOf_map l]
theorem join_mk {ls : List (List Nat)} {v : V} {Q : V → List O → Prop} {hp : List O} (hv : lget v hp = some (ls.map fun w => .str (mkS w))) (hl : ls.flatten.length ≤ 2 ^ 20) (q : Q (.d (.str (mkS ls.flatten))) hp) : mJoin (mkS []) [v] Q hp := by
 refine ⟨_, ls.map mkS, hv, ?_, ?_, ?_⟩
 ·have := strsOf_map (ls.map mkS)
  rw [List.map_map] at this; exact this
 ·exact joinOk (by rw [join_nil, mkS_len]; exact hl) (by decide)
 ·rw [join_nil]; exact q
theorem flat_ch (w : List Nat) : (w.map fun c => [c]).flatten = w := by induction w with | nil => rfl | cons a w ih => simp only [List.map_cons, List.flatten_cons, ih]; rfl
theorem esc_len (w : List Nat) : (w.map fun c => [92, c]).flatten.length = 2 * w.length := by
 induction w with
 | nil => rfl
 | cons a w ih => simp only [List.map_cons, List.flatten_cons, List.length_append, List.length_cons, List.length_nil, ih]; lia
noncomputable def wr (image : List Nat) (way : Int) : List Nat := if way = 0 then image else if way = 1 then 34 :: image ++ [34] else (image.map fun c => [92, c]).flatten
theorem c_written {w : List Nat} {way : Int} {Q : V → List O → Prop} {hp : List O} (hl : w.length ≤ 1000) (q : Q (.d (.str (mkS (wr w way)))) hp) : F__law_written [.d (.str (mkS w)), .d (.int way)] Q hp := by
 simp only [F__law_written, runFn, bPlain, p__law_written]
 refine ⟨rfl, ?_⟩
 simp only [List.map_cons, List.map_nil, List.replicate, List.append_nil, sCons, sIf, bCmp, xVar, cI, opEq, truthV, sNil, sRet, List.getElem?_cons_zero, List.getElem?_cons_succ]
 unfold wr at q
 by_cases h0 : way = 0
 ·subst h0
  rw [if_pos rfl] at q
  exact fin_len rfl q
 ·rw [if_neg h0] at q
  rw [beq_eq_false_iff_ne.mpr h0]
  simp only []
  by_cases h1 : way = 1
  ·subst h1
   rw [if_pos rfl] at q
   simp only [beq_self_eq_true, xBin, cS, xVar, opAdd, List.getElem?_cons_zero]
   refine ⟨by show 1 + (mkS w).length ≤ _; rw [mkS_len, sizeLine_eq]; lia, ?_⟩
   refine ⟨?_, ?_⟩
   ·rw [show (("\"" : Str) ++ mkS w) = mkS (34 :: w) from mkS_cons 34 w, mkS_len]
    show (34 :: w).length + 1 ≤ _
    rw [sizeLine_eq]; simp; lia
   ·have e : (("\"" : Str) ++ mkS w ++ ("\"" : Str)) = mkS (34 :: w ++ [34]) := by
     rw [show (("\"" : Str) ++ mkS w) = mkS (34 :: w) from mkS_cons 34 w]
     exact mkS_snoc (34 :: w) 34
    rw [e]
    exact fin_len rfl q
  ·rw [if_neg h1] at q
   rw [beq_eq_false_iff_ne.mpr h1]
   simp only [xMethS, cS, lCons, lNil]
   refine comp1 (m := false) (v := .d (.str (mkS w))) (xs := w.map fun c => PyData.str (ch c)) (fun _ => true) (fun x => match x with | .str y => .str (("\\" : Str) ++ y) | x => x) ?_ ?_ ?_ ?_ ?_ ?_
   ·intro K k; exact k
   ·show signsOf (mkS w) = _
    rw [sg]
   ·intro x hx l K k; exact k
   ·intro x hx _ l K k
    obtain ⟨c, hc, rfl⟩ := List.mem_map.mp hx
    exact ⟨by show 1 + 1 ≤ sizeLine; rw [sizeLine_eq]; decide, k⟩
   ·rw [List.length_map, sizeLine_eq]; lia
   ·have e : (((w.map fun c => PyData.str (ch c)).filter fun _ => true).map (fun x => match x with | .str y => .str (("\\" : Str) ++ y) | x => x)) = (w.map fun c => [92, c]).map fun w => PyData.str (mkS w) := by
     rw [List.filter_eq_self.mpr (fun _ _ => rfl), List.map_map, List.map_map]
     apply List.map_congr_left
     intro c _
     show PyData.str (ch 92 ++ ch c) = _
     rw [show ch 92 ++ ch c = mkS [92, c] from rfl]
     rfl
    rw [e]
    have hl2 := esc_len w
    exact join_mk rfl (by lia) (fin_len rfl q)
noncomputable def psh (out : List Nat) (c : Nat) : List Nat := if out.getLast? = some (iv c) then out.dropLast else out ++ [c]
noncomputable def prod (w : List Nat) : List Nat := w.foldl psh []
noncomputable def chs (w : List Nat) : List PyData := w.map fun c => .str (ch c)
theorem psh_wd {out : List Nat} {c : Nat} (h : wd out) (hc : isL c = true) : wd (psh out c) := by
 unfold psh
 split
 ·intro d hd; exact h d (List.dropLast_subset _ hd)
 ·exact wd_app.mpr ⟨h, wd_cons.mpr ⟨hc, wd_nil⟩⟩
theorem psh_len (out : List Nat) (c : Nat) : (psh out c).length ≤ out.length + 1 := by
 unfold psh
 split
 ·simp; lia
 ·simp
theorem prod_snoc (u : List Nat) (c : Nat) : prod (u ++ [c]) = psh (prod u) c := by unfold prod; rw [List.foldl_append]; rfl
theorem prod_len (u : List Nat) : (prod u).length ≤ u.length := by
 have : ∀ (u out : List Nat), (u.foldl psh out).length ≤ out.length + u.length := by
  intro u
  induction u with
  | nil => intro out; simp
  | cons c u ih => intro out; have := ih (psh out c); have := psh_len out c; simp only [List.foldl_cons, List.length_cons]; lia
 have := this u []
 simpa [prod] using this
theorem prod_wd {u : List Nat} (h : wd u) : wd (prod u) := by
 have : ∀ (u out : List Nat), wd out → wd u → wd (u.foldl psh out) := by
  intro u
  induction u with
  | nil => intro out h _; exact h
  | cons c u ih => intro out h1 h2; exact ih _ (psh_wd h1 (wd_cons.mp h2).1) (wd_cons.mp h2).2
 exact this u [] wd_nil h
theorem okD_chs {w : List Nat} (h : wd w) : okD (.list (chs w)) = true := by
 refine okD_strs ?_
 intro x hx
 obtain ⟨c, hc, rfl⟩ := List.mem_map.mp hx
 refine ⟨_, rfl, ?_⟩
 have := L_lt (h c hc)
 unfold PyData.strOk
 simp; lia
theorem eqv_nil (l : List PyData) : PyData.eqv (.list l) (.list []) = l.isEmpty := by cases l <;> rfl
theorem item_last {v : V} {out : List Nat} {c : Nat} {K : V → List O → Prop} {hp : List O} (hv : lget v hp = some (chs (out ++ [c]))) (hz : out.length ≤ 2 ^ 20) (hr : ∃ i, v = .r i) (k : K (.d (.str (ch c))) hp) : opItem v (.d (.int (-1))) K hp := by
 obtain ⟨i, rfl⟩ := hr
 refine ⟨by lia, chs (out ++ [c]), hv, ?_⟩
 have e : seqIndex? (-1) (chs (out ++ [c])).length = some out.length := by
  unfold seqIndex? chs
  simp
  lia
 rw [e]
 have e2 : (chs (out ++ [c]))[out.length]? = some (.str (ch c)) := by unfold chs; simp
 simp only [Option.bind_some, e2]
 exact k
theorem c_product {ws : List (List Nat)} {Q : V → List O → Prop} {hp : List O} (h : ∀ w ∈ ws, wd w) (hl : ws.flatten.length ≤ 2 ^ 20) (q : Q (.d (.str (mkS (prod ws.flatten)))) hp) : F__law_product [.d (.list (ws.map fun w => .str (mkS w)))] Q hp := by
 dsimp only [F__law_product, runFn, bPlain, p__law_product]
 refine ⟨rfl, ?_⟩
 dsimp only [List.map_cons, List.map_nil, List.replicate, List.cons_append, List.nil_append, sCons, sAssign, cS, sFor, xVar, sNil, sRet, xList, lNil, datas, mkL, List.getElem?_cons_zero, List.set_cons_succ, List.set_cons_zero]
 refine ⟨by simp [sizeLine_eq], ?_⟩
 show forL none _ _ _ (ws.map fun w => PyData.str (mkS w)) _ _
 refine for_pre (g := none) (fun w => PyData.str (mkS w)) ws (fun pre vs h => h = hp ++ [.lst (chs (prod pre.flatten))] ∧ ∃ o1 o2 o3, vs = [o1, some (.r hp.length), o2, o3])
  (fun _ _ _ _ => trivial) ?_ ?_ ws [] _ _ rfl ⟨rfl, _, none, none, rfl⟩
 ·rintro pre w post vs hp' e ⟨rfl, o1, o2, o3, rfl⟩ K hK
  have hw : wd w := h w (by rw [e]; simp)
  have hpre : wd pre.flatten := by
   intro c hc
   obtain ⟨v, hv, hc⟩ := List.mem_flatten.mp hc
   exact h v (by rw [e]; simp [hv]) c hc
  have hlen : pre.flatten.length + w.length ≤ 2 ^ 20 := by
   rw [e] at hl
   simp only [List.flatten_append, List.flatten_cons, List.length_append] at hl
   lia
  dsimp only [tName, sCons, sNil, sFor, xVar, List.getElem?_cons_zero, List.getElem?_cons_succ, List.set_cons_zero, List.set_cons_succ]
  show forL none _ _ _ (signsOf (mkS w)) _ _
  rw [sg]
  refine for_pre (g := none) (fun c => PyData.str (ch c)) w (fun p vs h => h = hp ++ [.lst (chs (prod (pre.flatten ++ p)))] ∧ ∃ o1 o2 o3, vs = [o1, some (.r hp.length), o2, o3])
   (fun _ _ _ _ => trivial) ?_ ?_ w [] _ _ rfl ⟨by rw [List.append_nil], _, _, _, rfl⟩
  ·rintro p c pst vs hp' e' ⟨rfl, o1, o2, o3, rfl⟩ K' hK'
   have hc : isL c = true := hw c (by rw [e']; simp)
   have hpp : wd (prod (pre.flatten ++ p)) := prod_wd (wd_app.mpr ⟨hpre, fun d hd => hw d (by rw [e']; simp [hd])⟩)
   have hll := prod_len (pre.flatten ++ p)
   rw [List.length_append] at hll
   have hpl : p.length < w.length := by rw [e']; simp
   have hpc : prod (pre.flatten ++ (p ++ [c])) = psh (prod (pre.flatten ++ p)) c := by rw [← List.append_assoc]; exact prod_snoc _ _
   dsimp only [tName, sIf, bAnd, bCmp, xVar, xList, lNil, datas, mkL, List.getElem?_cons_zero, List.getElem?_cons_succ, List.set_cons_zero, List.set_cons_succ]
   generalize hout : prod (pre.flatten ++ p) = out at *
   refine ⟨by simp [sizeLine_eq], ?_⟩
   refine ⟨.list (chs out), .list [], by unfold dget; simp, rfl, okD_chs hpp, rfl, ?_⟩
   rw [eqv_nil]
   dsimp only [truthV]
   rcases List.eq_nil_or_concat out with ho | ⟨out', d, ho⟩
   ·subst ho
    dsimp only [chs, List.map_nil, List.isEmpty_nil, Bool.not_true, sExpr, xMethL, lCons, lNil, xVar, List.getElem?_cons_zero, List.getElem?_cons_succ]
    refine ⟨by rw [lget_last]; rfl, by rw [lget_last]; rfl, ?_⟩
    unfold mAppend
    dsimp only
    refine atL_last ⟨by simp, ?_⟩
    rw [set_last]
    refine (hK' _ _ ⟨?_, _, _, _, rfl⟩).1
    rw [hpc]
    rfl
   ·rw [List.concat_eq_append] at ho
    subst ho
    have e1 : (chs (out' ++ [d])).isEmpty = false := by unfold chs; simp
    rw [e1]
    dsimp only [Bool.not_false, bCmp, xBin, xVar, xNeg, cI, cS, xMethS, lCons, lNil, mFind, List.getElem?_cons_zero, List.getElem?_cons_succ]
    refine item_last (c := d) (out := out') lget_last (by rw [List.length_append] at hll; lia) ⟨_, rfl⟩ ?_
    refine item_iv hc ?_
    show opEq (.d (.str (ch d))) (.d (.str (ch (iv c)))) _ _
    simp only [opEq, truthV, ch_beq]
    have lastE : (out' ++ [d]).getLast? = some d := by simp
    by_cases hd : d = iv c
    ·rw [beq_iff_eq.mpr hd]
     simp only [sExpr, xMethL, lNil, xVar, List.getElem?_cons_zero, List.getElem?_cons_succ]
     refine ⟨by rw [lget_last]; rfl, by rw [lget_last]; rfl, ?_⟩
     unfold mPop
     dsimp only
     refine atL_last ?_
     have e2 : (chs (out' ++ [d])).getLast? = some (.str (ch d)) := by unfold chs; simp
     rw [e2]
     refine ⟨by unfold chs; rw [List.length_map, sizeLine_eq]; lia, ?_⟩
     rw [set_last]
     refine (hK' _ _ ⟨?_, _, _, _, rfl⟩).1
     rw [hpc]
     unfold psh
     rw [lastE, if_pos (by rw [hd])]
     unfold chs; simp
    ·rw [beq_eq_false_iff_ne.mpr hd]
     dsimp only [sExpr, xMethL, lCons, lNil, xVar, List.getElem?_cons_zero, List.getElem?_cons_succ]
     refine ⟨by rw [lget_last]; rfl, by rw [lget_last]; rfl, ?_⟩
     unfold mAppend
     dsimp only
     refine atL_last ⟨by unfold chs; rw [List.length_map, sizeLine_eq]; lia, ?_⟩
     rw [set_last]
     refine (hK' _ _ ⟨?_, _, _, _, rfl⟩).1
     rw [hpc]
     unfold psh
     rw [lastE, if_neg (by simpa using hd)]
     unfold chs; simp
  ·rintro vs hp' ⟨rfl, o1, o2, o3, rfl⟩
   refine (hK _ _ ⟨?_, _, _, _, rfl⟩).1
   rw [List.flatten_append, List.flatten_cons, List.flatten_nil, List.append_nil]
 ·rintro vs hp' ⟨rfl, o1, o2, o3, rfl⟩
  dsimp only [xMethS, cS, lCons, lNil, xVar, List.getElem?_cons_zero, List.getElem?_cons_succ]
  have hz := prod_len ws.flatten
  refine join_mk (ls := (prod ws.flatten).map fun c => [c]) ?_ (by rw [flat_ch]; lia) ?_
  ·rw [lget_last, List.map_map]; rfl
  ·rw [flat_ch]
   refine fin_same ?_
   rw [List.take_left]
   exact q
end Mine
namespace Mine
noncomputable def rp (st : List Nat) (c : Nat) : List Nat := match st with
 | d :: v => if d = iv c then v else c :: d :: v
 | [] => [c]
noncomputable def run (st w : List Nat) : List Nat := w.foldl rp st
noncomputable def Rd : List Nat → Prop
 | [] => True
 | [c] => isL c = true
 | d :: c :: v => isL d = true ∧ d ≠ iv c ∧ Rd (c :: v)
theorem Rd.tail {c : Nat} {v : List Nat} (h : Rd (c :: v)) : Rd v := by
 cases v with
 | nil => trivial
 | cons d v => exact h.2.2
theorem Rd.head {c : Nat} {v : List Nat} (h : Rd (c :: v)) : isL c = true := by
 cases v with
 | nil => exact h
 | cons d v => exact h.1
theorem Rd.wd : ∀ {v : List Nat}, Rd v → wd v
 | [], _ => wd_nil
 | c :: v, h => wd_cons.mpr ⟨h.head, Rd.wd h.tail⟩
theorem ne_iv {c d : Nat} (hc : isL c = true) (hd : isL d = true) : d ≠ iv c ↔ c ≠ iv d :=
 ⟨fun h e => h (by rw [e, iv_iv hd]), fun h e => h (by rw [e, iv_iv hc])⟩
theorem rp_Rd {st : List Nat} {c : Nat} (h : Rd st) (hc : isL c = true) : Rd (rp st c) := by
 cases st with
 | nil => exact hc
 | cons d v =>
  unfold rp
  simp only
  split
  ·exact h.tail
  ·rename_i hne
   exact ⟨hc, (ne_iv hc h.head).mp hne, h⟩
theorem rp_back {st : List Nat} {c : Nat} (h : Rd st) (hc : isL c = true) : rp (rp st c) (iv c) = st := by
 cases st with
 | nil =>
  show rp [c] (iv c) = []
  unfold rp
  simp only [iv_iv hc, if_true]
 | cons d v =>
  by_cases e : d = iv c
  ·have e1 : rp (d :: v) c = v := by unfold rp; simp only [if_pos e]
   rw [e1]
   subst e
   cases v with
   | nil => rfl
   | cons b v =>
    unfold rp
    simp only [iv_iv hc]
    have hb : b ≠ c := by
     intro e
     have := h.2.1
     rw [e] at this
     exact this rfl
    rw [if_neg hb]
  ·have e1 : rp (d :: v) c = c :: d :: v := by unfold rp; simp only [if_neg e]
   rw [e1]
   unfold rp
   simp only [iv_iv hc, if_true]
theorem run_app (st u v : List Nat) : run st (u ++ v) = run (run st u) v := by unfold run; rw [List.foldl_append]
theorem run_cons (st : List Nat) (c : Nat) (v : List Nat) : run st (c :: v) = run (rp st c) v := rfl
theorem run_Rd {st w : List Nat} (h : Rd st) (hw : wd w) : Rd (run st w) := by
 induction w generalizing st with
 | nil => exact h
 | cons c w ih => exact ih (rp_Rd h (wd_cons.mp hw).1) (wd_cons.mp hw).2
theorem run_fix {st v : List Nat} (h : Rd (v ++ st)) : run st v.reverse = v ++ st := by
 induction v with
 | nil => rfl
 | cons c v ih =>
  have h' : Rd (v ++ st) := Rd.tail h
  rw [List.reverse_cons, run_app, ih h']
  show rp (v ++ st) c = _
  cases hq : v ++ st with
  | nil => simp [rp, hq]
  | cons d t =>
   rw [List.cons_append, hq] at h
   unfold rp
   simp only
   rw [if_neg ((ne_iv h.2.2.head h.1).mp h.2.1), List.cons_append, hq]
noncomputable def Eqv (u v : List Nat) : Prop := ∀ st, Rd st → run st u = run st v
theorem Eqv.refl (u : List Nat) : Eqv u u := fun _ _ => rfl
theorem Eqv.symm {u v : List Nat} (h : Eqv u v) : Eqv v u := fun st r => (h st r).symm
theorem Eqv.trans {u v w : List Nat} (h : Eqv u v) (k : Eqv v w) : Eqv u w := fun st r => (h st r).trans (k st r)
theorem Eqv.app {u u' v v' : List Nat} (hu : wd u) (h : Eqv u u') (k : Eqv v v') : Eqv (u ++ v) (u' ++ v') := fun st r => by
 rw [run_app, run_app, ← h st r]
 exact k _ (run_Rd r hu)
theorem eqv_pair {c : Nat} (hc : isL c = true) : Eqv [c, iv c] [] := fun st r => rp_back r hc
theorem eqv_pair' {c : Nat} (hc : isL c = true) : Eqv [iv c, c] [] := fun st r => by
 have := rp_back (c := iv c) r (iv_L hc)
 rw [iv_iv hc] at this
 exact this
theorem eqv_back : ∀ {w : List Nat}, wd w → Eqv (w ++ back w) []
 | [], _ => Eqv.refl _
 | c :: w, h => by
  have hc := (wd_cons.mp h).1
  have hw := (wd_cons.mp h).2
  have e : c :: w ++ back (c :: w) = [c] ++ ((w ++ back w) ++ [iv c]) := by simp [back]
  rw [e]
  have k1 : Eqv ((w ++ back w) ++ [iv c]) ([] ++ [iv c]) := Eqv.app (wd_app.mpr ⟨hw, wd_back hw⟩) (eqv_back hw) (Eqv.refl _)
  exact (Eqv.app (wd_cons.mpr ⟨hc, wd_nil⟩) (Eqv.refl [c]) k1).trans (eqv_pair hc)
theorem back_back {w : List Nat} (h : wd w) : back (back w) = w := by
 unfold back
 rw [List.map_reverse, List.reverse_reverse, List.map_map]
 conv => rhs; rw [← List.map_id w]
 apply List.map_congr_left
 intro c hc
 exact iv_iv (h c hc)
theorem eqv_back' {w : List Nat} (h : wd w) : Eqv (back w ++ w) [] := by
 have := eqv_back (wd_back h)
 rwa [back_back h] at this
noncomputable def norm (w : List Nat) : List Nat := (run [] w).reverse
theorem norm_wd {w : List Nat} (h : wd w) : wd (norm w) := by
 intro c hc
 exact (run_Rd (st := []) trivial h).wd c (List.mem_reverse.mp hc)
theorem eqv_norm {w : List Nat} (h : wd w) : Eqv w (norm w) := by
 have key : ∀ n, ∀ w : List Nat, w.length = n → wd w → Eqv w (norm w) := by
  intro n
  induction n with
  | zero => intro w hl h; rw [List.eq_nil_of_length_eq_zero hl]; exact Eqv.refl _
  | succ n ih =>
   intro w hl h
   obtain ⟨u, c, rfl⟩ : ∃ u c, w = u ++ [c] := by
    rcases List.eq_nil_or_concat w with rfl | ⟨u, c, e⟩
    ·simp at hl
    ·exact ⟨u, c, by rw [e, List.concat_eq_append]⟩
   have hu : wd u := (wd_app.mp h).1
   have hc : isL c = true := (wd_cons.mp (wd_app.mp h).2).1
   have ihu := ih u (by simpa using hl) hu
   have R := run_Rd (st := []) (w := u) trivial hu
   have e1 : Eqv (u ++ [c]) (norm u ++ [c]) := Eqv.app hu ihu (Eqv.refl _)
   refine e1.trans ?_
   unfold norm
   rw [run_app]
   cases hr : run [] u with
   | nil => exact Eqv.refl _
   | cons d v =>
    rw [hr] at R
    show Eqv _ (rp (d :: v) c).reverse
    unfold rp
    simp only
    by_cases e : d = iv c
    ·rw [if_pos e, List.reverse_cons, List.append_assoc, e]
     have : Eqv (v.reverse ++ ([iv c] ++ [c])) (v.reverse ++ []) := Eqv.app (fun x hx => R.tail.wd x (List.mem_reverse.mp hx)) (Eqv.refl _) (eqv_pair' hc)
     rw [List.append_nil] at this
     exact this
    ·rw [if_neg e, List.reverse_cons (a := c)]
     exact Eqv.refl _
 exact key _ w rfl h
theorem norm_of_eqv {u v : List Nat} (h : Eqv u v) : norm u = norm v := by unfold norm; rw [h [] trivial]
theorem eqv_of_norm {u v : List Nat} (hu : wd u) (hv : wd v) (h : norm u = norm v) : Eqv u v := (eqv_norm hu).trans (by rw [h]; exact (eqv_norm hv).symm)
structure Hom (φ : Nat → List Nat) : Prop where
 wd : ∀ c, isL c = true → wd (φ c)
 iv : ∀ c, isL c = true → φ (iv c) = back (φ c)
noncomputable def sb (φ : Nat → List Nat) (w : List Nat) : List Nat := (w.map φ).flatten
theorem sb_app (φ : Nat → List Nat) (u v : List Nat) : sb φ (u ++ v) = sb φ u ++ sb φ v := by unfold sb; simp
theorem sb_wd {φ : Nat → List Nat} (H : Hom φ) {w : List Nat} (h : Mine.wd w) : Mine.wd (sb φ w) := by
 intro c hc
 obtain ⟨l, hl, hc⟩ := List.mem_flatten.mp hc
 obtain ⟨d, hd, rfl⟩ := List.mem_map.mp hl
 exact H.wd d (h d hd) c hc
theorem sb_back {φ : Nat → List Nat} (H : Hom φ) : ∀ {w : List Nat}, Mine.wd w → sb φ (back w) = back (sb φ w)
 | [], _ => rfl
 | c :: w, h => by
  have e : back (c :: w) = back w ++ [Mine.iv c] := by simp [back]
  rw [e, sb_app, sb_back H (wd_cons.mp h).2]
  have e2 : sb φ (c :: w) = φ c ++ sb φ w := by simp [sb]
  rw [e2, back_app]
  have e3 : sb φ [Mine.iv c] = back (φ c) := by simp [sb, H.iv c (wd_cons.mp h).1]
  rw [e3]
theorem sb_norm {φ : Nat → List Nat} (H : Hom φ) {w : List Nat} (h : Mine.wd w) : Eqv (sb φ w) (sb φ (norm w)) := by
 have key : ∀ n, ∀ w : List Nat, w.length = n → Mine.wd w → Eqv (sb φ w) (sb φ (norm w)) := by
  intro n
  induction n with
  | zero => intro w hl h; rw [List.eq_nil_of_length_eq_zero hl]; exact Eqv.refl _
  | succ n ih =>
   intro w hl h
   obtain ⟨u, c, rfl⟩ : ∃ u c, w = u ++ [c] := by
    rcases List.eq_nil_or_concat w with rfl | ⟨u, c, e⟩
    ·simp at hl
    ·exact ⟨u, c, by rw [e, List.concat_eq_append]⟩
   have hu : Mine.wd u := (wd_app.mp h).1
   have hc : isL c = true := (wd_cons.mp (wd_app.mp h).2).1
   have ihu := ih u (by simpa using hl) hu
   have R := run_Rd (st := []) (w := u) trivial hu
   rw [sb_app]
   have e1 : Eqv (sb φ u ++ sb φ [c]) (sb φ (norm u) ++ sb φ [c]) := Eqv.app (sb_wd H hu) ihu (Eqv.refl _)
   refine e1.trans ?_
   unfold norm
   rw [run_app]
   cases hr : run [] u with
   | nil => exact Eqv.refl _
   | cons d v =>
    rw [hr] at R
    have hv : Mine.wd v.reverse := fun x hx => R.tail.wd x (List.mem_reverse.mp hx)
    show Eqv _ (sb φ (rp (d :: v) c).reverse)
    unfold rp
    simp only
    by_cases e : d = Mine.iv c
    ·rw [if_pos e, List.reverse_cons, sb_app, List.append_assoc, e]
     have e3 : sb φ [Mine.iv c] ++ sb φ [c] = back (φ c) ++ φ c := by simp [sb, H.iv c hc]
     rw [e3]
     have : Eqv (sb φ v.reverse ++ (back (φ c) ++ φ c)) (sb φ v.reverse ++ []) := Eqv.app (sb_wd H hv) (Eqv.refl _) (eqv_back' (H.wd c hc))
     rw [List.append_nil] at this
     exact this
    ·rw [if_neg e, List.reverse_cons (a := c), sb_app]
     exact Eqv.refl _
 exact key _ w rfl h
theorem sb_eqv {φ : Nat → List Nat} (H : Hom φ) {u v : List Nat} (hu : Mine.wd u) (hv : Mine.wd v) (h : Eqv u v) : Eqv (sb φ u) (sb φ v) :=
 (sb_norm H hu).trans (by rw [norm_of_eqv h]; exact (sb_norm H hv).symm)
end Mine
namespace Mine
open PySem
noncomputable def rules4 : List (List Nat × List Nat) := [([97, 65], []), ([65, 97], []), ([98, 66], []), ([66, 98], [])]
theorem rule_of {p : List Nat} (h : p ≠ []) (h2 : 0 < Mt p) : Rule p [] := ⟨h, Nat.zero_le _, Nat.zero_le _, h2⟩
theorem rules4_ok : ∀ r ∈ rules4, Rule r.1 r.2 := by
 intro r hr
 simp only [rules4, List.mem_cons, List.not_mem_nil, or_false] at hr
 rcases hr with rfl | rfl | rfl | rfl <;> exact rule_of (by decide) (by decide)
noncomputable abbrev RW := { a : List Nat // Rd a }
noncomputable def act1 (a : RW) (c : Nat) : RW := if h : isL c = true then ⟨rp a.1 c, rp_Rd a.2 h⟩ else a
noncomputable def actW (u : List Nat) (a : RW) : RW := u.foldl act1 a
theorem actW_run : ∀ (u : List Nat) (a : RW), wd u → (actW u a).1 = run a.1 u
 | [], a, _ => rfl
 | c :: u, a, h => by
  have hc := (wd_cons.mp h).1
  show (actW u (act1 a c)).1 = run (rp a.1 c) u
  rw [actW_run u _ (wd_cons.mp h).2]
  unfold act1
  rw [dif_pos hc]
theorem act_pair {c : Nat} (hc : isL c = true) (a : RW) : actW [] a = actW [c, iv c] a := by
 refine Subtype.ext ?_
 rw [actW_run [c, iv c] a (wd_cons.mpr ⟨hc, wd_cons.mpr ⟨iv_L hc, wd_nil⟩⟩)]
 exact (rp_back a.2 hc).symm
theorem struck_eqv {x : List Nat} (h : wd x) (h' : wd (stepR rules4 x)) : Eqv (stepR rules4 x) x := by
 intro st r
 have k := step_keep (f := actW) (fun u v a => by unfold actW; rw [List.foldl_append]) rules4 x ⟨st, r⟩ (by
  intro s hs
  simp only [rules4, List.mem_cons, List.not_mem_nil, or_false] at hs
  rcases hs with rfl | rfl | rfl | rfl
  ·exact ⟨by decide, fun a => act_pair (c := 97) rfl a⟩
  ·exact ⟨by decide, fun a => act_pair (c := 65) rfl a⟩
  ·exact ⟨by decide, fun a => act_pair (c := 98) rfl a⟩
  ·exact ⟨by decide, fun a => act_pair (c := 66) rfl a⟩)
 have k' := congrArg Subtype.val k
 rwa [actW_run _ _ h', actW_run _ _ h] at k'
theorem struck_wd {x : List Nat} (h : wd x) : wd (stepR rules4 x) := step_mem rules4 x (fun r hr c hc => by
 simp only [rules4, List.mem_cons, List.not_mem_nil, or_false] at hr
 rcases hr with rfl | rfl | rfl | rfl <;> cases hc) h
theorem no_pair {c d : Nat} {l : List Nat} (hc : isL c = true) (h : ∀ r ∈ rules4, has r.1 (c :: d :: l) = false) : d ≠ iv c := by
 intro e
 subst e
 have key : ∀ p, p ∈ rules4.map (·.1) → has p (c :: iv c :: l) = false := by
  intro p hp
  obtain ⟨r, hr, rfl⟩ := List.mem_map.mp hp
  exact h r hr
 have m : [c, iv c] ∈ rules4.map (·.1) := by rcases L4 hc with rfl | rfl | rfl | rfl <;> decide
 have := key _ m
 simp [has] at this
theorem irr_run : ∀ (x st : List Nat), wd x → (∀ r ∈ rules4, has r.1 x = false) → (∀ d v c l, st = d :: v → x = c :: l → d ≠ iv c) → run st x = x.reverse ++ st
 | [], st, _, _, _ => rfl
 | c :: l, st, hw, h, hs => by
  have hc := (wd_cons.mp hw).1
  have hl : ∀ r ∈ rules4, has r.1 l = false := by
   intro r hr
   have := h r hr
   simp only [has, Bool.or_eq_false_iff] at this
   exact this.2
  have e : rp st c = c :: st := by
   cases st with
   | nil => rfl
   | cons d v =>
    unfold rp
    simp only
    rw [if_neg (hs d v c l rfl rfl)]
  rw [run_cons, e, irr_run l (c :: st) (wd_cons.mp hw).2 hl ?_, List.reverse_cons, List.append_assoc]
  ·rfl
  ·intro d v c2 l2 e1 e2
   cases e1
   subst e2
   have := no_pair hc h
   exact (ne_iv hc (wd_cons.mp (wd_cons.mp hw).2).1).mp this
theorem irr_norm {x : List Nat} (hw : wd x) (h : ∀ r ∈ rules4, has r.1 x = false) : norm x = x := by
 unfold norm
 rw [irr_run x [] hw h (by intro d v c l e; cases e), List.append_nil, List.reverse_reverse]
theorem psh_rp (st : List Nat) (c : Nat) : psh st.reverse c = (rp st c).reverse := by
 cases st with
 | nil => rfl
 | cons d v =>
  unfold psh rp
  simp only
  have e : (d :: v).reverse.getLast? = some d := by simp
  rw [e]
  by_cases h : d = iv c
  ·rw [if_pos (by rw [h]), if_pos h]; simp
  ·rw [if_neg (by simpa using h), if_neg h]; simp
theorem prod_norm (w : List Nat) : prod w = norm w := by
 have : ∀ (w st : List Nat), w.foldl psh st.reverse = (run st w).reverse := by
  intro w
  induction w with
  | nil => intro st; rfl
  | cons c w ih => intro st; rw [List.foldl_cons, psh_rp, ih]; rfl
 exact this w []
theorem norm_len (w : List Nat) : (norm w).length ≤ w.length := by rw [← prod_norm]; exact prod_len w
theorem norm_norm {w : List Nat} (h : wd w) : norm (norm w) = norm w := (norm_of_eqv (eqv_norm h)).symm
theorem okR4 : ∀ (rs : List (List Nat × List Nat)) (x : List Nat), (∀ r ∈ rs, Rule r.1 r.2 ∧ (∀ c ∈ r.1, c < 128) ∧ r.2 = []) → x.length ≤ 2 ^ 19 → (∀ c ∈ x, c < 128) → okR rs x
 | [], x, _, h, ha => ⟨by lia, ha⟩
 | r :: rs, x, hr, h, ha => by
  obtain ⟨h1, h2, h3⟩ := hr r List.mem_cons_self
  have le := (rep_less h1 x.length x (Nat.le_refl _)).1
  have hm : ∀ c ∈ repL r.1 r.2 0 x, c < 128 := rep_mem (P := fun c => c < 128) (by rw [h3]; intro c hc; cases hc) x 0 ha
  refine ⟨⟨by lia, ha⟩, h1.ne, h2, ?_, okR4 rs _ (fun s hs => hr s (List.mem_cons_of_mem _ hs)) (by lia) hm⟩
  all_goals first | (rw [h3]; simp) | lia
theorem rules4_S : (["aA", "", "Aa", "", "bB", "", "Bb", ""] : List Str).map .str = flatD rules4 := by
 have e : (["aA", "", "Aa", "", "bB", "", "Bb", ""] : List Str) = [mkS [97, 65], mkS [], mkS [65, 97], mkS [], mkS [98, 66], mkS [], mkS [66, 98], mkS []] := by decide +kernel
 rw [e]; rfl
theorem c_struck {w : List Nat} {Q : V → List O → Prop} {hp : List O} (hw : w.length ≤ 2 ^ 19) (ha : wd w) (q : Q (.d (.str (mkS (norm w)))) hp) : F__law_struck [.d (.str (mkS w))] Q hp := by
 simp only [F__law_struck, runFn, bPlain, p__law_struck]
 refine ⟨rfl, ?_⟩
 simp only [List.map_cons, List.map_nil, List.replicate, List.cons_append, List.nil_append]
 have go : ∀ (n : Nat) (x : List Nat) (o : Option V) (QQ : QS), Mt x < n → x.length ≤ w.length → wd x → Eqv x w → (∀ vs, QQ (.ret (.d (.str (mkS (norm w))))) vs hp) →
   whileN (bVal (cB true)) (sCons (sAssign 1 (xCall F_replace (lCons (xVar 0) (lStrs ["aA", "", "Aa", "", "bB", "", "Bb", ""])))) (sCons (sIf (bCmp opEq (xVar 1) (xVar 0)) (sCons (sRet (xVar 0)) sNil) sNil) (sCons (sAssign 0 (xVar 1)) sNil))) QQ n [some (.d (.str (mkS x))), o] hp := by
  intro n
  induction n with
  | zero => intro x o QQ h; exact absurd h (Nat.not_lt_zero _)
  | succ n ih =>
   intro x o QQ hm hl hx hax hQ
   simp only [whileN, bVal, cB, truthV, sCons, sAssign, sIf, sRet, bCmp, xVar, xCall, lCons, lStrs, sNil, List.getElem?_cons_zero, List.getElem?_cons_succ, List.set_cons_zero, List.set_cons_succ]
   have e : (["aA", "", "Aa", "", "bB", "", "Bb", ""] : List Str).map (fun x => V.d (.str x)) = (flatD rules4).map .d := by rw [← rules4_S, List.map_map]; rfl
   rw [e]
   refine c_replace (by decide) (okR4 rules4 x (fun r hr => ⟨rules4_ok r hr, ?_, ?_⟩) (by lia) (fun c hc => L_lt (hx c hc))) ?_
   ·simp only [rules4, List.mem_cons, List.not_mem_nil, or_false] at hr
    rcases hr with rfl | rfl | rfl | rfl <;> decide
   ·simp only [rules4, List.mem_cons, List.not_mem_nil, or_false] at hr
    rcases hr with rfl | rfl | rfl | rfl <;> rfl
   show opEq (.d (.str (mkS (stepR rules4 x)))) (.d (.str (mkS x))) _ hp
   simp only [opEq, truthV, mkS_beq]
   have sl := step_less rules4 x rules4_ok
   have sw := struck_wd hx
   have sa := struck_eqv hx sw
   cases hb : (stepR rules4 x == x) with
   | true =>
    have e := beq_iff_eq.mp hb
    have hirr : ∀ r ∈ rules4, has r.1 x = false := by
     rcases sl.2 with h | h
     ·exact h.2
     ·rw [e] at h; exact absurd h (Nat.lt_irrefl _)
    have en : norm w = x := by rw [← norm_of_eqv hax]; exact irr_norm hx hirr
    rw [← en] at *
    exact hQ _
   | false =>
    have lt : Mt (stepR rules4 x) < Mt x := by
     rcases sl.2 with h | h
     ·rw [h.1] at hb; simp at hb
     ·exact h
    exact ih (stepR rules4 x) _ QQ (by lia) (Nat.le_trans sl.1 hl) sw (sa.trans hax) hQ
 exact ⟨Mt w + 1, go _ w _ _ (Nat.lt_succ_self _) (Nat.le_refl _) ha (Eqv.refl _) (fun vs => fin_len rfl q)⟩
noncomputable def phi (c : Nat) (im : List Nat) (d : Nat) : List Nat := if d = c then im else if d = iv c then back im else [d]
theorem phi_hom {c : Nat} {im : List Nat} (hc : isL c = true) (hi : wd im) : Hom (phi c im) := by
 constructor
 ·intro d hd
  unfold phi
  split
  ·exact hi
  ·split
   ·exact wd_back hi
   ·exact wd_cons.mpr ⟨hd, wd_nil⟩
 ·intro d hd
  unfold phi
  by_cases h1 : d = c
  ·subst h1
   rw [if_neg (iv_ne hd), if_pos rfl, if_pos rfl]
  ·by_cases h2 : d = iv c
   ·subst h2
    rw [iv_iv hc, if_pos rfl, if_neg h1, if_pos rfl, back_back hi]
   ·have e1 : iv d ≠ c := fun e => h2 (by rw [← e, iv_iv hd])
    have e2 : iv d ≠ iv c := fun e => h1 (by rw [← iv_iv hd, e, iv_iv hc])
    rw [if_neg e1, if_neg e2, if_neg h1, if_neg h2]
    rfl
noncomputable def r1 (c : Nat) (q x : List Nat) : List Nat := (x.map fun d => if d = c then q else [d]).flatten
theorem r1_app (c : Nat) (q u v : List Nat) : r1 c q (u ++ v) = r1 c q u ++ r1 c q v := by unfold r1; simp
theorem r1_none {c : Nat} {q : List Nat} : ∀ {x : List Nat}, (∀ d ∈ x, d ≠ c) → r1 c q x = x
 | [], _ => rfl
 | d :: x, h => by
  have := r1_none (q := q) (fun e he => h e (List.mem_cons_of_mem _ he))
  unfold r1 at this ⊢
  rw [List.map_cons, List.flatten_cons, this, if_neg (h d List.mem_cons_self)]
  rfl
theorem rep_r1 (c : Nat) (q : List Nat) : ∀ x : List Nat, repL [c] q 0 x = r1 c q x
 | [] => rfl
 | d :: x => by
  by_cases h : d = c
  ·subst h
   rw [repL_hit (by simp)]
   show q ++ repL [d] q 0 x = _
   rw [rep_r1]
   simp [r1]
  ·have hm : [c].isPrefixOf (d :: x) = false := by
    simp [List.isPrefixOf]
    exact fun e => h e.symm
   rw [repL_miss hm, rep_r1]
   simp [r1, h]
theorem r1_len {c : Nat} {q : List Nat} {n : Nat} (hq : q.length ≤ n) (hn : 1 ≤ n) : ∀ x : List Nat, (r1 c q x).length ≤ n * x.length
 | [] => by simp [r1]
 | d :: x => by
  have := r1_len (c := c) hq hn x
  have e : r1 c q (d :: x) = (if d = c then q else [d]) ++ r1 c q x := by simp [r1]
  rw [e, List.length_append, List.length_cons, Nat.mul_add]
  have : (if d = c then q else [d]).length ≤ n := by
   split
   ·exact hq
   ·exact hn
  lia
theorem r1_mem {c : Nat} {q : List Nat} {P : Nat → Prop} (hq : ∀ d ∈ q, P d) {x : List Nat} (hx : ∀ d ∈ x, P d) : ∀ d ∈ r1 c q x, P d := by
 intro d hd
 obtain ⟨l, hl, hd⟩ := List.mem_flatten.mp hd
 obtain ⟨e, he, rfl⟩ := List.mem_map.mp hl
 split at hd
 ·exact hq d hd
 ·rw [List.mem_singleton.mp hd]; exact hx e he
theorem putin1 {c : Nat} {im x : List Nat} (hc : isL c = true) (hi : wd im) (hx : wd x) : replA [([c], [45]), ([iv c], back im), ([45], im)] x = sb (phi c im) x := by
 have e : ∀ x, replA [([c], [45]), ([iv c], back im), ([45], im)] x = r1 45 im (r1 (iv c) (back im) (r1 c [45] x)) := by
  intro x
  show repL [45] im 0 (repL [iv c] (back im) 0 (repL [c] [45] 0 x)) = _
  rw [rep_r1, rep_r1, rep_r1]
 rw [e]
 have no45 : ∀ {w : List Nat}, wd w → ∀ d ∈ w, d ≠ 45 := fun hw d hd e => by
  have := L4 (hw d hd)
  lia
 induction x with
 | nil => rfl
 | cons d x ih =>
  have hd := (wd_cons.mp hx).1
  have e2 : ∀ (q : List Nat) (c : Nat), r1 c q (d :: x) = r1 c q [d] ++ r1 c q x := fun q c => r1_app c q [d] x
  rw [e2, r1_app, r1_app, ih (wd_cons.mp hx).2]
  have e3 : sb (phi c im) (d :: x) = phi c im d ++ sb (phi c im) x := by simp [sb]
  rw [e3]
  congr 1
  have c4 := L4 hc
  unfold phi
  by_cases h1 : d = c
  ·subst h1
   rw [if_pos rfl]
   have s1 : r1 d [45] [d] = [45] := by simp [r1]
   have s2 : r1 (iv d) (back im) [45] = [45] := r1_none (by intro y hy; rw [List.mem_singleton.mp hy]; have := L4 (iv_L hc); lia)
   have s3 : r1 45 im [45] = im := by simp [r1]
   rw [s1, s2, s3]
  ·rw [if_neg h1]
   have s1 : r1 c [45] [d] = [d] := r1_none (by intro y hy; rw [List.mem_singleton.mp hy]; exact h1)
   rw [s1]
   by_cases h2 : d = iv c
   ·rw [if_pos h2]
    have s2 : r1 (iv c) (back im) [d] = back im := by simp [r1, h2]
    rw [s2]
    exact r1_none (no45 (wd_back hi))
   ·rw [if_neg h2]
    have s2 : r1 (iv c) (back im) [d] = [d] := r1_none (by intro y hy; rw [List.mem_singleton.mp hy]; exact h2)
    rw [s2]
    exact r1_none (by intro y hy; rw [List.mem_singleton.mp hy]; exact no45 hx d List.mem_cons_self)
theorem okR_put {c : Nat} {im x : List Nat} (hc : isL c = true) (hi : wd im) (hl : im.length ≤ 2) (hx : wd x) (hz : x.length ≤ 2 ^ 17) : okR [([c], [45]), ([iv c], back im), ([45], im)] x := by
 have lt : ∀ {w : List Nat}, wd w → ∀ d ∈ w, d < 128 := fun hw d hd => L_lt (hw d hd)
 have m1 : ∀ d ∈ r1 c [45] x, d < 128 := r1_mem (by intro d hd; rw [List.mem_singleton.mp hd]; decide) (lt hx)
 have m2 : ∀ d ∈ r1 (iv c) (back im) (r1 c [45] x), d < 128 := r1_mem (lt (wd_back hi)) m1
 have m3 : ∀ d ∈ r1 45 im (r1 (iv c) (back im) (r1 c [45] x)), d < 128 := r1_mem (lt hi) m2
 have l1 := r1_len (c := c) (q := [45]) (n := 1) (by simp) (by lia) x
 have l2 := r1_len (c := iv c) (q := back im) (n := 2) (by rw [back_len]; exact hl) (by lia) (r1 c [45] x)
 have l3 := r1_len (c := 45) (q := im) (n := 2) hl (by lia) (r1 (iv c) (back im) (r1 c [45] x))
 refine ⟨⟨by lia, lt hx⟩, by simp, by intro d hd; rw [List.mem_singleton.mp hd]; exact L_lt hc, by simp, ?_⟩
 show okR [([iv c], back im), ([45], im)] (repL [c] [45] 0 x)
 rw [rep_r1]
 refine ⟨⟨by lia, m1⟩, by simp, by intro d hd; rw [List.mem_singleton.mp hd]; exact L_lt (iv_L hc), by rw [back_len]; lia, ?_⟩
 show okR [([45], im)] (repL [iv c] (back im) 0 _)
 rw [rep_r1]
 refine ⟨⟨by lia, m2⟩, by simp, by intro d hd; rw [List.mem_singleton.mp hd]; decide, by show im.length ≤ _; lia, ?_⟩
 show okR [] (repL [45] im 0 _)
 rw [rep_r1]
 exact ⟨by lia, m3⟩
theorem sb_len {c : Nat} {im x : List Nat} (hl : im.length ≤ 2) : (sb (phi c im) x).length ≤ 2 * x.length := by
 induction x with
 | nil => simp [sb]
 | cons d x ih =>
  have e3 : sb (phi c im) (d :: x) = phi c im d ++ sb (phi c im) x := by simp [sb]
  rw [e3, List.length_append, List.length_cons]
  have : (phi c im d).length ≤ 2 := by
   unfold phi
   split
   ·exact hl
   ·split
    ·rw [back_len]; exact hl
    ·simp
  lia
noncomputable def putin (mvs : List (Nat × List Nat)) (x : List Nat) : List Nat := mvs.foldr (fun m x => norm (sb (phi m.1 m.2) x)) x
structure Mv (m : Nat × List Nat) : Prop where
 l : isL m.1 = true
 w : wd m.2
 z : m.2.length ≤ 2
theorem putin_wd : ∀ {mvs : List (Nat × List Nat)} {x : List Nat}, (∀ m ∈ mvs, Mv m) → wd x → wd (putin mvs x)
 | [], _, _, h => h
 | m :: mvs, x, hm, h => norm_wd (sb_wd (phi_hom (hm m List.mem_cons_self).l (hm m List.mem_cons_self).w) (putin_wd (fun k hk => hm k (List.mem_cons_of_mem _ hk)) h))
theorem putin_len : ∀ {mvs : List (Nat × List Nat)} {x : List Nat}, (∀ m ∈ mvs, Mv m) → (putin mvs x).length ≤ 2 ^ mvs.length * x.length
 | [], x, _ => by simp [putin]
 | m :: mvs, x, hm => by
  have a := putin_len (x := x) (fun k hk => hm k (List.mem_cons_of_mem m hk))
  have b := sb_len (c := m.1) (x := putin mvs x) (hm m List.mem_cons_self).z
  have c := norm_len (sb (phi m.1 m.2) (putin mvs x))
  show (norm (sb (phi m.1 m.2) (putin mvs x))).length ≤ _
  rw [List.length_cons, Nat.pow_succ, Nat.mul_comm (2 ^ mvs.length) 2, Nat.mul_assoc]
  lia
noncomputable def wordsD (mvs : List (Nat × List Nat)) : List PyData := (mvs.map fun m => [PyData.str (mkS [m.1, 58]), PyData.str (mkS m.2)]).flatten ++ [.str (mkS [])]
theorem wordsD_len (mvs : List (Nat × List Nat)) : (wordsD mvs).length = 2 * mvs.length + 1 := by
 unfold wordsD
 rw [List.length_append]
 congr 1
 induction mvs with
 | nil => rfl
 | cons m mvs ih => rw [List.map_cons, List.flatten_cons, List.length_append, ih, List.length_cons]; simp; lia
theorem wordsD_at : ∀ {mvs : List (Nat × List Nat)} {k : Nat} {m : Nat × List Nat}, mvs[k]? = some m → (wordsD mvs)[2 * k]? = some (.str (mkS [m.1, 58])) ∧ (wordsD mvs)[2 * k + 1]? = some (.str (mkS m.2))
 | [], k, m, h => by simp at h
 | m' :: mvs, 0, m, h => by
  simp at h
  subst h
  exact ⟨rfl, rfl⟩
 | m' :: mvs, k + 1, m, h => by
  have := wordsD_at (mvs := mvs) (k := k) (m := m) (by simpa using h)
  have e : wordsD (m' :: mvs) = .str (mkS [m'.1, 58]) :: .str (mkS m'.2) :: wordsD mvs := rfl
  rw [e, show 2 * (k + 1) = 2 * k + 1 + 1 from by lia]
  exact this
theorem range_down (n : Nat) : rangeL ((n : Int) - 1) (-1) (-1) = (List.range n).reverse.map fun k : Nat => PyData.int (k : Int) := by
 have hs : Builtin.Range.rangeSize ((n : Int) - 1) (-1) (-1) = n := by
  unfold Builtin.Range.rangeSize
  rw [if_neg (by omega)]
  by_cases h : n = 0
  ·subst h; simp
  ·rw [if_pos (by omega)]
   show ((n : Int) - 1 - -1 - 1) / 1 + 1 = n
   rw [Int.ediv_one]; omega
 unfold rangeL
 rw [hs, Int.toNat_natCast]
 apply List.ext_getElem
 ·simp
 ·intro i h1 h2
  simp at h1 h2
  simp
  omega
theorem lit_colon : (":" : Str) = mkS [58] := by decide +kernel
theorem lit_dash : ("-" : Str) = mkS [45] := by decide +kernel
theorem lit_empty : ("" : Str) = mkS [] := by decide +kernel
theorem c_put_in {mvs : List (Nat × List Nat)} {x : List Nat} {Q : V → List O → Prop} {hp : List O} (hm : ∀ m ∈ mvs, Mv m) (hx : wd x) (hn : mvs.length ≤ 8) (hz : x.length ≤ 100) (q : Q (.d (.str (mkS (putin mvs x)))) hp) :
  F__law_put_in [.d (.str (mkS x)), .d (.list (wordsD mvs))] Q hp := by
 dsimp only [F__law_put_in, runFn, bPlain, p__law_put_in]
 refine ⟨rfl, ?_⟩
 dsimp only [List.map_cons, List.map_nil, List.replicate, List.cons_append, List.nil_append, sCons, sFor, xCall, lCons, lNil, xBin, xVar, cI, xNeg, sNil, sRet, List.getElem?_cons_zero, List.getElem?_cons_succ, List.set_cons_zero, List.set_cons_succ]
 have hwl := wordsD_len mvs
 refine ⟨by rw [hwl]; lia, ?_⟩
 refine ⟨by decide, by decide, ?_⟩
 rw [hwl]
 have e1 : (((2 * mvs.length + 1 : Nat) : Int).fdiv 2) - 1 = (mvs.length : Int) - 1 := by
  rw [Int.fdiv_eq_ediv_of_nonneg _ (by lia)]
  lia
 dsimp only [opSub]
 show fRange [.d (.int ((((2 * mvs.length + 1 : Nat) : Int).fdiv 2) - 1)), .d (.int (-1)), .d (.int (-1))] _ _
 rw [e1]
 refine ⟨by decide, by decide, ?_⟩
 have hs : Builtin.Range.small ((mvs.length : Int) - 1) (-1) (-1) = true := W.small_down (by lia) (by lia) (by lia) (by lia)
 refine ⟨hs, ?_⟩
 rw [range_down]
 refine for_pre (g := none) (fun k : Nat => PyData.int (k : Int)) (List.range mvs.length).reverse (fun pre vs h => h = hp ∧ ∃ o1 o2 o3, vs = [some (.d (.str (mkS (putin (mvs.drop (mvs.length - pre.length)) x)))), some (.d (.list (wordsD mvs))), o1, o2, o3])
  (fun _ _ _ _ => trivial) ?_ ?_ _ [] _ _ rfl ⟨rfl, none, none, none, by rw [List.length_nil, Nat.sub_zero, List.drop_length]; rfl⟩
 ·rintro pre k post vs hp' e ⟨rfl, o1, o2, o3, rfl⟩ K hK
  have hk : pre.length < mvs.length ∧ k = mvs.length - 1 - pre.length := by
   have h1 := congrArg List.length e
   simp at h1
   have h2 : (List.range mvs.length).reverse[pre.length]? = some k := by rw [e]; simp
   rw [List.getElem?_reverse (by rw [List.length_range]; lia), List.length_range, List.getElem?_range (by lia)] at h2
   have := Option.some.inj h2
   lia
  obtain ⟨hj, hk⟩ := hk
  have hkl : k < mvs.length := by lia
  obtain ⟨m, em⟩ : ∃ m, mvs[k]? = some m := ⟨mvs[k], List.getElem?_eq_getElem hkl⟩
  have M : Mv m := hm m (List.mem_of_getElem? em)
  obtain ⟨w1, w2⟩ := wordsD_at em
  have dr : mvs.drop (mvs.length - (pre ++ [k]).length) = m :: mvs.drop (mvs.length - pre.length) := by
   rw [List.length_append, List.length_singleton, show mvs.length - (pre.length + 1) = k from by lia, show mvs.length - pre.length = k + 1 from by lia]
   have := List.drop_eq_getElem_cons (l := mvs) (i := k) hkl
   rw [this]
   congr 1
   have := List.getElem?_eq_getElem hkl
   rw [em] at this
   exact (Option.some.inj this).symm
  have hmd : ∀ y ∈ mvs.drop (mvs.length - pre.length), Mv y := fun y hy => hm y (List.drop_subset _ _ hy)
  generalize hy : putin (mvs.drop (mvs.length - pre.length)) x = y at *
  have hyw : wd y := by rw [← hy]; exact putin_wd hmd hx
  have hyl : y.length ≤ 25600 := by
   rw [← hy]
   have a := putin_len (x := x) hmd
   have b : 2 ^ (mvs.drop (mvs.length - pre.length)).length ≤ 2 ^ 8 := Nat.pow_le_pow_right (by decide) (by rw [List.length_drop]; lia)
   have c : 2 ^ (mvs.drop (mvs.length - pre.length)).length * x.length ≤ 2 ^ 8 * 100 := Nat.mul_le_mul b hz
   lia
  have hput : putin (mvs.drop (mvs.length - (pre ++ [k]).length)) x = norm (sb (phi m.1 m.2) y) := by rw [dr, ← hy]; rfl
  dsimp only [tName, sCons, sNil, sAssign, xCall, lCons, lNil, xBin, xVar, cI, cS, opMul, opAdd, List.getElem?_cons_zero, List.getElem?_cons_succ, List.set_cons_zero, List.set_cons_succ]
  rw [show (2 : Int) * (k : Int) = ((2 * k : Nat) : Int) from by lia]
  refine ⟨by decide, ?_⟩
  refine item_at (v := .d (.list (wordsD mvs))) w1 (by lia) rfl (fun t e => by cases e) ?_
  rw [lit_colon, lit_empty]
  refine c_replace (ps := [([58], [])]) (x := [m.1, 58]) (by decide) ?_ ?_
  ·have h1 := L_lt M.l
   have lt2 : ∀ c ∈ [m.1, 58], c < 128 := by intro c hc; simp at hc; rcases hc with rfl | rfl <;> lia
   refine ⟨⟨by simp, lt2⟩, by simp, by intro d hd; rw [List.mem_singleton.mp hd]; decide, by simp, ?_⟩
   show okl (repL [58] [] 0 [m.1, 58])
   rw [rep_r1]
   exact ⟨by have := r1_len (c := 58) (q := []) (n := 1) (by simp) (by lia) [m.1, 58]; simp at this ⊢; lia, r1_mem (by simp) lt2⟩
  have er : replA [([58], [])] [m.1, 58] = [m.1] := by
   show repL [58] [] 0 [m.1, 58] = _
   rw [rep_r1]
   have := L4 M.l
   unfold r1
   simp
   intro e; lia
  rw [er]
  refine ⟨by decide, ?_⟩
  rw [show ((2 * k : Nat) : Int) + 1 = ((2 * k + 1 : Nat) : Int) from by lia]
  refine item_at (v := .d (.list (wordsD mvs))) w2 (by lia) rfl (fun t e => by cases e) ?_
  have wm : wd [m.1] := wd_cons.mpr ⟨M.l, wd_nil⟩
  refine c_back wm (by simp) ?_
  refine c_back M.w (by have := M.z; lia) ?_
  rw [lit_dash]
  have eb : back [m.1] = [iv m.1] := rfl
  rw [eb]
  refine c_replace (ps := [([m.1], [45]), ([iv m.1], back m.2), ([45], m.2)]) (x := y) (by simp) (okR_put M.l M.w M.z hyw (by lia)) ?_
  rw [putin1 M.l M.w hyw]
  have sl := sb_len (c := m.1) (x := y) M.z
  refine c_struck (by lia) (sb_wd (phi_hom M.l M.w) hyw) ?_
  rw [hput] at hK
  exact (hK _ _ ⟨rfl, _, _, _, rfl⟩).1
 ·rintro vs hp' ⟨rfl, o1, o2, o3, rfl⟩
  rw [List.length_reverse, List.length_range, Nat.sub_self, List.drop_zero]
  exact fin_len rfl q
theorem char_first {c : Nat} {w : List Nat} : Txt.charAt (mkS (c :: w)) 0 = some c := by
 unfold Txt.charAt seqIndex?
 rw [mkS_len]
 simp
theorem char_last {c : Nat} {w : List Nat} : Txt.charAt (mkS (w ++ [c])) (-1) = some c := by
 unfold Txt.charAt
 have e : seqIndex? (-1) (mkS (w ++ [c])).length = some w.length := by
  unfold seqIndex?
  rw [mkS_len]
  simp
  lia
 rw [e]
 simp
theorem item_first {c : Nat} {w : List Nat} {K : V → List O → Prop} {hp : List O} (k : K (.d (.str (ch c))) hp) : opItem (.d (.str (mkS (c :: w)))) (.d (.int 0)) K hp := by
 refine ⟨by lia, ?_⟩
 show (match Txt.charAt (mkS (c :: w)) 0 with | some c => K (.d (.str ⟨#[c]⟩)) hp | none => False)
 rw [char_first]; exact k
theorem item_lastS {c : Nat} {w : List Nat} {K : V → List O → Prop} {hp : List O} (k : K (.d (.str (ch c))) hp) : opItem (.d (.str (mkS (w ++ [c])))) (.d (.int (-1))) K hp := by
 refine ⟨by lia, ?_⟩
 show (match Txt.charAt (mkS (w ++ [c])) (-1) with | some c => K (.d (.str ⟨#[c]⟩)) hp | none => False)
 rw [char_last]; exact k
theorem psl_mid {α : Type} (c d : α) (w : List α) : psl (c :: (w ++ [d])) (some 1) (some (-1)) = w := by
 have e1 : clipAt (c :: (w ++ [d])).length 1 = 1 := by unfold clipAt; simp; lia
 have e2 : clipAt (c :: (w ++ [d])).length (-1) = w.length + 1 := by unfold clipAt; simp; lia
 unfold psl
 simp only [Option.elim, e1, e2]
 simp
noncomputable def core : Nat → List Nat → List Nat
 | 0, w => w
 | n + 1, w => match w with
  | [] => []
  | [c] => [c]
  | c :: d :: v => if c = iv ((d :: v).getLast (List.cons_ne_nil _ _)) then core n ((d :: v).dropLast) else c :: d :: v
theorem core_step {n : Nat} {c e : Nat} {v : List Nat} : core (n + 1) (c :: (v ++ [e])) = if c = iv e then core n v else c :: (v ++ [e]) := by
 cases v with
 | nil =>
  show (if c = iv e then core n [] else [c, e]) = if c = iv e then core n [] else [c, e]
  rfl
 | cons d v =>
  have e1 : (d :: (v ++ [e])).getLast (List.cons_ne_nil _ _) = e := by
   have h := List.getLast_concat (l := d :: v) (a := e)
   exact h
  have e2 : (d :: (v ++ [e])).dropLast = d :: v := by
   rw [show d :: (v ++ [e]) = (d :: v) ++ [e] from rfl, List.dropLast_concat]
  show (if c = iv ((d :: (v ++ [e])).getLast (List.cons_ne_nil _ _)) then core n ((d :: (v ++ [e])).dropLast) else _) = _
  rw [e1, e2]
  rfl
noncomputable def ringB (w d : List Nat) : Bool := (core w.length w).length == d.length && Txt.contains (mkS (d ++ d)) (mkS (core w.length w))
theorem ints_beq (a b : Nat) : ((a : Int) == (b : Int)) = (a == b) := by
 by_cases h : a = b
 ·subst h; simp
 ·have : (a : Int) ≠ b := by lia
  rw [beq_eq_false_iff_ne.mpr this, beq_eq_false_iff_ne.mpr h]
theorem c_is_ring {w d : List Nat} {Q : V → List O → Prop} {hp : List O} (hw : wd w) (hl : w.length ≤ 10000) (hd : d.length ≤ 10000) (q : Q (.d (.bool (ringB w d))) hp) : F__law_is_ring [.d (.str (mkS w)), .d (.str (mkS d))] Q hp := by
 simp only [F__law_is_ring, runFn, bPlain, p__law_is_ring]
 refine ⟨rfl, ?_⟩
 simp only [List.map_cons, List.map_nil, List.replicate, List.append_nil, sCons, sNil]
 have fl : ∀ {w : List Nat} {K : V → List O → Prop} {h : List O}, w.length ≤ 30000 → K (.d (.int (w.length : Int))) h → fLen [.d (.str (mkS w))] K h := by
  intro w K h hz k
  refine ⟨by rw [mkS_len]; lia, ?_⟩
  rw [mkS_len]; exact k
 have go : ∀ (n : Nat) (x : List Nat) (QQ : QS), x.length ≤ n → x.length ≤ 10000 → wd x → QQ .next [some (.d (.str (mkS (core n x)))), some (.d (.str (mkS d)))] hp →
   whileN (bAnd (bCmp opGt (xCall fLen (lCons (xVar 0) lNil)) (cI 1)) (bCmp opEq (xBin opItem (xVar 0) (cI 0)) (xCall F__law_back (lCons (xBin opItem (xVar 0) (xNeg (cI 1))) lNil))))
    (sCons (sAssign 0 (xSlice (xVar 0) (pSome (cI 1)) (pSome (xNeg (cI 1))))) sNil) QQ (n + 1) [some (.d (.str (mkS x))), some (.d (.str (mkS d)))] hp := by
  intro n
  induction n with
  | zero =>
   intro x QQ h1 h2 h3 k
   have : x = [] := List.eq_nil_of_length_eq_zero (Nat.le_zero.mp h1)
   subst this
   simp only [whileN, bAnd, bCmp, xCall, lCons, lNil, xVar, cI, List.getElem?_cons_zero]
   refine fl (by simp) ?_
   exact k
  | succ n ih =>
   intro x QQ h1 h2 h3 k
   unfold whileN
   simp only [bAnd, bCmp, xCall, lCons, lNil, xVar, cI, List.getElem?_cons_zero]
   refine fl (by lia) ?_
   match x, h1, h2, h3, k with
   | [], h1, h2, h3, k => exact k
   | [c], h1, h2, h3, k => exact k
   | c :: d' :: v, h1, h2, h3, k =>
    obtain ⟨u, e, hu⟩ : ∃ u e, d' :: v = u ++ [e] := by
     rcases List.eq_nil_or_concat (d' :: v) with h | ⟨u, e, h⟩
     ·cases h
     ·exact ⟨u, e, by rw [h, List.concat_eq_append]⟩
    rw [hu] at h1 h2 h3 k ⊢
    have hgt : decide ((1 : Int) < ((c :: (u ++ [e])).length : Int)) = true := by
     rw [decide_eq_true_eq]; simp; lia
    simp only [opGt, truthV, hgt]
    have he : isL e = true := h3 e (by simp)
    simp only [xBin, xVar, cI, xNeg, List.getElem?_cons_zero]
    refine item_first ?_
    simp only [xVar, List.getElem?_cons_zero]
    show opItem (.d (.str (mkS ((c :: u) ++ [e])))) (.d (.int (-1))) _ _
    refine item_lastS (w := c :: u) ?_
    refine c_back (w := [e]) (wd_cons.mpr ⟨he, wd_nil⟩) (by simp) ?_
    show opEq (.d (.str (ch c))) (.d (.str (ch (iv e)))) _ _
    simp only [opEq, truthV, ch_beq]
    rw [core_step] at k
    by_cases hc : c = iv e
    ·rw [if_pos hc] at k
     rw [beq_iff_eq.mpr hc]
     simp only [sCons, sAssign, xSlice, xVar, pSome, cI, xNeg, sNil, List.getElem?_cons_zero, List.set_cons_zero]
     refine ⟨by rw [mkS_len, sizeLine_eq]; lia, ?_⟩
     have es : (mkS (c :: (u ++ [e]))).cps.toList = c :: (u ++ [e]) := by simp
     rw [es, psl_mid]
     simp only [List.length_cons, List.length_append, List.length_nil] at h1 h2
     exact ih u QQ (by lia) (by lia) (fun y hy => h3 y (by simp [hy])) k
    ·rw [if_neg hc] at k
     rw [beq_eq_false_iff_ne.mpr hc]
     exact k
 refine ⟨w.length + 1, go _ w _ (Nat.le_refl _) hl hw ?_⟩
 have cl : ∀ (n : Nat) (x : List Nat), (core n x).length ≤ x.length := by
  intro n
  induction n with
  | zero => intro x; exact Nat.le_refl _
  | succ n ih =>
   intro x
   match x with
   | [] => exact Nat.le_refl _
   | [c] => exact Nat.le_refl _
   | c :: d' :: v =>
    unfold core
    simp only
    split
    ·have := ih ((d' :: v).dropLast)
     simp at this ⊢
     lia
    ·exact Nat.le_refl _
 have hcl := cl w.length w
 simp only [sRet, xAnd, xBin, xCall, lCons, lNil, xVar, List.getElem?_cons_zero, List.getElem?_cons_succ]
 refine fl (w := core w.length w) (by lia) ?_
 simp only [xVar, List.getElem?_cons_zero, List.getElem?_cons_succ]
 refine fl (w := d) (by lia) ?_
 unfold ringB at q
 simp only [opEq, truthV, ints_beq]
 cases hb : ((core w.length w).length == d.length) with
 | false =>
  rw [hb] at q
  exact fin_len rfl q
 | true =>
  rw [hb, Bool.true_and] at q
  refine ⟨by rw [mkS_len, sizeLine_eq]; lia, ?_⟩
  rw [mkS_app]
  exact fin_len rfl q
noncomputable def lineF (A B : Nat) (lo hi : Nat) (k : Nat) : Nat := if ((k : Int) * (B : Int)).fmod ((A + B : Nat) : Int) + (B : Int) < ((A + B : Nat) : Int) then lo else hi
noncomputable def lineL (p q : Int) : List Nat := (List.range (p.natAbs + q.natAbs)).map (lineF p.natAbs q.natAbs (if 0 < p then 97 else 65) (if 0 < q then 98 else 66))
theorem range_up (n : Nat) : rangeL 0 (n : Int) 1 = (List.range n).map fun k : Nat => PyData.int (k : Int) := by
 have hs : Builtin.Range.rangeSize 0 (n : Int) 1 = n := by
  unfold Builtin.Range.rangeSize
  rw [if_pos (by decide)]
  by_cases h : n = 0
  ·subst h; simp
  ·rw [if_pos (by lia), Int.ediv_one]; lia
 unfold rangeL
 rw [hs, Int.toNat_natCast]
 apply List.map_congr_left
 intro k _
 simp
theorem size_a {a : Int} {n : Nat} (h : a ≤ n) : Builtin.Range.rangeSize a n 1 = n - a := by
 unfold Builtin.Range.rangeSize; simp; lia
theorem small_a {a : Int} {n : Nat} (ha : a ≤ n) (h0 : -1000 ≤ a) (h : n ≤ 100000) : Builtin.Range.small a n 1 = true := by
 unfold Builtin.Range.small
 rw [size_a ha]
 have f : ∀ x : Int, -500000 ≤ x → x ≤ 500000 → Builtin.Range.rangeFitsLong x = true := by
  intro x h1 h2
  unfold Builtin.Range.rangeFitsLong
  simp; lia
 rw [f a (by lia) (by lia), f n (by lia) (by lia), f 1 (by lia) (by lia), f (n - a) (by lia) (by lia)]
 simp
 right
 exact f _ (by lia) (by lia)
theorem lit_a : ("a" : Str) = ch 97 := by decide +kernel
theorem lit_b : ("b" : Str) = ch 98 := by decide +kernel
theorem lit_A : ("A" : Str) = ch 65 := by decide +kernel
theorem lit_B : ("B" : Str) = ch 66 := by decide +kernel
theorem abs_int (p : Int) : (if p < 0 then -p else p) = (p.natAbs : Int) := by split <;> omega
theorem c_line {p q : Int} {Q : V → List O → Prop} {hp : List O} (h0 : p.natAbs + q.natAbs ≠ 0) (hl : p.natAbs + q.natAbs ≤ 10000) (k : Q (.d (.str (mkS (lineL p q)))) hp) : F__law_line [.d (.int p), .d (.int q)] Q hp := by
 simp only [F__law_line, runFn, bPlain, p__law_line]
 refine ⟨rfl, ?_⟩
 simp only [List.map_cons, List.map_nil, List.replicate, List.cons_append, List.nil_append, sCons, sAssign, xBin, xCall, fAbs, lCons, lNil, xVar, opAdd, xIte, bCmp, opGt, cI, cS, truthV, sNil, sRet, List.getElem?_cons_zero, List.getElem?_cons_succ, List.set_cons_zero, List.set_cons_succ]
 rw [lit_a, lit_b, lit_A, lit_B, abs_int, abs_int, lit_empty]
 generalize hA : p.natAbs = A at *
 generalize hB : q.natAbs = B at *
 have key : ∀ lo hi : Nat, lo < 128 → hi < 128 → (Q (.d (.str (mkS ((List.range (A + B)).map (lineF A B lo hi))))) hp) →
   xMethS mJoin (cS (mkS [])) (lCons (xComp false 1 (tName 0) (xCall fRange (lCons (xVar 2) lNil)) iNil
    (xIte (bCmp opLt (xBin opAdd (xBin opMod (xBin opMul (xVar 0) (xCall fAbs (lCons (xVar 2) lNil))) (xVar 3)) (xCall fAbs (lCons (xVar 2) lNil))) (xVar 3)) (xVar 4) (xVar 5))) lNil)
    [some (.d (.int p)), some (.d (.int q)), some (.d (.int ((A : Int) + (B : Int)))), some (.d (.str (ch lo))), some (.d (.str (ch hi)))] (fun v hp_1 => fin false hp.length Q v hp_1) hp := by
  intro lo hi h1 h2 q'
  simp only [xMethS, cS, lCons, lNil]
  refine comp1 (m := false) (v := .rng 0 ((A + B : Nat) : Int) 1) (xs := (List.range (A + B)).map fun k : Nat => PyData.int (k : Int)) (fun _ => true) (fun x => match x with | .int k => .str (ch (lineF A B lo hi k.toNat)) | x => x) ?_ ?_ ?_ ?_ ?_ ?_
  ·intro K k
   simp only [xCall, lCons, lNil, xVar, List.getElem?_cons_zero, List.getElem?_cons_succ]
   rw [show (A : Int) + (B : Int) = ((A + B : Nat) : Int) from by omega]
   exact k
  ·exact ⟨small_a (by omega) (by decide) (by omega), range_up _⟩
  ·intro x hx l K k; exact k
  ·intro x hx _ l K k
   obtain ⟨z, hz, rfl⟩ := List.mem_map.mp hx
   have hz' : z < A + B := List.mem_range.mp hz
   simp only [xIte, bCmp, xBin, xCall, xVar, lCons, lNil, fAbs, List.getElem?_cons_zero, List.getElem?_cons_succ, opMul, opMod, opAdd, opLt, truthV]
   rw [abs_int, hB]
   refine ⟨by omega, by omega, ?_⟩
   rw [show (A : Int) + (B : Int) = ((A + B : Nat) : Int) from by omega]
   have e : lineF A B lo hi ((z : Int)).toNat = if ((z : Int) * (B : Int)).fmod ((A + B : Nat) : Int) + (B : Int) < ((A + B : Nat) : Int) then lo else hi := by rw [Int.toNat_natCast]; rfl
   simp only [e] at k
   by_cases hc : ((z : Int) * (B : Int)).fmod ((A + B : Nat) : Int) + (B : Int) < ((A + B : Nat) : Int)
   ·rw [if_pos hc] at k
    rw [decide_eq_true hc]
    exact k
   ·rw [if_neg hc] at k
    rw [decide_eq_false hc]
    exact k
  ·rw [List.length_map, List.length_range, sizeLine_eq]; omega
  ·have e : ((((List.range (A + B)).map fun k : Nat => PyData.int (k : Int)).filter fun _ => true).map (fun x => match x with | .int k => .str (ch (lineF A B lo hi k.toNat)) | x => x)) = (((List.range (A + B)).map (lineF A B lo hi)).map fun c => [c]).map fun w => PyData.str (mkS w) := by
    rw [List.filter_eq_self.mpr (fun _ _ => rfl), List.map_map, List.map_map, List.map_map]
    apply List.map_congr_left
    intro z _
    rfl
   rw [e]
   refine join_mk rfl ?_ ?_
   ·rw [flat_ch, List.length_map, List.length_range]; omega
   ·rw [flat_ch]; exact fin_len rfl q'
 unfold lineL at k
 rw [hA, hB] at k
 by_cases hp0 : 0 < p
 ·rw [if_pos hp0] at k
  rw [decide_eq_true hp0]
  by_cases hq0 : 0 < q
  ·rw [if_pos hq0] at k
   rw [decide_eq_true hq0]
   exact key 97 98 (by decide) (by decide) k
  ·rw [if_neg hq0] at k
   rw [decide_eq_false hq0]
   exact key 97 66 (by decide) (by decide) k
 ·rw [if_neg hp0] at k
  rw [decide_eq_false hp0]
  by_cases hq0 : 0 < q
  ·rw [if_pos hq0] at k
   rw [decide_eq_true hq0]
   exact key 65 98 (by decide) (by decide) k
  ·rw [if_neg hq0] at k
   rw [decide_eq_false hq0]
   exact key 65 66 (by decide) (by decide) k
noncomputable def letX (x : Int) : Nat := ([97, 66, 98, 65] : List Nat).getD (x.fmod 4).toNat 0
noncomputable def othX (l : Nat) : Nat := if ix l % 2 = 0 then 98 else 97
noncomputable def imsX (l : Nat) : List (List Nat) := [[l, othX l], [othX l, l], [l, iv (othX l)], [iv (othX l), l], [iv l]]
noncomputable def imX (x : Int) : List Nat := (imsX (letX x)).getD ((x.fdiv 4).fmod 5).toNat []
noncomputable def wayX (x : Int) : Int := (x.fdiv 20).fmod 3
noncomputable def mvD (x : Int) : PyData := .list [.str (ch (letX x)), .str (mkS (imX x)), .int (wayX x)]
theorem fm {x n : Int} (hn : 0 < n) : ∃ k : Nat, x.fmod n = k ∧ (k : Int) < n := by
 obtain ⟨a, b⟩ := fmodB x hn
 exact ⟨(x.fmod n).toNat, by omega, by omega⟩
theorem letX_L (x : Int) : isL (letX x) = true := by
 obtain ⟨k, e, h⟩ := fm (x := x) (n := 4) (by decide)
 unfold letX
 rw [e, Int.toNat_natCast]
 have : k = 0 ∨ k = 1 ∨ k = 2 ∨ k = 3 := by lia
 rcases this with rfl | rfl | rfl | rfl <;> rfl
theorem othX_L (l : Nat) : isL (othX l) = true := by unfold othX; split <;> rfl
theorem imsX_ok {l : Nat} (hl : isL l = true) : ∀ w ∈ imsX l, wd w ∧ w.length ≤ 2 ∧ 1 ≤ w.length := by
 intro w hw
 have a := othX_L l
 have b := iv_L a
 have c := iv_L hl
 simp only [imsX, List.mem_cons, List.not_mem_nil, or_false] at hw
 rcases hw with rfl | rfl | rfl | rfl | rfl
 ·exact ⟨wd_cons.mpr ⟨hl, wd_cons.mpr ⟨a, wd_nil⟩⟩, by simp, by simp⟩
 ·exact ⟨wd_cons.mpr ⟨a, wd_cons.mpr ⟨hl, wd_nil⟩⟩, by simp, by simp⟩
 ·exact ⟨wd_cons.mpr ⟨hl, wd_cons.mpr ⟨b, wd_nil⟩⟩, by simp, by simp⟩
 ·exact ⟨wd_cons.mpr ⟨b, wd_cons.mpr ⟨hl, wd_nil⟩⟩, by simp, by simp⟩
 ·exact ⟨wd_cons.mpr ⟨c, wd_nil⟩, by simp, by simp⟩
theorem imX_mem (x : Int) : ∃ k : Nat, (x.fdiv 4).fmod 5 = k ∧ k < 5 ∧ (imsX (letX x))[k]? = some (imX x) ∧ imX x ∈ imsX (letX x) := by
 obtain ⟨k, e, h⟩ := fm (x := x.fdiv 4) (n := 5) (by decide)
 refine ⟨k, e, by omega, ?_⟩
 have hk : k < (imsX (letX x)).length := by show k < 5; omega
 have e2 : (imsX (letX x))[k]? = some (imX x) := by
  unfold imX
  rw [e, Int.toNat_natCast, List.getD_eq_getElem?_getD, List.getElem?_eq_getElem hk]; rfl
 exact ⟨e2, List.mem_of_getElem? e2⟩
theorem imX_ok (x : Int) : wd (imX x) ∧ (imX x).length ≤ 2 ∧ 1 ≤ (imX x).length := by
 obtain ⟨k, _, _, _, h⟩ := imX_mem x
 exact imsX_ok (letX_L x) _ h
theorem chat_let (x : Int) : Txt.charAt "aBbA" (x.fmod 4) = some (letX x) := by
 obtain ⟨k, e, h⟩ := fm (x := x) (n := 4) (by decide)
 unfold letX
 rw [e, Int.toNat_natCast]
 have : k = 0 ∨ k = 1 ∨ k = 2 ∨ k = 3 := by lia
 rcases this with rfl | rfl | rfl | rfl <;> decide +kernel
theorem chat_oth (l : Nat) : Txt.charAt "ba" ((ix l : Int).fmod 2) = some (othX l) := by
 have : ix l = 0 ∨ ix l = 1 ∨ ix l = 2 ∨ ix l = 3 := by have := ix_lt l; lia
 unfold othX
 rcases this with h | h | h | h <;> rw [h] <;> decide +kernel
theorem psl_take {α : Type} (l : List α) (k : Nat) : psl l none (some (k : Int)) = l.take k := by
 have : clipAt l.length (k : Int) = min k l.length := by unfold clipAt; lia
 unfold psl
 simp only [Option.elim, this, List.drop_zero, Nat.sub_zero]
 rcases Nat.le_total k l.length with h | h
 ·rw [Nat.min_eq_left h]
 ·rw [Nat.min_eq_right h, List.take_of_length_le (Nat.le_refl _), List.take_of_length_le h]
noncomputable def iI (l : List Int) : List PyData := l.map .int
noncomputable def nums (script : List Int) : List Int := [0, 25] ++ script.take 5
theorem c_moves {script : List Int} {Q : V → List O → Prop} {hp : List O} (hz : script.length ≤ 2 ^ 20) (q : Q (.d (.list ((nums script).map mvD))) hp) : F__law_moves [.d (.list (iI script))] Q hp := by
 dsimp only [F__law_moves, runFn, bPlain, p__law_moves]
 refine ⟨rfl, ?_⟩
 dsimp only [List.map_cons, List.map_nil, List.replicate, List.cons_append, List.nil_append, sCons, sAssign, xList, lCons, lNil, datas, mkL, sFor, xBin, xSlice, pNone, pSome, xVar, cI, sNil, sRet, List.getElem?_cons_zero, List.getElem?_cons_succ, List.set_cons_zero, List.set_cons_succ]
 refine ⟨by simp [sizeLine_eq], ?_⟩
 refine ⟨by simp [sizeLine_eq], ?_⟩
 refine ⟨iI script, rfl, by unfold iI; rw [List.length_map, sizeLine_eq]; omega, ?_⟩
 have e5 : psl (iI script) none (some 5) = iI (script.take 5) := by
  have := psl_take (iI script) 5
  rw [show ((5 : Nat) : Int) = 5 from rfl] at this
  rw [this]; unfold iI; rw [List.map_take]
 rw [e5]
 have l5 : (iI (script.take 5)).length ≤ 5 := by unfold iI; rw [List.length_map, List.length_take]; omega
 refine ⟨[.int 0, .int 25], iI (script.take 5), rfl, rfl, by rw [sizeLine_eq]; simp; omega, ?_⟩
 have eN : ([.int 0, .int 25] ++ iI (script.take 5) : List PyData) = (nums script).map PyData.int := by unfold nums iI; simp
 rw [eN]
 show forL none _ _ _ _ _ _
 have nl : (nums script).length ≤ 7 := by unfold nums; rw [List.length_append, List.length_take]; simp; omega
 refine for_pre (g := none) PyData.int (nums script) (fun pre vs h => h = hp ++ [.lst (pre.map mvD)] ∧ ∃ o0 o1 o2 o3 o4 o5, vs = [o0, some (.r hp.length), o1, o2, o3, o4, o5])
  (fun _ _ _ _ => trivial) ?_ ?_ _ [] _ _ rfl ⟨rfl, _, none, none, none, none, none, rfl⟩
 ·rintro pre x post vs hp' e ⟨rfl, o0, o1, o2, o3, o4, o5, rfl⟩ K hK
  have hpl : pre.length ≤ 7 := by
   have := congrArg List.length e
   rw [List.length_append] at this
   omega
  have L := letX_L x
  have Lo := othX_L (letX x)
  have Lu := iv_L Lo
  obtain ⟨k4, e4, h4⟩ := fm (x := x) (n := 4) (by decide)
  obtain ⟨k, ek, hk, im1, im2⟩ := imX_mem x
  dsimp only [tName, sCons, sNil, sAssign, xBin, xVar, cS, cI, xMethS, mFind, lCons, lNil, xCall, opMod, List.getElem?_cons_zero, List.getElem?_cons_succ, List.set_cons_zero, List.set_cons_succ]
  refine ⟨by decide, ?_⟩
  refine ⟨by omega, ?_⟩
  show (match Txt.charAt "aBbA" (x.fmod 4) with | some c => _ | none => False)
  rw [chat_let]
  show _ ∧ _
  refine ⟨by decide, ?_⟩
  rw [find4 L]
  refine ⟨by have := fmodB (ix (letX x) : Int) (n := 2) (by decide); omega, ?_⟩
  show (match Txt.charAt "ba" ((ix (letX x) : Int).fmod 2) with | some c => _ | none => False)
  rw [chat_oth]
  refine c_back (w := [othX (letX x)]) (wd_cons.mpr ⟨Lo, wd_nil⟩) (by simp) ?_
  have sz2 : ∀ a b : Nat, (ch a).length + (ch b).length ≤ sizeLine := by intro a b; show 1 + 1 ≤ _; rw [sizeLine_eq]; decide
  have eb : back [othX (letX x)] = [iv (othX (letX x))] := rfl
  rw [eb]
  dsimp only [sAssign, xList, lCons, lNil, xBin, xVar, xCall, opAdd, List.getElem?_cons_zero, List.getElem?_cons_succ, List.set_cons_zero, List.set_cons_succ]
  refine ⟨sz2 _ _, sz2 _ _, sz2 _ _, sz2 _ _, ?_⟩
  refine c_back (w := [letX x]) (wd_cons.mpr ⟨L, wd_nil⟩) (by simp) ?_
  have ei : datas [.d (.str (ch (letX x) ++ ch (othX (letX x)))), .d (.str (ch (othX (letX x)) ++ ch (letX x))), .d (.str (ch (letX x) ++ mkS [iv (othX (letX x))])), .d (.str (mkS [iv (othX (letX x))] ++ ch (letX x))), .d (.str (mkS (back [letX x])))] = some ((imsX (letX x)).map fun w => .str (mkS w)) := rfl
  simp only [ei]
  refine ⟨by show 5 ≤ _; rw [sizeLine_eq]; decide, ?_⟩
  dsimp only [mkL, sExpr, xMethL, xVar, lCons, lNil, xList, xBin, cI, opDiv, opMod, List.getElem?_cons_zero, List.getElem?_cons_succ, List.set_cons_zero, List.set_cons_succ]
  refine ⟨by rw [lget_last]; rfl, ?_⟩
  refine ⟨by decide, by decide, ?_⟩
  refine ⟨by decide, ?_⟩
  rw [ek]
  refine item_at (v := .d (.list ((imsX (letX x)).map fun w => PyData.str (mkS w)))) (k := k) (x := .str (mkS (imX x))) (by rw [List.getElem?_map, im1]; rfl) (by omega) rfl (fun t e => by cases e) ?_
  refine ⟨by decide, by decide, ?_⟩
  refine ⟨by decide, ?_⟩
  have ed : datas [.d (.str (ch (letX x))), .d (.str (mkS (imX x))), .d (.int ((x.fdiv 20).fmod 3))] = some [.str (ch (letX x)), .str (mkS (imX x)), .int (wayX x)] := rfl
  dsimp only [ed]
  refine ⟨by show 3 ≤ _; rw [sizeLine_eq]; decide, ?_⟩
  refine ⟨by rw [lget_last]; rfl, ?_⟩
  unfold mAppend
  dsimp only
  refine atL_last ⟨by rw [List.length_map, sizeLine_eq]; omega, ?_⟩
  rw [set_last]
  refine (hK _ _ ⟨?_, _, _, _, _, _, _, rfl⟩).1
  rw [List.map_append]
  rfl
 ·rintro vs hp' ⟨rfl, o0, o1, o2, o3, o4, o5, rfl⟩
  dsimp only [xVar, List.getElem?_cons_zero, List.getElem?_cons_succ]
  show fin false hp.length Q (.r hp.length) (hp ++ [.lst ((nums script).map mvD)])
  unfold fin
  simp only [Nat.lt_irrefl, if_false, get_last, List.take_left]
  exact q
noncomputable def isS (c : Nat) : Bool := c == 97 || c == 98
noncomputable abbrev SS := (Int × Int) × (Int × Int)
noncomputable def rowOf (s : SS) (c : Nat) : Int × Int := if ix c % 2 = 0 then s.1 else s.2
noncomputable def sgnOf (l c : Nat) : Int := if isS l == isS c then 1 else -1
noncomputable def addv (l : Nat) (s : SS) (acc : Int × Int) (c : Nat) : Int × Int := (acc.1 + sgnOf l c * (rowOf s c).1, acc.2 + sgnOf l c * (rowOf s c).2)
noncomputable def newv (l : Nat) (im : List Nat) (s : SS) : Int × Int := im.foldl (addv l s) (0, 0)
noncomputable def setv (s : SS) (l : Nat) (n : Int × Int) : SS := if ix l % 2 = 0 then (n, s.2) else (s.1, n)
noncomputable def stepS (s : SS) (x : Int) : SS := setv s (letX x) (newv (letX x) (imX x) s)
noncomputable def sumsOf (xs : List Int) : SS := xs.foldl stepS ((1, 0), (0, 1))
noncomputable def rwD (r : Int × Int) : PyData := .list [.int r.1, .int r.2]
noncomputable def ssD (s : SS) : List PyData := [rwD s.1, rwD s.2]
theorem in_ab {c : Nat} (h : isL c = true) : Txt.contains "ab" (ch c) = isS c := by rcases L4 h with rfl | rfl | rfl | rfl <;> decide +kernel
theorem ix2 (c : Nat) : ix c % 2 = 0 ∨ ix c % 2 = 1 := by lia
theorem fm2 (c : Nat) : ((ix c : Int)).fmod 2 = ((ix c % 2 : Nat) : Int) := by
 rw [Int.fmod_eq_emod_of_nonneg _ (by decide)]; lia
theorem row_at (s : SS) (c : Nat) : (ssD s)[ix c % 2]? = some (rwD (rowOf s c)) := by
 unfold rowOf
 rcases ix2 c with h | h <;> rw [h] <;> rfl
theorem iter_mv {x : Int} {ts : XTs} {vs : List (Option V)} {Q : List (Option V) → List O → Prop} {hp : List O} (q : ts [.d (.str (ch (letX x))), .d (.str (mkS (imX x))), .d (.int (wayX x))] vs Q hp) : tTuple 3 ts (.d (mvD x)) vs Q hp := ⟨rfl, q⟩
theorem eqv_bool (a b : Bool) : PyData.eqv (.bool a) (.bool b) = (a == b) := by cases a <;> cases b <;> rfl
theorem rw0 {r : Int × Int} {K : V → List O → Prop} {hp : List O} (k : K (.d (.int r.1)) hp) : opItem (.d (rwD r)) (.d (.int 0)) K hp := item_at (v := .d (rwD r)) (l := [.int r.1, .int r.2]) (k := 0) (x := .int r.1) rfl (by decide) rfl (fun t e => by cases e) k
theorem rw1 {r : Int × Int} {K : V → List O → Prop} {hp : List O} (k : K (.d (.int r.2)) hp) : opItem (.d (rwD r)) (.d (.int 1)) K hp := item_at (v := .d (rwD r)) (l := [.int r.1, .int r.2]) (k := 1) (x := .int r.2) rfl (by decide) rfl (fun t e => by cases e) k
theorem c_sums {xs : List Int} {Q : V → List O → Prop} {hp : List O} (q : Q (.d (.list (ssD (sumsOf xs)))) hp) : F__law_sums [.d (.list (xs.map mvD))] Q hp := by
 dsimp only [F__law_sums, runFn, bPlain, p__law_sums]
 refine ⟨rfl, ?_⟩
 dsimp only [List.map_cons, List.map_nil, List.replicate, List.cons_append, List.nil_append, sCons, sAssign, xList, lCons, lNil, datas, mkL, sFor, xVar, cI, sNil, sRet, List.getElem?_cons_zero, List.getElem?_cons_succ, List.set_cons_zero, List.set_cons_succ]
 refine ⟨by simp [sizeLine_eq], by simp [sizeLine_eq], by simp [sizeLine_eq], ?_⟩
 show forL none _ _ _ (xs.map mvD) _ _
 refine for_pre (g := none) mvD xs (fun pre vs h => h = hp ++ [.lst (ssD (sumsOf pre))] ∧ ∃ o0 o1 o2 o3 o4 o5 o6 o7, vs = [o0, some (.r hp.length), o1, o2, o3, o4, o5, o6, o7])
  (fun _ _ _ _ => trivial) ?_ ?_ _ [] _ _ rfl ⟨rfl, _, none, none, none, none, none, none, none, rfl⟩
 ·rintro pre x post vs hp' e ⟨rfl, o0, o1, o2, o3, o4, o5, o6, o7, rfl⟩ K hK
  have L := letX_L x
  have W := (imX_ok x).1
  refine iter_mv ?_
  dsimp only [tsCons, tsNil, tName, sCons, sNil, sAssign, xList, lCons, lNil, datas, mkL, sFor, xVar, cI, List.getElem?_cons_zero, List.getElem?_cons_succ, List.set_cons_zero, List.set_cons_succ]
  refine ⟨by simp [sizeLine_eq], ?_⟩
  show forL none _ _ _ (signsOf (mkS (imX x))) _ _
  rw [sg]
  have es : sumsOf (pre ++ [x]) = setv (sumsOf pre) (letX x) (newv (letX x) (imX x) (sumsOf pre)) := by unfold sumsOf; rw [List.foldl_append]; rfl
  generalize sumsOf pre = s at *
  refine for_pre (g := none) (fun c => PyData.str (ch c)) (imX x) (fun p vs h => h = hp ++ [.lst (ssD s)] ∧ ∃ o5 o6 o7, vs = [o0, some (.r hp.length), some (.d (.str (ch (letX x)))), some (.d (.str (mkS (imX x)))), some (.d (.int (wayX x))), some (.d (rwD (p.foldl (addv (letX x) s) (0, 0)))), o5, o6, o7])
   (fun _ _ _ _ => trivial) ?_ ?_ _ [] _ _ rfl ⟨rfl, _, _, _, rfl⟩
  ·rintro p c pst vs hp' e' ⟨rfl, o5, o6, o7, rfl⟩ K' hK'
   have hc : isL c = true := W c (by rw [e']; simp)
   have ea : (p ++ [c]).foldl (addv (letX x) s) (0, 0) = addv (letX x) s (p.foldl (addv (letX x) s) (0, 0)) c := by rw [List.foldl_append]; rfl
   rw [ea] at hK'
   generalize p.foldl (addv (letX x) s) (0, 0) = acc at *
   dsimp only [tName, sCons, sNil, sAssign, xIte, bCmp, xBin, xVar, cS, opIn, opEq, List.getElem?_cons_zero, List.getElem?_cons_succ, List.set_cons_zero, List.set_cons_succ]
   rw [in_ab L, in_ab hc]
   refine ⟨.bool (isS (letX x)), .bool (isS c), rfl, rfl, rfl, rfl, ?_⟩
   rw [eqv_bool]
   have tail : ∀ w : Int, w.natAbs < 2 ^ 64 → w = sgnOf (letX x) c → sAssign 8 (xBin opItem (xVar 1) (xBin opMod (xMethS mFind (cS "abAB") (lCons (xVar 6) lNil)) (cI 2)))
     [o0, some (.r hp.length), some (.d (.str (ch (letX x)))), some (.d (.str (mkS (imX x)))), some (.d (.int (wayX x))), some (.d (rwD acc)), some (.d (.str (ch c))), some (.d (.int w)), o7]
     (fun fl vs' hp_1 => match fl with
      | .next => sCons (sAssign 5 (xList false (lCons (xBin opAdd (xBin opItem (xVar 5) (cI 0)) (xBin opMul (xVar 7) (xBin opItem (xVar 8) (cI 0)))) (lCons (xBin opAdd (xBin opItem (xVar 5) (cI 1)) (xBin opMul (xVar 7) (xBin opItem (xVar 8) (cI 1)))) lNil)))) sNil vs' K' hp_1
      | fl => K' fl vs' hp_1) (hp ++ [.lst (ssD s)]) := by
    intro w hw ew
    dsimp only [sAssign, xBin, xVar, xMethS, mFind, cS, lCons, lNil, cI, opMod, List.getElem?_cons_zero, List.getElem?_cons_succ, List.set_cons_zero, List.set_cons_succ]
    rw [find4 hc]
    refine ⟨by decide, ?_⟩
    rw [fm2]
    refine item_at (v := .r hp.length) (l := ssD s) (row_at s c) (by have := ix_lt c; omega) lget_last (fun t e => by cases e) ?_
    dsimp only [sCons, sNil, sAssign, xList, lCons, lNil, xBin, xVar, cI, List.getElem?_cons_zero, List.getElem?_cons_succ, List.set_cons_zero, List.set_cons_succ]
    refine rw0 ?_
    dsimp only [xBin, xVar, cI, opMul, opAdd, List.getElem?_cons_zero, List.getElem?_cons_succ]
    refine rw0 ?_
    refine ⟨hw, ?_⟩
    dsimp only [xBin, xVar, cI, opMul, opAdd, List.getElem?_cons_zero, List.getElem?_cons_succ]
    refine rw1 ?_
    dsimp only [xBin, xVar, cI, opMul, opAdd, List.getElem?_cons_zero, List.getElem?_cons_succ]
    refine rw1 ?_
    refine ⟨hw, ?_⟩
    subst ew
    dsimp only [opAdd, datas, mkL]
    refine ⟨by simp [sizeLine_eq], ?_⟩
    exact (hK' _ _ ⟨rfl, _, _, _, rfl⟩).1
   cases hb : (isS (letX x) == isS c) with
   | true => exact tail 1 (by decide) (by unfold sgnOf; rw [hb]; rfl)
   | false => exact tail (-1) (by decide) (by unfold sgnOf; rw [hb]; rfl)
  ·rintro vs hp' ⟨rfl, o5, o6, o7, rfl⟩
   dsimp only [sPut, xVar, xBin, xMethS, mFind, cS, lCons, lNil, cI, opMod, isD, List.getElem?_cons_zero, List.getElem?_cons_succ]
   rw [find4 L]
   refine ⟨by decide, ?_⟩
   rw [fm2]
   refine ⟨by have := ix_lt (letX x); omega, ?_⟩
   refine atL_last ⟨ix (letX x) % 2, ?_, ?_⟩
   ·unfold seqIndex? ssD
    rcases ix2 (letX x) with h | h <;> rw [h] <;> rfl
   ·rw [set_last]
    refine (hK _ _ ⟨?_, _, _, _, _, _, _, _, _, rfl⟩).1
    rw [es]
    unfold setv newv ssD
    rcases ix2 (letX x) with h | h <;> rw [h] <;> rfl
 ·rintro vs hp' ⟨rfl, o0, o1, o2, o3, o4, o5, o6, o7, rfl⟩
  dsimp only [xVar, List.getElem?_cons_zero, List.getElem?_cons_succ]
  show fin false hp.length Q (.r hp.length) (hp ++ [.lst (ssD (sumsOf xs))])
  unfold fin
  simp only [Nat.lt_irrefl, if_false, get_last, List.take_left]
  exact q
noncomputable def nmStep (ns : List Nat) (x : Int) : List Nat := ns.filter (fun c => c != letX x && c != iv (letX x)) ++ [letX x]
noncomputable def namesOf (xs : List Int) : List Nat := xs.foldl nmStep [65, 98]
theorem names_len (xs : List Int) : (namesOf xs).length ≤ xs.length + 2 := by
 have : ∀ (xs : List Int) (ns : List Nat), (xs.foldl nmStep ns).length ≤ xs.length + ns.length := by
  intro xs
  induction xs with
  | nil => intro ns; simp
  | cons x xs ih =>
   intro ns
   have := ih (nmStep ns x)
   have h2 : (nmStep ns x).length ≤ ns.length + 1 := by unfold nmStep; rw [List.length_append]; have := List.length_filter_le (fun c => c != letX x && c != iv (letX x)) ns; simp; omega
   simp only [List.foldl_cons, List.length_cons]; omega
 exact this xs [65, 98]
theorem ch_bne (a b : Nat) : ((ch a) != (ch b)) = (a != b) := by rw [bne, bne, ch_beq]
theorem c_names {xs : List Int} {Q : V → List O → Prop} {hp : List O} (hz : xs.length ≤ 100) (q : Q (.d (.list (chs (namesOf xs)))) hp) : F__law_names [.d (.list (xs.map mvD))] Q hp := by
 dsimp only [F__law_names, runFn, bPlain, p__law_names]
 refine ⟨rfl, ?_⟩
 dsimp only [List.map_cons, List.map_nil, List.replicate, List.cons_append, List.nil_append, sCons, sAssign, xList, lCons, lNil, datas, mkL, sFor, xVar, cS, sNil, sRet, List.getElem?_cons_zero, List.getElem?_cons_succ, List.set_cons_zero, List.set_cons_succ]
 refine ⟨by simp [sizeLine_eq], ?_⟩
 show forL none _ _ _ (xs.map mvD) _ _
 refine for_pre (g := none) mvD xs (fun pre vs h => h = hp ∧ ∃ o0 o1 o2 o3, vs = [o0, some (.d (.list (chs (namesOf pre)))), o1, o2, o3])
  (fun _ _ _ _ => trivial) ?_ ?_ _ [] _ _ rfl ⟨rfl, _, none, none, none, by rw [lit_A, lit_b]; rfl⟩
 ·rintro pre x post vs hp' e ⟨rfl, o0, o1, o2, o3, rfl⟩ K hK
  have L := letX_L x
  have hpl : pre.length ≤ 100 := by
   have := congrArg List.length e
   rw [List.length_append] at this
   omega
  have nl := names_len pre
  have es : namesOf (pre ++ [x]) = nmStep (namesOf pre) x := by unfold namesOf; rw [List.foldl_append]; rfl
  rw [es] at hK
  generalize namesOf pre = ns at *
  refine iter_mv ?_
  dsimp only [tsCons, tsNil, tName, sCons, sNil, sAssign, xBin, List.set_cons_zero, List.set_cons_succ]
  refine comp1 (m := false) (v := .d (.list (chs ns))) (xs := chs ns) (fun d => match d with | .str y => (y != ch (letX x)) && (y != ch (iv (letX x))) | _ => false) id ?_ rfl ?_ ?_ ?_ ?_
  ·intro K' k; exact k
  ·intro d hd l K' k
   obtain ⟨c, hc, rfl⟩ := List.mem_map.mp hd
   dsimp only [bAnd, bCmp, xVar, xCall, lCons, lNil, opNe, truthV, List.getElem?_cons_zero, List.getElem?_cons_succ]
   cases hb : (ch c != ch (letX x)) with
   | false =>
    simp only [hb, Bool.false_and] at k
    exact k
   | true =>
    simp only [hb, Bool.true_and] at k
    refine c_back (w := [letX x]) (wd_cons.mpr ⟨L, wd_nil⟩) (by simp) ?_
    exact k
  ·intro d hd _ l K' k; exact k
  ·unfold chs; rw [List.length_map, sizeLine_eq]; omega
  ·have ef : (((chs ns).filter fun d => match d with | .str y => (y != ch (letX x)) && (y != ch (iv (letX x))) | _ => false).map id) = chs (ns.filter (fun c => c != letX x && c != iv (letX x))) := by
    unfold chs
    rw [List.map_id, List.filter_map]
    congr 1
    apply List.filter_congr
    intro c _
    show ((ch c != ch (letX x)) && (ch c != ch (iv (letX x)))) = _
    rw [ch_bne, ch_bne]
   rw [ef]
   dsimp only [xList, lCons, lNil, xVar, datas, mkL, List.getElem?_cons_zero, List.getElem?_cons_succ]
   refine ⟨by simp [sizeLine_eq], ?_⟩
   refine ⟨chs (ns.filter (fun c => c != letX x && c != iv (letX x))), [.str (ch (letX x))], rfl, rfl, ?_, ?_⟩
   ·have := List.length_filter_le (fun c => c != letX x && c != iv (letX x)) ns
    unfold chs; rw [List.length_map, sizeLine_eq]; simp; omega
   ·have en : chs (nmStep ns x) = chs (ns.filter (fun c => c != letX x && c != iv (letX x))) ++ [.str (ch (letX x))] := by
     unfold nmStep chs
     rw [List.map_append]; rfl
    rw [en] at hK
    exact (hK _ _ ⟨rfl, _, _, _, _, rfl⟩).1
 ·rintro vs hp' ⟨rfl, o0, o1, o2, o3, rfl⟩
  exact fin_len rfl q
noncomputable def getD (rows : List (Str × Str)) (x : Str) : PyData := match rows.find? (fun r => Txt.lower r.1 == Txt.lower x) with | some r => .str r.2 | none => .none
theorem c_get {it ih : Nat} {rows : List (Str × Str)} {x : Str} {Q : V → List O → Prop} {hp : List O} (T : Tb hp it ih rows) (hx : okS (Txt.lower x)) (hr : ∀ r ∈ rows, (Txt.lower r.1).length ≤ sizeLine)
  (q : Q (.d (getD rows x)) hp) : F_Headers_get [.r it, .d (.str x)] Q hp := by
 obtain ⟨hlt, ⟨fs, e1, f⟩, ls, few⟩ := T
 dsimp only [F_Headers_get, runFn, bDef, p_Headers_get]
 refine ⟨rfl, ?_⟩
 dsimp only [sCons, sAssign, xUn, xVar, sRet, sFor, cB, sNil, xMeth, xMethS, mLower, lCons, lNil, List.map_cons, List.map_nil, List.replicate, List.cons_append, List.nil_append, List.getElem?_cons_zero, List.getElem?_cons_succ, List.set_cons_zero, List.set_cons_succ]
 refine ⟨atI_go e1 trivial, okS_le hx, c_conv hx ?_⟩
 refine getF_go e1 f ?_
 show iterV (.r ih) hp _
 unfold iterV
 simp only [ls]
 have go : ∀ (rs : List (Str × Str)) (o1 o2 : Option V) (QQ : QS), (∀ r ∈ rs, r ∈ rows) → (∀ vs, match rs.find? (fun r => Txt.lower r.1 == Txt.lower x) with | some r => QQ (.ret (.d (.str r.2))) vs hp | none => True) →
   (rs.find? (fun r => Txt.lower r.1 == Txt.lower x) = none → ∀ o1 o2, QQ .next [some (.r it), some (.d (.str (Txt.lower x))), some (.d .none), o1, o2] hp) →
   forL (some (ih, rows.map rowD)) (tTuple 2 (tsCons (tName 3) (tsCons (tName 4) tsNil))) (sCons (sIf (bCmp opEq (xMethS mLower (xVar 3) lNil) (xVar 1)) (sCons (sRet (xVar 4)) sNil) sNil) sNil) QQ (rs.map rowD)
    [some (.r it), some (.d (.str (Txt.lower x))), some (.d .none), o1, o2] hp := by
  intro rs
  induction rs with
  | nil => intro o1 o2 QQ _ _ h2; exact ⟨ls, h2 rfl o1 o2⟩
  | cons r rs ih' =>
   intro o1 o2 QQ hm h1 h2
   refine ⟨ls, rfl, ?_⟩
   simp only [tsCons, tsNil, tName, sCons, sIf, sNil, bCmp, xMethS, mLower, xVar, lNil, sRet, List.getElem?_cons_zero, List.getElem?_cons_succ, List.set_cons_zero, List.set_cons_succ]
   refine ⟨hr r (hm r List.mem_cons_self), ?_⟩
   simp only [opEq, truthV]
   cases hb : (Txt.lower r.1 == Txt.lower x) with
   | true =>
    have := h1 [some (.r it), some (.d (.str (Txt.lower x))), some (.d .none), some (.d (.str r.1)), some (.d (.str r.2))]
    rw [List.find?_cons_of_pos (by rw [hb])] at this
    exact this
   | false =>
    rw [List.find?_cons_of_neg (by rw [hb]; simp)] at h1 h2
    exact ih' _ _ QQ (fun s hs => hm s (List.mem_cons_of_mem _ hs)) h1 h2
 unfold getD at q
 refine go rows none none _ (fun _ h => h) ?_ ?_
 ·intro vs
  cases hf : rows.find? (fun r => Txt.lower r.1 == Txt.lower x) with
  | none => trivial
  | some r =>
   rw [hf] at q
   exact fin_len rfl q
 ·intro hf o1 o2
  rw [hf] at q
  exact fin_len rfl q
theorem c_add {it ih : Nat} {rows : List (Str × Str)} {x y : Str} {Q : V → List O → Prop} {hp : List O} (T : Tb hp it ih rows) (hlt : it < hp.length) (hx : okS x) (hy : okS y)
  (q : Q (.d .none) (hp.set ih (.lst ((rows ++ [(x, y)]).map rowD)))) : F_Headers_add_header [.r it, .d (.str x), .d (.str y)] Q hp := by
 obtain ⟨hlt', ⟨fs, e1, f⟩, ls, few⟩ := T
 simp only [F_Headers_add_header, runFn, bKw, p_Headers_add_header]
 refine ⟨rfl, ?_⟩
 simp only [sCons, sAssign, sExpr, sIf, bCmp, opIsNot, isNoneV, truthV, xUn, xVar, cNone, cS, cB, sNil, xMeth, xMethL, xMethS, xList, xTuple, datas, mkL, lCons, lNil, List.map_cons, List.map_nil, List.replicate, List.cons_append, List.nil_append, List.getElem?_cons_zero, List.getElem?_cons_succ, List.set_cons_zero, List.set_cons_succ]
 have g1 : ∀ {k : Nat} {o : O} (l : List PyData), hp[k]? = some o → (hp ++ [.edict] ++ [.lst l])[k]? = some o := fun l e => get_left (get_left e _) _
 have H1 : (hp ++ [O.edict]).length = hp.length + 1 := by simp
 refine ⟨by simp [sizeLine_eq], ?_⟩
 simp only [Bool.not_false]
 refine ⟨atI_go (g1 _ e1) trivial, ?_⟩
 refine c_conv hy ?_
 refine ⟨by rw [lget_last]; rfl, by rw [lget_last]; rfl, ?_⟩
 unfold mAppend
 dsimp only
 refine atL_last ⟨by simp [sizeLine_eq], ?_⟩
 rw [set_last]
 simp only [sForE, List.nil_append]
 refine ⟨hp.length, rfl, by simp, ?_⟩
 refine getF_go (g1 _ e1) f ?_
 refine ⟨by rw [lget_go (g1 _ ls)]; rfl, ?_⟩
 refine ⟨atI_go (g1 _ e1) trivial, ?_⟩
 refine c_conv hx ?_
 have ej : Txt.join "; " [y] = y := by
  unfold Txt.join
  rw [StrLaws.glued_eq_join]
  rfl
 refine ⟨[.str y], [y], lget_last, rfl, ?_, ?_⟩
 ·exact joinOk (by rw [ej]; have := hy.2; omega) (by decide)
 rw [ej]
 refine ⟨by show 2 ≤ _; rw [sizeLine_eq]; decide, ?_⟩
 refine ⟨by rw [lget_go (g1 _ ls)]; rfl, ?_⟩
 refine atL_go (g1 _ ls) ⟨by rw [List.length_map, sizeLine_eq]; omega, ?_⟩
 refine fin_same ?_
 have hil : ih < hp.length := by omega
 have e5 : ((hp ++ [O.edict] ++ [O.lst [.str y]]).set ih (.lst (rows.map rowD ++ [.tuple [.str x, .str y]]))).take hp.length = hp.set ih (.lst (rows.map rowD ++ [.tuple [.str x, .str y]])) := by
  rw [List.append_assoc, List.set_append_left _ _ hil, List.take_append_of_le_length (by simp), List.take_of_length_le (by simp)]
 rw [e5]
 rw [List.map_append] at q
 exact q
noncomputable def pageL (rows : List (List Nat × List Nat)) : List Nat := (rows.map fun r => r.1 ++ [58, 32] ++ r.2 ++ [13, 10]).flatten ++ [13, 10]
noncomputable def rowsS (rows : List (List Nat × List Nat)) : List (Str × Str) := rows.map fun r => (mkS r.1, mkS r.2)
theorem join_page (s : List Nat) : ∀ ls : List (List Nat), Str.join (mkS s) (ls.map mkS ++ [mkS [], mkS []]) = mkS ((ls.map fun l => l ++ s).flatten ++ s)
 | [] => by
  show mkS [] ++ mkS s ++ mkS [] = _
  rw [mkS_app, mkS_app]; simp
 | [a] => by
  show mkS a ++ mkS s ++ Str.join (mkS s) ([].map mkS ++ [mkS [], mkS []]) = _
  rw [join_page s [], mkS_app, mkS_app]; simp
 | a :: b :: ls => by
  show mkS a ++ mkS s ++ Str.join (mkS s) ((b :: ls).map mkS ++ [mkS [], mkS []]) = _
  rw [join_page s (b :: ls), mkS_app, mkS_app]; simp
theorem lit_rn : ("\r\n" : Str) = mkS [13, 10] := by decide +kernel
theorem c_strH {it ih : Nat} {rows : List (List Nat × List Nat)} {Q : V → List O → Prop} {hp : List O} (T : Tb hp it ih (rowsS rows)) (hr : ∀ r ∈ rows, r.1.length ≤ 100 ∧ r.2.length ≤ 100) (hz : rows.length ≤ 100)
  (q : Q (.d (.str (mkS (pageL rows)))) hp) : F_Headers___str__ [.r it] Q hp := by
 obtain ⟨hlt, ⟨fs, e1, f⟩, ls, few⟩ := T
 simp only [F_Headers___str__, runFn, bPlain, p_Headers___str__, sCons, sRet, xMethS, cS, lCons, lNil, xBin, List.map_cons, List.map_nil, List.replicate, List.append_nil]
 refine ⟨rfl, ?_⟩
 refine comp1 (m := false) (v := .r ih) (xs := (rowsS rows).map rowD) (fun _ => true) (fun d => match d with | .tuple [.str a, .str b] => .str (a ++ ⟨#[58, 32]⟩ ++ b) | d => d) ?_ ?_ ?_ ?_ ?_ ?_
 ·intro K k
  exact getF_go e1 f k
 ·unfold iterV; simp only [ls]
 ·intro d hd l K k; exact k
 ·intro d hd _ l K k
  obtain ⟨r, hr', rfl⟩ := List.mem_map.mp hd
  obtain ⟨r0, hr0, rfl⟩ := List.mem_map.mp hr'
  have := hr r0 hr0
  refine ⟨_, _, congrArg (fun x => V.d (.str x)) (by decide +kernel), rfl, by rw [mkS_len]; omega, by rw [mkS_len]; omega, ?_⟩
  exact k
 ·rw [List.length_map, sizeLine_eq]; unfold rowsS; rw [List.length_map]; omega
 ·have e : ((((rowsS rows).map rowD).filter fun _ => true).map fun d => match d with | .tuple [.str a, .str b] => .str (a ++ ⟨#[58, 32]⟩ ++ b) | d => d) = (rows.map fun r => r.1 ++ [58, 32] ++ r.2).map fun w => PyData.str (mkS w) := by
   rw [List.filter_eq_self.mpr (fun _ _ => rfl)]
   unfold rowsS
   rw [List.map_map, List.map_map, List.map_map]
   apply List.map_congr_left
   intro r _
   show PyData.str (mkS r.1 ++ mkS [58, 32] ++ mkS r.2) = _
   rw [mkS_app, mkS_app]; rfl
  rw [e]
  simp only [xList, lCons, lNil, cS, datas, mkL]
  refine ⟨by simp [sizeLine_eq], ?_⟩
  refine ⟨_, _, rfl, rfl, by rw [List.length_map, List.length_map, sizeLine_eq]; simp; omega, ?_⟩
  have hl : ∀ rows : List (List Nat × List Nat), (∀ r ∈ rows, r.1.length ≤ 100 ∧ r.2.length ≤ 100) → (pageL rows).length ≤ 204 * rows.length + 2 := by
   intro rows
   induction rows with
   | nil => intro _; simp [pageL]
   | cons r rows ih2 =>
    intro h
    have a := ih2 (fun r hr => h r (List.mem_cons_of_mem _ hr))
    have b := h r List.mem_cons_self
    have e3 : pageL (r :: rows) = (r.1 ++ [58, 32] ++ r.2 ++ [13, 10]) ++ pageL rows := by unfold pageL; simp
    rw [e3]
    simp only [List.length_append, List.length_cons, List.length_nil]
    omega
  have hlr := hl rows hr
  have eM : ((rows.map fun r => r.1 ++ [58, 32] ++ r.2).map fun w => PyData.str (mkS w)) ++ [.str "", .str ""] = (((rows.map fun r => r.1 ++ [58, 32] ++ r.2).map mkS) ++ [mkS [], mkS []]).map PyData.str := by
   rw [lit_empty, List.map_append, List.map_map, List.map_map, List.map_map]; rfl
  have ej : Txt.join "\r\n" (((rows.map fun r => r.1 ++ [58, 32] ++ r.2).map mkS) ++ [mkS [], mkS []]) = mkS (pageL rows) := by
   unfold Txt.join
   rw [StrLaws.glued_eq_join, lit_rn, join_page]
   unfold pageL
   rw [List.map_map]; rfl
  refine ⟨_, _, rfl, by rw [eM]; exact strsOf_map _, joinOk (by rw [ej, mkS_len]; omega) (by decide), ?_⟩
  rw [ej]
  exact fin_len rfl q
noncomputable def lw (c : Nat) : Nat := if c = 65 then 97 else if c = 66 then 98 else c
theorem lower_ch {c : Nat} (h : isL c = true) : Txt.lower (ch c) = ch (lw c) := by rcases L4 h with rfl | rfl | rfl | rfl <;> decide +kernel
theorem lw_L {c : Nat} (h : isL c = true) : isL (lw c) = true := by rcases L4 h with rfl | rfl | rfl | rfl <;> rfl
noncomputable abbrev Bk := List (Nat × List Nat)
noncomputable def valOf (rows : Bk) (c : Nat) : List Nat := match rows.find? (fun r => lw r.1 == lw c) with | some r => r.2 | none => []
noncomputable def bw (rows : Bk) (c : Nat) : List Nat := if isS c then valOf rows c else back (valOf rows c)
noncomputable def wordX (x : Int) : List Nat := if isS (letX x) then imX x else back (imX x)
noncomputable def bkStep (rows : Bk) (x : Int) : Bk := rows.filter (fun r => lw r.1 != lw (letX x)) ++ [(letX x, prod ((wordX x).map (bw rows)).flatten)]
noncomputable def bookOf (xs : List Int) : Bk := xs.foldl bkStep [(65, [97]), (98, [98])]
noncomputable def bkS (rows : Bk) : List (Str × Str) := rows.map fun r => (ch r.1, mkS r.2)
structure BkOk (rows : Bk) (n : Nat) : Prop where
 l : ∀ r ∈ rows, isL r.1 = true
 w : ∀ r ∈ rows, wd r.2
 z : ∀ r ∈ rows, r.2.length ≤ n
 k : ∀ c, isL c = true → ∃ r ∈ rows, lw r.1 = lw c
theorem valOf_mem {rows : Bk} {n : Nat} (B : BkOk rows n) {c : Nat} (hc : isL c = true) : ∃ r ∈ rows, rows.find? (fun r => lw r.1 == lw c) = some r ∧ valOf rows c = r.2 := by
 obtain ⟨r, hr, e⟩ := B.k c hc
 cases hf : rows.find? (fun r => lw r.1 == lw c) with
 | none =>
  have := List.find?_eq_none.mp hf r hr
  simp [e] at this
 | some s => exact ⟨s, List.mem_of_find?_eq_some hf, rfl, by unfold valOf; rw [hf]⟩
theorem valOf_ok {rows : Bk} {n : Nat} (B : BkOk rows n) {c : Nat} (hc : isL c = true) : wd (valOf rows c) ∧ (valOf rows c).length ≤ n := by
 obtain ⟨r, hr, _, e⟩ := valOf_mem B hc
 rw [e]; exact ⟨B.w r hr, B.z r hr⟩
theorem bw_ok {rows : Bk} {n : Nat} (B : BkOk rows n) {c : Nat} (hc : isL c = true) : wd (bw rows c) ∧ (bw rows c).length ≤ n := by
 obtain ⟨a, b⟩ := valOf_ok B hc
 unfold bw
 split
 ·exact ⟨a, b⟩
 ·exact ⟨wd_back a, by rw [back_len]; exact b⟩
theorem wordX_ok (x : Int) : wd (wordX x) ∧ (wordX x).length ≤ 2 := by
 obtain ⟨a, b, _⟩ := imX_ok x
 unfold wordX
 split
 ·exact ⟨a, b⟩
 ·exact ⟨wd_back a, by rw [back_len]; exact b⟩
theorem flat_ok {rows : Bk} {n : Nat} (B : BkOk rows n) : ∀ {w : List Nat}, wd w → wd ((w.map (bw rows)).flatten) ∧ ((w.map (bw rows)).flatten).length ≤ n * w.length
 | [], _ => ⟨wd_nil, by simp⟩
 | c :: w, h => by
  obtain ⟨a, b⟩ := bw_ok B (wd_cons.mp h).1
  obtain ⟨d, e⟩ := flat_ok B (wd_cons.mp h).2
  rw [List.map_cons, List.flatten_cons]
  exact ⟨wd_app.mpr ⟨a, d⟩, by rw [List.length_append, List.length_cons, Nat.mul_add]; lia⟩
theorem bkStep_ok {rows : Bk} {n : Nat} (B : BkOk rows n) (x : Int) : BkOk (bkStep rows x) (2 * n) := by
 obtain ⟨a, b⟩ := wordX_ok x
 obtain ⟨c, d⟩ := flat_ok B a
 have L := letX_L x
 have pl := prod_len ((wordX x).map (bw rows)).flatten
 have : n * (wordX x).length ≤ n * 2 := Nat.mul_le_mul_left n b
 constructor
 ·intro r hr
  rcases List.mem_append.mp hr with h | h
  ·exact B.l r (List.mem_filter.mp h).1
  ·rw [List.mem_singleton.mp h]; exact L
 ·intro r hr
  rcases List.mem_append.mp hr with h | h
  ·exact B.w r (List.mem_filter.mp h).1
  ·rw [List.mem_singleton.mp h]; exact prod_wd c
 ·intro r hr
  rcases List.mem_append.mp hr with h | h
  ·have := B.z r (List.mem_filter.mp h).1; lia
  ·rw [List.mem_singleton.mp h]
   show (prod _).length ≤ _
   lia
 ·intro e he
  by_cases h : lw (letX x) = lw e
  ·exact ⟨_, List.mem_append.mpr (.inr (List.mem_singleton.mpr rfl)), h⟩
  ·obtain ⟨r, hr, er⟩ := B.k e he
   refine ⟨r, List.mem_append.mpr (.inl (List.mem_filter.mpr ⟨hr, ?_⟩)), er⟩
   rw [er]
   simpa using fun q => h q.symm
theorem book_ok0 : BkOk [(65, [97]), (98, [98])] 1 := by
 constructor
 ·intro r hr; simp at hr; rcases hr with rfl | rfl <;> rfl
 ·intro r hr; simp at hr; rcases hr with rfl | rfl <;> exact wd_cons.mpr ⟨rfl, wd_nil⟩
 ·intro r hr; simp at hr; rcases hr with rfl | rfl <;> simp
 ·intro c hc
  rcases L4 hc with rfl | rfl | rfl | rfl
  ·exact ⟨(65, [97]), by simp, rfl⟩
  ·exact ⟨(98, [98]), by simp, rfl⟩
  ·exact ⟨(65, [97]), by simp, rfl⟩
  ·exact ⟨(98, [98]), by simp, rfl⟩
theorem book_ok (xs : List Int) : BkOk (bookOf xs) (2 ^ xs.length) := by
 have : ∀ (xs : List Int) (rows : Bk) (n : Nat), BkOk rows n → BkOk (xs.foldl bkStep rows) (2 ^ xs.length * n) := by
  intro xs
  induction xs with
  | nil => intro rows n B; rw [List.length_nil, Nat.pow_zero, Nat.one_mul]; exact B
  | cons x xs ih =>
   intro rows n B
   have := ih _ _ (bkStep_ok B x)
   rw [List.length_cons, Nat.pow_succ, Nat.mul_assoc]
   exact this
 have := this xs _ 1 book_ok0
 rwa [Nat.mul_one] at this
theorem book_len (xs : List Int) : (bookOf xs).length ≤ xs.length + 2 := by
 have : ∀ (xs : List Int) (rows : Bk), (xs.foldl bkStep rows).length ≤ xs.length + rows.length := by
  intro xs
  induction xs with
  | nil => intro ns; simp
  | cons x xs ih =>
   intro ns
   have := ih (bkStep ns x)
   have h2 : (bkStep ns x).length ≤ ns.length + 1 := by unfold bkStep; rw [List.length_append]; have := List.length_filter_le (fun r => lw r.1 != lw (letX x)) ns; simp; omega
   simp only [List.foldl_cons, List.length_cons]; omega
 exact this xs _
theorem clean_wd {w : List Nat} (h : wd w) : cleanS (mkS w) = true := by
 unfold cleanS
 rw [List.all_eq_true]
 intro c hc
 have : isL c = true := h c (by simpa using hc)
 rcases L4 this with rfl | rfl | rfl | rfl <;> decide
theorem okS_wd {w : List Nat} (h : wd w) (hl : w.length ≤ 1000) : okS (mkS w) := ⟨clean_wd h, by rw [mkS_len]; exact hl⟩
theorem okS_ch {c : Nat} (h : isL c = true) : okS (ch c) := okS_wd (w := [c]) (wd_cons.mpr ⟨h, wd_nil⟩) (by simp)
theorem getD_bk {rows : Bk} {n : Nat} (B : BkOk rows n) {c : Nat} (hc : isL c = true) : getD (bkS rows) (ch c) = .str (mkS (valOf rows c)) := by
 obtain ⟨r, hr, hf, e⟩ := valOf_mem B hc
 have : (bkS rows).find? (fun s => Txt.lower s.1 == Txt.lower (ch c)) = some (ch r.1, mkS r.2) := by
  unfold bkS
  rw [List.find?_map]
  have e2 : rows.find? ((fun s : Str × Str => Txt.lower s.1 == Txt.lower (ch c)) ∘ fun r => (ch r.1, mkS r.2)) = rows.find? (fun r => lw r.1 == lw c) := by
   have : ∀ (l : Bk), (∀ r ∈ l, isL r.1 = true) → l.find? ((fun s : Str × Str => Txt.lower s.1 == Txt.lower (ch c)) ∘ fun r => (ch r.1, mkS r.2)) = l.find? (fun r => lw r.1 == lw c) := by
    intro l
    induction l with
    | nil => intro _; rfl
    | cons s l ih =>
     intro h
     have hs := h s List.mem_cons_self
     have es : ((fun s : Str × Str => Txt.lower s.1 == Txt.lower (ch c)) ∘ fun r : Nat × List Nat => (ch r.1, mkS r.2)) s = (lw s.1 == lw c) := by
      show (Txt.lower (ch s.1) == Txt.lower (ch c)) = _
      rw [lower_ch hs, lower_ch hc, ch_beq]
     rw [List.find?_cons, List.find?_cons, es, ih (fun r hr => h r (List.mem_cons_of_mem _ hr))]
   exact this rows B.l
  rw [e2, hf]; rfl
 unfold getD
 rw [this, e]
theorem Tb.app {hp : List O} {it ih : Nat} {rows : List (Str × Str)} (T : Tb hp it ih rows) (l : List O) : Tb (hp ++ l) it ih rows := by
 obtain ⟨hlt, ⟨fs, e1, f⟩, ls, few⟩ := T
 exact ⟨hlt, ⟨fs, get_left e1 _, f⟩, get_left ls _, few⟩
theorem Tb.put {hp : List O} {it ih : Nat} {rows rows' : List (Str × Str)} (T : Tb hp it ih rows) (few : rows'.length ≤ 1000) : Tb (hp.set ih (.lst (rows'.map rowD))) it ih rows' := by
 obtain ⟨hlt, ⟨fs, e1, f⟩, ls, _⟩ := T
 exact ⟨hlt, ⟨fs, by rw [List.getElem?_set_ne (Nat.ne_of_lt hlt)]; exact e1, f⟩, set_get ls, few⟩
noncomputable def firstC : PyData → PyData
 | .str ⟨a⟩ => .int (a.toList.headD 0)
 | d => d
noncomputable def bkF (rows : Bk) (d : PyData) : PyData := match firstC d with | .int k => .str (mkS (bw rows k.toNat)) | d => d
theorem bkF_ch (rows : Bk) (c : Nat) : bkF rows (.str (ch c)) = .str (mkS (bw rows c)) := rfl
theorem bkS_step (rows : Bk) (h : ∀ r ∈ rows, isL r.1 = true) (x : Int) : bkS (bkStep rows x) = ((bkS rows).filter fun r => Txt.lower r.1 != Txt.lower (ch (letX x))) ++ [(ch (letX x), mkS (prod ((wordX x).map (bw rows)).flatten))] := by
 unfold bkStep bkS
 rw [List.map_append, List.filter_map]
 congr 1
 congr 1
 apply List.filter_congr
 intro r hr
 show (lw r.1 != lw (letX x)) = (Txt.lower (ch r.1) != Txt.lower (ch (letX x)))
 rw [lower_ch (h r hr), lower_ch (letX_L x), ch_bne]
theorem c_book {xs : List Int} {Q : V → List O → Prop} {hp : List O} (hz : xs.length ≤ 8) (q : ∀ it ih hp', hp.length ≤ ih → hp.length ≤ it → (∀ k, k < hp.length → hp'[k]? = hp[k]?) → Tb hp' it ih (bkS (bookOf xs)) → Q (.r it) hp') :
  F__law_book [.d (.list (xs.map mvD))] Q hp := by
 simp only [F__law_book, runFn, bPlain, p__law_book]
 refine ⟨rfl, ?_⟩
 simp only [List.map_cons, List.map_nil, List.replicate, List.cons_append, List.nil_append]
 simp only [sCons, sAssign, xCall, xList, xTuple, cS, lCons, lNil, datas, mkL, List.getElem?_cons_zero, List.getElem?_cons_succ, List.set_cons_zero, List.set_cons_succ]
 refine ⟨by simp [sizeLine_eq], by simp [sizeLine_eq], by simp [sizeLine_eq], ?_⟩
 have er : ([.tuple [.str "A", .str "a"], .tuple [.str "b", .str "b"]] : List PyData) = (bkS (bookOf [])).map rowD := by rw [lit_A, lit_a, lit_b]; rfl
 show F_Headers [V.r hp.length] _ (hp ++ [O.lst [.tuple [.str "A", .str "a"], .tuple [.str "b", .str "b"]]])
 rw [er]
 refine c_headers (rows := bkS (bookOf [])) get_last (by decide) ?_ ?_
 ·intro r hr
  obtain ⟨s, hs, rfl⟩ := List.mem_map.mp hr
  have B := book_ok []
  exact ⟨okS_ch (B.l s hs), okS_wd (B.w s hs) (by have := B.z s hs; simp at this; lia)⟩
 intro hp1 h1 h2 T0
 have hl0 : (hp ++ [O.lst ((bkS (bookOf [])).map rowD)]).length = hp.length + 1 := by simp
 rw [hl0] at h1 h2 T0 ⊢
 simp only [sFor, xVar, List.getElem?_cons_zero, List.getElem?_cons_succ, List.set_cons_zero, List.set_cons_succ]
 show forL none _ _ _ (xs.map mvD) _ _
 refine for_pre (g := none) mvD xs (fun pre vs h => (∀ k, k < hp.length → h[k]? = hp[k]?) ∧ Tb h (hp.length + 1) hp.length (bkS (bookOf pre)) ∧ ∃ o0 o1 o2 o3 o4, vs = [o0, some (.r (hp.length + 1)), o1, o2, o3, o4])
  (fun _ _ _ _ => trivial) ?_ ?_ _ [] _ _ rfl ⟨?_, T0, _, none, none, none, none, rfl⟩
 ·rintro pre x post vs hp' e ⟨hk, T, o0, o1, o2, o3, o4, rfl⟩ K hK
  have L := letX_L x
  have hpl : pre.length ≤ 7 := by
   have := congrArg List.length e
   rw [List.length_append, List.length_cons] at this
   lia
  have B : BkOk (bookOf pre) 128 := by
   have := book_ok pre
   refine ⟨this.l, this.w, fun r hr => Nat.le_trans (this.z r hr) ?_, this.k⟩
   exact Nat.le_trans (Nat.pow_le_pow_right (by decide) hpl) (by decide)
  have nl := book_len pre
  have es : bookOf (pre ++ [x]) = bkStep (bookOf pre) x := by unfold bookOf; rw [List.foldl_append]; rfl
  rw [es] at hK
  generalize bookOf pre = rows at *
  obtain ⟨iw, il, _⟩ := imX_ok x
  obtain ⟨ww, wl⟩ := wordX_ok x
  obtain ⟨fw, fl⟩ := flat_ok B ww
  refine iter_mv ?_
  simp only [tsCons, tsNil, tName, sCons, sNil, sAssign, xIte, bCmp, xVar, cS, opIn, truthV, List.getElem?_cons_zero, List.getElem?_cons_succ, List.set_cons_zero, List.set_cons_succ]
  rw [in_ab L]
  have tail : ∀ vw : V, vw = .d (.str (mkS (wordX x))) → sPutOwn 233 F_Headers___setitem__ (xVar 1) (xVar 2) (xCall F__law_product (lCons (xComp false 1 (tName 0) (xVar 5) iNil (xIte (bCmp opIn (xVar 0) (cS "ab")) (xMeth 233 F_Headers_get (xVar 2) (lCons (xVar 0) lNil) lNil) (xCall F__law_back (lCons (xMeth 233 F_Headers_get (xVar 2) (lCons (xVar 0) lNil) lNil) lNil)))) lNil))
    [o0, some (.r (hp.length + 1)), some (.d (.str (ch (letX x)))), some (.d (.str (mkS (imX x)))), some (.d (.int (wayX x))), some vw]
    (fun fl vs' hp_1 => match fl with | .next => K .next vs' hp_1 | fl => K fl vs' hp_1) hp' := by
   rintro _ rfl
   obtain ⟨fs, e1, f⟩ := T.ob
   simp only [sPutOwn, xCall, lCons, lNil]
   refine comp1 (m := false) (v := .d (.str (mkS (wordX x)))) (xs := (wordX x).map fun c => PyData.str (ch c)) (fun _ => true) (bkF rows) ?_ ?_ ?_ ?_ ?_ ?_
   ·intro K' k; exact k
   ·exact sg _
   ·intro d hd l K' k; exact k
   ·intro d hd _ l K' k
    obtain ⟨c, hc, rfl⟩ := List.mem_map.mp hd
    have hcL := ww c hc
    rw [bkF_ch] at k
    obtain ⟨vw, vl⟩ := valOf_ok B hcL
    simp only [xIte, bCmp, xVar, cS, opIn, truthV, List.getElem?_cons_zero, List.getElem?_cons_succ]
    rw [in_ab hcL]
    have hrL : ∀ r ∈ bkS rows, (Txt.lower r.1).length ≤ sizeLine := by
     intro r hr
     obtain ⟨s, hs, rfl⟩ := List.mem_map.mp hr
     exact okS_le (okS_ch (c := lw s.1) (lw_L (B.l s hs)) |> fun h => by rw [lower_ch (B.l s hs)]; exact h)
    have hok : okS (Txt.lower (ch c)) := by rw [lower_ch hcL]; exact okS_ch (lw_L hcL)
    unfold bw at k
    cases hb : isS c with
    | true =>
     rw [hb] at k
     simp only [xMeth, xVar, lCons, lNil, List.getElem?_cons_zero, List.getElem?_cons_succ, List.append_nil]
     refine ⟨atI_go (get_left e1 _) trivial, ?_⟩
     refine c_get (T.app l) hok hrL ?_
     rw [getD_bk B hcL]
     exact k
    | false =>
     rw [hb] at k
     simp only [xCall, xMeth, xVar, lCons, lNil, List.getElem?_cons_zero, List.getElem?_cons_succ, List.append_nil]
     refine ⟨atI_go (get_left e1 _) trivial, ?_⟩
     refine c_get (T.app l) hok hrL ?_
     rw [getD_bk B hcL]
     exact c_back vw (by lia) k
   ·rw [List.length_map, sizeLine_eq]; lia
   ·have ef : ((((wordX x).map fun c => PyData.str (ch c)).filter fun _ => true).map (bkF rows)) = ((wordX x).map (bw rows)).map fun w => .str (mkS w) := by
     rw [List.filter_eq_self.mpr (fun _ _ => rfl), List.map_map, List.map_map]
     apply List.map_congr_left
     intro c _
     exact bkF_ch rows c
    rw [ef]
    refine c_product (ws := (wordX x).map (bw rows)) ?_ (by lia) ?_
    ·intro w hw
     obtain ⟨c, hc, rfl⟩ := List.mem_map.mp hw
     exact (bw_ok B (ww c hc)).1
    ·simp only [xVar, List.getElem?_cons_zero, List.getElem?_cons_succ]
     refine ⟨atI_go e1 trivial, ?_⟩
     have pl := prod_len ((wordX x).map (bw rows)).flatten
     refine c_set T (by rw [lower_ch L]; exact okS_ch (lw_L L)) (okS_ch L) (okS_wd (prod_wd fw) (by lia)) ?_ ?_
     ·intro r hr
      obtain ⟨s, hs, rfl⟩ := List.mem_map.mp hr
      rw [lower_ch (B.l s hs)]
      exact okS_le (okS_ch (lw_L (B.l s hs)))
     ·rw [← bkS_step rows B.l x]
      refine (hK _ _ ⟨?_, T.put ?_, _, _, _, _, _, rfl⟩).1
      ·intro k hk'
       rw [List.getElem?_set_ne (by lia)]
       exact hk k hk'
      ·have h2 : (bkStep rows x).length ≤ rows.length + 1 := by unfold bkStep; rw [List.length_append]; have := List.length_filter_le (fun r => lw r.1 != lw (letX x)) rows; simp; lia
       unfold bkS; rw [List.length_map]; lia
  cases hb : isS (letX x) with
  | true => exact tail _ (by unfold wordX; rw [hb]; rfl)
  | false =>
   simp only [xCall, xVar, lCons, lNil, List.getElem?_cons_zero, List.getElem?_cons_succ]
   refine c_back iw (by lia) ?_
   exact tail _ (by unfold wordX; rw [hb]; rfl)
 ·rintro vs hp' ⟨hk, T, o0, o1, o2, o3, o4, rfl⟩
  simp only [sCons, sRet, xVar, List.getElem?_cons_zero, List.getElem?_cons_succ]
  exact q _ _ _ (Nat.le_refl _) (Nat.le_succ _) hk T
 ·intro k hk
  rw [h2 k (by lia), List.getElem?_append_left hk]
noncomputable def mvP (x : Int) : Nat × List Nat := (letX x, imX x)
noncomputable def dueD (xs : List Int) : List PyData := (xs.map fun x => [PyData.str (mkS [letX x, 58]), PyData.str (mkS (imX x))]).flatten
theorem wordsD_due (xs : List Int) : wordsD (xs.map mvP) = dueD xs ++ [.str (mkS [])] := by
 unfold wordsD dueD
 rw [List.map_map]; rfl
theorem dueD_len (xs : List Int) : (dueD xs).length = 2 * xs.length := by
 unfold dueD
 induction xs with
 | nil => rfl
 | cons x xs ih => rw [List.map_cons, List.flatten_cons, List.length_append, ih]; simp; lia
theorem dueD_snoc (xs : List Int) (x : Int) : dueD (xs ++ [x]) = dueD xs ++ [PyData.str (mkS [letX x, 58]), PyData.str (mkS (imX x))] := by
 unfold dueD; simp
noncomputable def rowP (x : Int) : List Nat × List Nat := ([letX x], wr (imX x) (wayX x))
noncomputable def hpL (xs : List Int) : List O := [.lst ((rowsS (xs.map rowP)).map rowD), .inst 233 [(0, .r 0)], .lst (dueD xs)]
theorem nums_len (script : List Int) : (nums script).length ≤ 7 := by unfold nums; rw [List.length_append, List.length_take]; simp; lia
theorem wr_len {im : List Nat} {way : Int} (h : im.length ≤ 2) : (wr im way).length ≤ 4 := by
 unfold wr
 split
 ·lia
 ·split
  ·simp; lia
  ·rw [esc_len]; lia
theorem wr_ok {im : List Nat} {way : Int} (h : wd im) : ∀ c ∈ wr im way, isL c = true ∨ c = 34 ∨ c = 92 := by
 intro c hc
 unfold wr at hc
 split at hc
 ·exact .inl (h c hc)
 ·split at hc
  ·rcases List.mem_append.mp hc with hc | hc
   ·rcases List.mem_cons.mp hc with rfl | hc
    ·exact .inr (.inl rfl)
    ·exact .inl (h c hc)
   ·exact .inr (.inl (List.mem_singleton.mp hc))
  ·obtain ⟨l, hl, hc⟩ := List.mem_flatten.mp hc
   obtain ⟨d, hd, rfl⟩ := List.mem_map.mp hl
   have hc' : c = 92 ∨ c = d := by simpa using hc
   rcases hc' with rfl | rfl
   ·exact .inr (.inr rfl)
   ·exact .inl (h _ hd)
theorem wr_clean {x : Int} : okS (mkS (wr (imX x) (wayX x))) := by
 obtain ⟨a, b, _⟩ := imX_ok x
 refine ⟨?_, by rw [mkS_len]; have := wr_len (way := wayX x) b; lia⟩
 unfold cleanS
 rw [List.all_eq_true]
 intro c hc
 have : isL c = true ∨ c = 34 ∨ c = 92 := wr_ok a c (by simpa using hc)
 rcases this with h | rfl | rfl
 ·rcases L4 h with rfl | rfl | rfl | rfl <;> decide
 ·decide
 ·decide
theorem x_law0 {script : List Int} {vs : List (Option V)} {QQ : QS} {hp : List O} (hz : script.length ≤ 2 ^ 20) (q : QQ .next (some (.d (.list (iI script))) :: some (.d (.list ((nums script).map mvD))) :: vs) hp) :
  p_law0 (some (.d (.list (iI script))) :: none :: vs) QQ hp := by
 simp only [p_law0, sAssign, xCall, xVar, lCons, lNil, List.getElem?_cons_zero]
 exact c_moves hz q
theorem x_law1 {o0 o1 : Option V} {vs : List (Option V)} {QQ : QS} (q : QQ .next (o0 :: o1 :: some (.r 1) :: vs) [.lst [], .inst 233 [(0, .r 0)]]) :
  p_law1 (o0 :: o1 :: none :: vs) QQ [] := by
 simp only [p_law1, sAssign, xCall, lNil]
 exact ⟨rfl, q⟩
theorem x_law2 {o0 o1 o2 : Option V} {vs : List (Option V)} {QQ : QS} (q : QQ .next (o0 :: o1 :: o2 :: some (.r 2) :: vs) (hpL [])) :
  p_law2 (o0 :: o1 :: o2 :: none :: vs) QQ [.lst [], .inst 233 [(0, .r 0)]] := by
 simp only [p_law2, sAssign, xList, lNil, datas, mkL]
 exact ⟨by simp [sizeLine_eq], q⟩
theorem x_law3 {xs : List Int} {o0 : Option V} {vs : List (Option V)} {QQ : QS} (hz : xs.length ≤ 7)
  (q : ∀ o4 o5 o6, QQ .next (o0 :: some (.d (.list (xs.map mvD))) :: some (.r 1) :: some (.r 2) :: o4 :: o5 :: o6 :: vs) (hpL xs)) :
  p_law3 (o0 :: some (.d (.list (xs.map mvD))) :: some (.r 1) :: some (.r 2) :: none :: none :: none :: vs) QQ (hpL []) := by
 dsimp only [p_law3, sFor, xVar, List.getElem?_cons_zero, List.getElem?_cons_succ]
 show forL none _ _ _ (xs.map mvD) _ _
 refine for_pre (g := none) mvD xs (fun pre vs' h => h = hpL pre ∧ ∃ o4 o5 o6, vs' = o0 :: some (.d (.list (xs.map mvD))) :: some (.r 1) :: some (.r 2) :: o4 :: o5 :: o6 :: vs)
  (fun _ _ _ _ => trivial) ?_ ?_ _ [] _ _ rfl ⟨rfl, none, none, none, rfl⟩
 ·rintro pre x post vs' hp' e ⟨rfl, o4, o5, o6, rfl⟩ K hK
  have hpl : pre.length ≤ 7 := by
   have := congrArg List.length e
   rw [List.length_append] at this
   lia
  obtain ⟨iw, il, _⟩ := imX_ok x
  refine iter_mv ?_
  dsimp only [tsCons, tsNil, tName, sCons, sNil, sExpr, xMeth, xVar, xCall, lCons, lNil, List.getElem?_cons_zero, List.getElem?_cons_succ, List.set_cons_zero, List.set_cons_succ, List.cons_append, List.nil_append, List.append_nil]
  have e1 : (hpL pre)[1]? = some (.inst 233 [(0, .r 0)]) := rfl
  have T : Tb (hpL pre) 1 0 (rowsS (pre.map rowP)) := ⟨by decide, ⟨_, e1, rfl⟩, rfl, by unfold rowsS; rw [List.length_map, List.length_map]; lia⟩
  refine ⟨atI_go e1 trivial, ?_⟩
  refine c_written (by lia) ?_
  refine c_add T (by show 1 < 3; decide) (okS_ch (letX_L x)) wr_clean ?_
  have er : rowsS (pre.map rowP) ++ [(ch (letX x), mkS (wr (imX x) (wayX x)))] = rowsS ((pre ++ [x]).map rowP) := by
   unfold rowsS; rw [List.map_append, List.map_append]; rfl
  rw [er]
  dsimp only [sAug, xList, xBin, xVar, cS, lCons, lNil, opAdd, datas, mkL, List.getElem?_cons_zero, List.getElem?_cons_succ, List.set_cons_zero, List.set_cons_succ]
  refine ⟨by show 1 + 1 ≤ _; rw [sizeLine_eq]; decide, ?_⟩
  refine ⟨by simp [sizeLine_eq], ?_⟩
  refine iadd_go (l1 := dueD pre) (l2 := [.str (ch (letX x) ++ ":"), .str (mkS (imX x))]) rfl (by rw [dueD_len, sizeLine_eq]; simp; lia) ?_
  refine (hK _ _ ⟨?_, _, _, _, rfl⟩).1
  have ed : dueD pre ++ [.str (ch (letX x) ++ ":"), .str (mkS (imX x))] = dueD (pre ++ [x]) := by
   rw [dueD_snoc, lit_colon]; rfl
  rw [ed]; rfl
 ·rintro vs' hp' ⟨rfl, o4, o5, o6, rfl⟩
  exact q _ _ _
end Mine
namespace Mine
open PySem PySem.Spec PySem.Calls PyProof.Rows
noncomputable def lawSt (i : Nat) : Stmt := (fBody (stAt 25)).getD i default
noncomputable def lawNm : List Str := ["script", "moves", "page", "due", "letter", "image", "way", "lexer", "words", "book", "first", "second", "across", "p", "q", "r", "s"]
theorem law4_form : ∃ p1 p2 p3 p4 p5 p6 p7 p8 pos, lawSt 4 = .Assign [.Name "lexer" p1] (.Call (.Name "_netrclex" p2) [.Call (.Name "_law_stream" p3) [.Call (.Name "str" p4) [.Name "page" p7] [] p8] [] p5] [] p6) pos ∧
  (∀ env, swapsWith (.Call (.Name "_netrclex" p2) [.Call (.Name "_law_stream" p3) [.Call (.Name "str" p4) [.Name "page" p7] [] p8] [] p5] [] p6) (some (.Name "lexer" p1)) pos.line env = pure false) := ⟨_, _, _, _, _, _, _, _, _, rfl, fun _ => rfl⟩
theorem law4_walk {K : KX} {Kf : W.Frag} {mg mb : Str → Option Value} (N : S3 K Kf mg mb) (N1 : S3 K.free Kf mg mb) (SF : StreamFacts K mg mb (stAt 13) 242 241) (hgs : mg "_law_stream" = some (.ref 242)) (h3 : mainGlobals = 3) (hb0 : builtinsNs = 0)
  (hrp : K.readFd.params = fArgs (stS 2)) (hrb : K.readFd.body = .stmts (fBody (stS 2))) (hrs : K.readFd.scope = fScope (stS 2))
  {fd : FuncData} {a L : Addr} {A : Around} (ok : OkA 8 A) {ρ : Rho} {hp : List O} {s : Shared} {E : Value → Shared → Prop} {o0 o1 o3 o4 o5 o6 : Option V} {it ih : Nat} {rows : List (List Nat × List Nat)}
  (T : Tb hp it ih (rowsS rows)) (hr : ∀ r ∈ rows, r.1.length ≤ 100 ∧ r.2.length ≤ 100) (hz : rows.length ≤ 100) (ol : okl (pageL rows))
  (F : FRel K (callEnvC (fdOf (stAt 25) fd) L a) (lk lawNm) [o0, o1, some (.r it), o3, o4, o5, o6, none, none, none, none, none, none, none, none, none, none] ρ s.heap) (H : HRel K ρ hp s.heap) :
  wpAny (model K.prog K.w) A (exec (lawSt 4) (callEnvC (fdOf (stAt 25) fd) L a)) (fun fl s' => fl = .next ∧ ∃ hp' ρ' h' t', s' = { s with heap := h', toks := t' } ∧ hp'.length = hp.length + 2 ∧ (∀ k, k < hp.length → hp'[k]? = hp[k]?) ∧ Lx hp' (hp.length + 1) hp.length 1 (pageL rows) ∧
   FRel K.free (callEnvC (fdOf (stAt 25) fd) L a) (lk lawNm) [o0, o1, some (.r it), o3, o4, o5, o6, some (.r (hp.length + 1)), none, none, none, none, none, none, none, none, none] ρ' h' ∧ HRel K.free ρ' hp' h' ∧ StepS K (callEnvC (fdOf (stAt 25) fd) L a) ρ s.heap ρ' h') E s := by
 obtain ⟨p1, p2, p3, p4, p5, p6, p7, p8, pos, f2, sw⟩ := law4_form
 rw [f2]
 generalize hE : callEnvC (fdOf (stAt 25) fd) L a = env at *
 have k1 : env.kindOf "_netrclex" = some .globalImplicit := by rw [← hE]; rfl
 have k2 : env.kindOf "_law_stream" = some .globalImplicit := by rw [← hE]; rfl
 have k3 : env.kindOf "page" = some .local := by rw [← hE]; rfl
 have k4 : env.kindOf "lexer" = some .cell := by rw [← hE]; rfl
 have k5 : env.kindOf "str" = some .globalImplicit := by rw [← hE]; rfl
 refine wpAny_Assign_Name ?_ (sw env)
 refine wpAny_Call_Name_kw (Calls.Name_function_global F.kd k1 (Calls.loadGlobal_global (mg := mg) ?_ N.g__netrclex ?_) rfl)
 ·rw [F.gl]; exact H.nsOf N.G.g N.G.g'
 refine W.callWith_K N.X.inn (cls_k N.c__netrclex) ?_ (se_cons rfl) rfl
 refine spliced_more ?_ (se_cons rfl)
 refine wpAny_Call_Name_kw (Calls.Name_function_global F.kd k2 (Calls.loadGlobal_global (mg := mg) ?_ hgs ?_) rfl)
 ·rw [F.gl]; exact H.nsOf N.G.g N.G.g'
 obtain ⟨fds, Xs, _⟩ := SF.fn
 obtain ⟨os, hos, hds⟩ := Xs.ob
 refine callWith_function_kw (o := os) (fd := fdOf (stAt 13) fds) ?_
 have lp : SoundL K 8 env (lk lawNm) [.Name "page" p7] (lCons (xVar 2) lNil) := l_c (e_var (.inl k3) rfl rfl rfl) l_nil rfl
 have la : SoundL K 8 env (lk lawNm) [.Call (.Name "str" p4) [.Name "page" p7] [] p8] (lCons (xCall (fStrO 233 F_Headers___str__) (lCons (xVar 2) lNil)) lNil) :=
  l_c (e_tcall N.G (SoundV.le (f_strO N.X (S_Headers___str__ N) (met_f N.m_Headers___str__) (met_t N.m_Headers___str__)) (by omega)) lp k5 N.str0 N.str1 rfl rfl) l_nil rfl
 have base := la A ok p5 [o0, o1, some (.r it), o3, o4, o5, o6, none, none, none, none, none, none, none, none, none, none] (fun vs h => vs = [.d (.str (mkS (pageL rows)))] ∧ h = hp) hp ρ s E (by
  simp only [xCall, lCons, lNil, xVar, List.getElem?_cons_zero, List.getElem?_cons_succ]
  obtain ⟨fs, e1, _⟩ := T.ob
  refine ⟨atI_go e1 trivial, ?_⟩
  exact c_strH T hr hz ⟨rfl, rfl⟩) F H
 rw [show backTo p5 (starEach [.Call (.Name "str" p4) [.Name "page" p7] [] p8] env) = [(false, (backTo p5 (starEach [.Call (.Name "str" p4) [.Name "page" p7] [] p8] env)).head!.2)] from rfl] at *
 refine Calls.evalArgs_plain (wpAny_mono base ?_ (fun _ _ x => x))
 rintro rvs s1 ⟨vl, hp1, ρ1, h1, t1, rfl, ⟨rfl, rfl⟩, H1, S1, R1⟩
 refine ⟨⟨H1.keep _ _ hos Xs.tb, hds⟩, ?_⟩
 cases R1 with
 | cons ra rb =>
  cases rb
  cases ra with
  | str _ tt =>
   have F1 := F.step H S1
   refine wpAny_call ?_
   refine codeAny_mono (stream_call SF h3 hb0 hrp hrb hrs (E := E) (ok.le (by decide)) (s := { s with heap := h1, toks := t1 }) (l := pageL rows) (t := tt) H1 ol.1) ?_
   intro r s2 h2
   cases r with
   | error e => exact h2
   | ok fl =>
    cases fl with
    | ret v =>
     obtain ⟨ρ3, h3', t3, rfl, H3, S3', V3⟩ := h2
     dsimp only
     have F3 := (F1.step H1 S3').free
     refine spliced_none ?_
     refine ⟨N1.X.now H3, ?_⟩
     refine wpAny_mono ((S__netrclex N1).call A (ok.le (by decide)) ρ3 (hp1 ++ [.stream (pageL rows)]) { s with heap := h3', toks := t3 } [.r hp1.length] [v] [] (fun v h => v = .r (hp1.length + 1) ∧ h.length = hp1.length + 2 ∧ (∀ k, k < hp1.length → h[k]? = hp1[k]?) ∧ Lx h (hp1.length + 1) hp1.length 1 (pageL rows)) E rfl ?_ H3 (.cons V3 .nil)) ?_ (fun _ _ x => x)
     ·refine c_lexer (is := hp1.length) (l := pageL rows) (by simp) ol ?_
      intro hp' e1 e2 L'
      simp only [List.length_append, List.length_singleton] at e1 e2 L' ⊢
      refine ⟨trivial, e1, fun k hk => ?_, L'⟩
      rw [e2 k (by omega), List.getElem?_append_left hk]
     rintro rv s4 ⟨v4, hp4, ρ4, h4, t4, rfl, ⟨rfl, e4, k4', L4⟩, H4, S4, V4⟩
     have F4 := F3.step H3 S4
     refine wpAny_mono (store_name (K := K.free) (k := 7) (s := { s with heap := h4, toks := t4 }) (.inr k4) rfl F4 H4 V4) ?_ (fun _ _ x => x)
     rintro _ s5 ⟨h5, t5, rfl, F5, H5, S5⟩
     exact ⟨rfl, hp4, ρ4, h5, t5, rfl, e4, k4', L4, F5, H5, (((S1.toS.trans S3'.toS).trans S4.unfree.toS).trans S5.unfree)⟩
    | _ => exact h2
end Mine
namespace Mine
open PySem
noncomputable def nls (l : List Nat) : Int := (l.map nl).sum
theorem nls_cons (c : Nat) (l : List Nat) : nls (c :: l) = nl c + nls l := by simp [nls]
theorem nls_app (a b : List Nat) : nls (a ++ b) = nls a + nls b := by simp [nls]
theorem tL_nls (e : Nat → Bool) : ∀ (l : List Nat) (b : Bool), (tL e b l).2.2 + nls (tL e b l).2.1 = nls l
 | [], b => by cases b <;> rfl
 | c :: l, true => by
  have := tL_nls e l false
  simp only [tL, nls_cons]; lia
 | c :: l, false => by
  unfold tL
  split
  ·simp only [nls_cons]
  ·split
   ·rename_i h
    have := tL_nls e l true
    rw [nls_cons, h]
    show _ = (0 : Int) + _
    lia
   ·have := tL_nls e l false
    simp only [nls_cons]; lia
theorem gTok_nls : ∀ l : List Nat, (gTok l).2.2 + nls (gTok l).2.1 = nls l
 | [] => rfl
 | c :: l => by
  unfold gTok
  split
  ·have := gTok_nls l
   simp only [nls_cons]; lia
  ·split
   ·rename_i h
    have := tL_nls (· == 34) l false
    rw [nls_cons, h]
    show _ = (0 : Int) + _
    lia
   ·exact tL_nls isWs (c :: l) false
theorem gTok_ws : ∀ (pre l : List Nat), (∀ c ∈ pre, isWs c = true) → (gTok (pre ++ l)).1 = (gTok l).1 ∧ (gTok (pre ++ l)).2.1 = (gTok l).2.1
 | [], l, _ => ⟨rfl, rfl⟩
 | c :: pre, l, h => by
  obtain ⟨a, b⟩ := gTok_ws pre l (fun d hd => h d (List.mem_cons_of_mem _ hd))
  simp only [List.cons_append, gTok, h c List.mem_cons_self, if_true]
  exact ⟨a, b⟩
theorem tS_word {e : Nat → Bool} {s : Nat} (he : e s = true) (rest : List Nat) : ∀ {w : List Nat}, (∀ c ∈ w, e c = false ∧ c ≠ 92) → (tL e false (w ++ s :: rest)).1 = w ∧ (tL e false (w ++ s :: rest)).2.1 = rest
 | [], _ => by simp [tL, he]
 | c :: w, h => by
  obtain ⟨a, b⟩ := tS_word he rest (w := w) (fun d hd => h d (List.mem_cons_of_mem _ hd))
  obtain ⟨h1, h2⟩ := h c List.mem_cons_self
  simp only [List.cons_append, tL, h1, if_neg h2, Bool.false_eq_true, if_false]
  exact ⟨by rw [a], b⟩
theorem tB_word {s : Nat} (hs : isWs s = true) (rest : List Nat) : ∀ nm : List Nat, (tL isWs false ((nm.map fun c => [92, c]).flatten ++ s :: rest)).1 = nm ∧ (tL isWs false ((nm.map fun c => [92, c]).flatten ++ s :: rest)).2.1 = rest
 | [] => by simp [tL, hs]
 | c :: nm => by
  obtain ⟨a, b⟩ := tB_word hs rest nm
  simp only [List.map_cons, List.flatten_cons, List.append_assoc, List.cons_append, List.nil_append]
  exact ⟨by show c :: _ = _; rw [a], b⟩
noncomputable def rdR : Nat → List Nat → List Nat
 | 0, l => l
 | k + 1, l => (gTok (rdR k l)).2.1
noncomputable def rdW (k : Nat) (l : List Nat) : List (List Nat) := (List.range k).map fun j => (gTok (rdR j l)).1
theorem rdR_succ : ∀ (k : Nat) (l : List Nat), rdR (k + 1) l = rdR k (gTok l).2.1
 | 0, l => rfl
 | k + 1, l => by
  show (gTok (rdR (k + 1) l)).2.1 = (gTok (rdR k _)).2.1
  rw [rdR_succ k l]
theorem rdW_succ (k : Nat) (l : List Nat) : rdW (k + 1) l = (gTok l).1 :: rdW k (gTok l).2.1 := by
 unfold rdW
 rw [List.range_succ_eq_map, List.map_cons, List.map_map]
 congr 1
 apply List.map_congr_left
 intro j _
 show (gTok (rdR (j + 1) l)).1 = _
 rw [rdR_succ]
noncomputable def pg (xs : List Int) : List Nat := pageL (xs.map rowP)
theorem pg_nil : pg [] = [13, 10] := rfl
theorem pg_cons (x : Int) (xs : List Int) : pg (x :: xs) = [letX x, 58] ++ 32 :: (wr (imX x) (wayX x) ++ 13 :: 10 :: pg xs) := by
 unfold pg pageL rowP
 simp
theorem gTok_w {c : Nat} {l : List Nat} (h1 : isWs c = false) (h2 : c ≠ 34) : gTok (c :: l) = tL isWs false (c :: l) := by
 show (if isWs c then _ else if c = 34 then _ else _) = _
 rw [if_neg (by rw [h1]; decide), if_neg h2]
theorem read_name {c : Nat} (hc : isL c = true) (rest : List Nat) : (gTok ([c, 58] ++ 32 :: rest)).1 = [c, 58] ∧ (gTok ([c, 58] ++ 32 :: rest)).2.1 = rest := by
 have n : isWs c = false ∧ c ≠ 34 ∧ c ≠ 92 := by rcases L4 hc with rfl | rfl | rfl | rfl <;> decide
 have e : gTok ([c, 58] ++ 32 :: rest) = tL isWs false ([c, 58] ++ 32 :: rest) := gTok_w n.1 n.2.1
 rw [e]
 refine tS_word rfl rest ?_
 intro d hd
 simp only [List.mem_cons, List.not_mem_nil, or_false] at hd
 rcases hd with rfl | rfl
 ·exact ⟨n.1, n.2.2⟩
 ·decide
theorem read_im {im : List Nat} {way : Int} (h : wd im) (h1 : 1 ≤ im.length) (rest : List Nat) : (gTok (wr im way ++ 13 :: rest)).1 = im ∧ ∃ pre, (∀ c ∈ pre, isWs c = true) ∧ (gTok (wr im way ++ 13 :: rest)).2.1 = pre ++ rest := by
 have n : ∀ c ∈ im, isWs c = false ∧ c ≠ 34 ∧ c ≠ 92 := fun c hc => by rcases L4 (h c hc) with rfl | rfl | rfl | rfl <;> decide
 match im, h1, n with
 | c :: im, _, n =>
  obtain ⟨n1, n2, n3⟩ := n c List.mem_cons_self
  unfold wr
  split
  ·have e : gTok (c :: im ++ 13 :: rest) = tL isWs false (c :: im ++ 13 :: rest) := gTok_w n1 n2
   rw [e]
   obtain ⟨a, b⟩ := tS_word (e := isWs) (s := 13) rfl rest (w := c :: im) (fun d hd => ⟨(n d hd).1, (n d hd).2.2⟩)
   exact ⟨a, [], (fun _ h => nomatch h), b⟩
  ·split
   ·have e : gTok (34 :: c :: im ++ [34] ++ 13 :: rest) = tL (· == 34) false ((c :: im) ++ 34 :: (13 :: rest)) := by
     rw [List.append_assoc]; rfl
    rw [e]
    obtain ⟨a, b⟩ := tS_word (e := (· == 34)) (s := 34) rfl (13 :: rest) (w := c :: im) (fun d hd => ⟨beq_eq_false_iff_ne.mpr (n d hd).2.1, (n d hd).2.2⟩)
    exact ⟨a, [13], fun d hd => by rw [List.mem_singleton.mp hd]; rfl, b⟩
   ·have e : gTok (((c :: im).map fun c => [92, c]).flatten ++ 13 :: rest) = tL isWs false (((c :: im).map fun c => [92, c]).flatten ++ 13 :: rest) := gTok_w rfl (by decide)
    rw [e]
    obtain ⟨a, b⟩ := tB_word (s := 13) rfl rest (c :: im)
    exact ⟨a, [], (fun _ h => nomatch h), b⟩
theorem read_all : ∀ (xs : List Int) (pre : List Nat), (∀ c ∈ pre, isWs c = true) → (rdW (2 * xs.length + 1) (pre ++ pg xs)).map (fun w => PyData.str (mkS w)) = dueD xs ++ [.str (mkS [])] ∧ rdR (2 * xs.length + 1) (pre ++ pg xs) = []
 | [], pre, hp => by
  have hw : ∀ c ∈ pre ++ pg [], isWs c = true := by
   intro c hc
   rcases List.mem_append.mp hc with h | h
   ·exact hp c h
   ·rw [pg_nil] at h
    simp only [List.mem_cons, List.not_mem_nil, or_false] at h
    rcases h with rfl | rfl <;> rfl
  obtain ⟨a, b⟩ := gTok_ws (pre ++ pg []) [] hw
  rw [List.append_nil] at a b
  show (rdW (0 + 1) _).map _ = _ ∧ rdR (0 + 1) _ = []
  rw [rdW_succ, rdR_succ]
  rw [a, b]
  exact ⟨rfl, rfl⟩
 | x :: xs, pre, hp => by
  have e : 2 * (x :: xs).length + 1 = (2 * xs.length + 1) + 1 + 1 := by rw [List.length_cons]; lia
  obtain ⟨iw, _, il⟩ := imX_ok x
  obtain ⟨a, b⟩ := gTok_ws pre (pg (x :: xs)) hp
  rw [pg_cons] at a b ⊢
  obtain ⟨c, d⟩ := read_name (letX_L x) (wr (imX x) (wayX x) ++ 13 :: 10 :: pg xs)
  obtain ⟨f, pre', g, h⟩ := read_im (way := wayX x) iw il (10 :: pg xs)
  rw [e, rdW_succ, rdW_succ, rdR_succ, rdR_succ, a, b, c, d, f, h]
  have e2 : pre' ++ 10 :: pg xs = (pre' ++ [10]) ++ pg xs := by simp
  obtain ⟨k1, k2⟩ := read_all xs (pre' ++ [10]) (fun c hc => (List.mem_append.mp hc).elim (g c) (fun h => by rw [List.mem_singleton.mp h]; rfl))
  rw [e2, List.map_cons, List.map_cons, k1, k2]
  refine ⟨?_, rfl⟩
  unfold dueD
  simp
theorem pg_nls : ∀ xs : List Int, nls (pg xs) = xs.length + 1
 | [] => rfl
 | x :: xs => by
  have hw : nls (wr (imX x) (wayX x)) = 0 := by
   have : ∀ w : List Nat, (∀ c ∈ w, isL c = true ∨ c = 34 ∨ c = 92) → nls w = 0 := by
    intro w
    induction w with
    | nil => intro _; rfl
    | cons c w ih =>
     intro h
     rw [nls_cons, ih (fun d hd => h d (List.mem_cons_of_mem _ hd))]
     rcases h c List.mem_cons_self with h | rfl | rfl
     ·rcases L4 h with rfl | rfl | rfl | rfl <;> rfl
     ·rfl
     ·rfl
   exact this _ (wr_ok (imX_ok x).1)
  have hl : nl (letX x) = 0 := by rcases L4 (letX_L x) with h | h | h | h <;> rw [h] <;> rfl
  have e0 : nls ([] : List Nat) = 0 := rfl
  have e1 : nl 58 = 0 := rfl
  have e2 : nl 32 = 0 := rfl
  have e3 : nl 13 = 0 := rfl
  have e4 : nl 10 = 1 := rfl
  have ih := pg_nls xs
  rw [pg_cons]
  simp only [nls_app, nls_cons, hw, hl, e0, e1, e2, e3, e4, ih, List.length_cons]
  lia
theorem pg_ok : ∀ xs : List Int, (pg xs).length ≤ 20 * xs.length + 2 ∧ ∀ c ∈ pg xs, c < 128
 | [] => ⟨by decide, by decide⟩
 | x :: xs => by
  obtain ⟨a, b⟩ := pg_ok xs
  obtain ⟨iw, il, _⟩ := imX_ok x
  have wl := wr_len (way := wayX x) il
  rw [pg_cons]
  refine ⟨?_, ?_⟩
  ·simp only [List.length_append, List.length_cons, List.length_nil]; lia
  ·intro c hc
   simp only [List.mem_append, List.mem_cons, List.not_mem_nil, or_false] at hc
   rcases hc with (rfl | rfl) | rfl | h | rfl | rfl | h
   ·exact L_lt (letX_L x)
   ·decide
   ·decide
   ·rcases wr_ok iw c h with h | rfl | rfl
    ·exact L_lt h
    ·decide
    ·decide
   ·decide
   ·decide
   ·exact b c h
theorem comp_eff {β : Type} {elt : XE} {vs : List (Option V)} {Q : V → List O → Prop} {n : Nat} (f : β → PyData) (xs : List β) (R : List β → List O → List PyData → Prop)
  (hn : ∀ p h acc, R p h acc → h.length = n)
  (hb : ∀ pre x post h acc, xs = pre ++ x :: post → R pre h acc → ∀ K : V → List O → Prop, (∀ d h', R (pre ++ [x]) h' (acc ++ [d]) → K (.d d) (h' ++ [.lst acc])) → elt (some (.d (f x)) :: vs) K (h ++ [.lst acc]))
  (hz : ∀ p h acc, R p h acc → acc.length + 1 ≤ sizeLine)
  (hq : ∀ h acc, R xs h acc → Q (.d (.list acc)) h) :
  ∀ (post pre : List β) (h : List O) (acc : List PyData) (o : Option V), pre ++ post = xs → R pre h acc → compL none n (tName 0) iNil elt (compEnd false n Q) (post.map f) (o :: vs) (h ++ [.lst acc])
 | [], pre, h, acc, o, e, r => by
  have hl := hn _ _ _ r
  subst hl
  refine ⟨trivial, atL_last ?_⟩
  rw [List.append_nil] at e
  rw [e] at r
  exact end_false (hq _ _ r)
 | x :: post, pre, h, acc, o, e, r => by
  have hl := hn _ _ _ r
  refine ⟨trivial, hb pre x post h acc e.symm r _ ?_⟩
  intro d h' r'
  have hl' := hn _ _ _ r'
  have hz' := hz _ _ _ r
  have ih := comp_eff f xs R hn hb hz hq post (pre ++ [x]) h' (acc ++ [d]) (some (.d (f x))) (by rw [List.append_assoc]; exact e) r'
  subst hl'
  refine ⟨by rw [lget_last]; rfl, ?_⟩
  unfold mAppend
  dsimp only
  refine atL_last ⟨by lia, ?_⟩
  rw [set_last]
  exact ih
theorem Lx.app {hp : List O} {il is : Nat} {n : Int} {l : List Nat} (L : Lx hp il is n l) (t : List O) : Lx (hp ++ t) il is n l := by
 obtain ⟨ne, ⟨fs, e1, f⟩, st, ok⟩ := L
 exact ⟨ne, ⟨fs, get_left e1 _, f⟩, get_left st _, ok⟩
theorem Lx.lt {hp : List O} {il is : Nat} {n : Int} {l : List Nat} (L : Lx hp il is n l) : il < hp.length ∧ is < hp.length := by
 obtain ⟨ne, ⟨fs, e1, f⟩, st, ok⟩ := L
 exact ⟨(List.getElem?_eq_some_iff.mp e1).1, (List.getElem?_eq_some_iff.mp st).1⟩
theorem split_last {h h' : List O} {o : O} (hl : h'.length = h.length + 1) (hk : h'[h.length]? = some o) : h' = h'.take h.length ++ [o] := by
 have := List.getElem?_eq_some_iff.mp hk
 obtain ⟨a, b⟩ := this
 have e : h' = h'.take h.length ++ h'.drop h.length := (List.take_append_drop _ _).symm
 have e2 : h'.drop h.length = [o] := by
  rw [List.drop_eq_getElem_cons a, b, List.drop_eq_nil_of_le (by lia)]
 rw [e2] at e
 exact e
theorem c_words {il is N : Nat} {text : List Nat} {vs : List (Option V)} {Q : V → List O → Prop} {hp : List O} {it : XE} (L : Lx hp il is 1 text) (hv : vs[7]? = some (some (.r il))) (hN : N ≤ 1000)
  (hit : ∀ K : V → List O → Prop, K (.rng 0 (N : Int) 1) hp → it vs K hp)
  (q : ∀ hp', Kp [il, is] hp hp' → Lx hp' il is (1 + nls text - nls (rdR N text)) (rdR N text) → Q (.d (.list ((rdW N text).map fun w => .str (mkS w)))) hp') :
  xComp false 1 (tName 0) it iNil (xMeth 83 F__netrclex_get_token (xVar 8) lNil lNil) vs Q hp := by
 refine hit _ ?_
 refine ⟨small_a (by lia) (by decide) (by lia), ?_⟩
 rw [range_up]
 refine comp_eff (vs := vs) (fun k : Nat => PyData.int (k : Int)) (List.range N) (fun pre h acc => Kp [il, is] hp h ∧ Lx h il is (1 + nls text - nls (rdR pre.length text)) (rdR pre.length text) ∧ acc = (rdW pre.length text).map (fun w => .str (mkS w)) ∧ pre.length ≤ N) ?_ ?_ ?_ ?_ _ [] hp [] none rfl ?_
 ·rintro p h acc ⟨k, _⟩; exact k.1
 ·rintro pre x post h acc e ⟨k, Lh, rfl, _⟩ K hK
  have hpl : pre.length + 1 ≤ N := by
   have := congrArg List.length e
   rw [List.length_append, List.length_cons, List.length_range] at this
   lia
  have La := Lh.app [O.lst ((rdW pre.length text).map fun w => .str (mkS w))]
  obtain ⟨t1, t2⟩ := Lh.lt
  obtain ⟨fs, f0, _⟩ := La.ob
  simp only [xMeth, xVar, lNil, List.getElem?_cons_succ, hv, List.append_nil]
  refine ⟨atI_go f0 trivial, ?_⟩
  refine c_token La ?_
  intro hp' kp Lp
  have hl : hp'.length = h.length + 1 := by rw [kp.1]; simp
  have ho : hp'[h.length]? = some (O.lst ((rdW pre.length text).map fun w => .str (mkS w))) := by
   rw [kp.2 h.length (by simp; lia)]; exact get_last
  rw [split_last hl ho]
  have eg := gTok_nls (rdR pre.length text)
  refine hK _ _ ⟨⟨?_, ?_⟩, ?_, ?_, ?_⟩
  ·rw [List.length_take, hl, k.1.symm]; lia
  ·intro j hj
   rw [List.getElem?_take]
   split
   ·rename_i hjl
    rw [kp.2 j hj, List.getElem?_append_left hjl]; exact k.2 j hj
   ·rename_i hjl
    rw [List.getElem?_eq_none (by have := k.1; lia)]
  ·have e1 : (pre ++ [x]).length = pre.length + 1 := by simp
   rw [e1]
   have e2 : rdR (pre.length + 1) text = (gTok (rdR pre.length text)).2.1 := rfl
   rw [e2]
   obtain ⟨ne, ⟨fs, a1, a2⟩, st, ok⟩ := Lp
   refine ⟨ne, ⟨fs, by rw [List.getElem?_take, if_pos t1]; exact a1, ?_⟩, by rw [List.getElem?_take, if_pos t2]; exact st, ok⟩
   have e3 : 1 + nls text - nls (rdR pre.length text) + (gTok (rdR pre.length text)).2.2 = 1 + nls text - nls (gTok (rdR pre.length text)).2.1 := by lia
   rw [e3] at a2
   exact a2
  ·have e1 : (pre ++ [x]).length = pre.length + 1 := by simp
   rw [e1]
   unfold rdW
   rw [List.range_succ, List.map_append, List.map_append]; rfl
  ·have e1 : (pre ++ [x]).length = pre.length + 1 := by simp
   lia
 ·rintro p h acc ⟨_, _, rfl, hp2⟩
  unfold rdW
  rw [List.length_map, List.length_map, List.length_range, sizeLine_eq]; lia
 ·rintro h acc ⟨k, Lh, rfl, _⟩
  rw [List.length_range] at Lh
  rw [List.length_range]
  exact q _ k Lh
 ·refine ⟨Kp.refl _ _, ?_, rfl, Nat.zero_le _⟩
  have : 1 + nls text - nls (rdR ([] : List Nat).length text) = 1 := by show 1 + nls text - nls text = 1; lia
  rw [this]; exact L
theorem x_law5 {il is : Nat} {xs : List Int} {o0 o1 o2 o4 o5 o6 o8 : Option V} {vs : List (Option V)} {QQ : QS} {hp : List O} (L : Lx hp il is 1 (pg xs)) (hd : hp[2]? = some (.lst (dueD xs))) (hz : xs.length ≤ 7)
  (q : ∀ hp', Kp [il, is] hp hp' → Lx hp' il is (xs.length + 2) [] → QQ .next (o0 :: o1 :: o2 :: some (.r 2) :: o4 :: o5 :: o6 :: some (.r il) :: some (.d (.list (wordsD (xs.map mvP)))) :: vs) hp') :
  p_law5 (o0 :: o1 :: o2 :: some (.r 2) :: o4 :: o5 :: o6 :: some (.r il) :: o8 :: vs) QQ hp := by
 simp only [p_law5, sAssign]
 obtain ⟨r1, r2⟩ := read_all xs [] (fun _ h => nomatch h)
 rw [List.nil_append] at r1 r2
 refine c_words (N := 2 * xs.length + 1) L rfl (by lia) ?_ ?_
 ·intro K k
  simp only [xCall, fLen, xBin, xVar, cI, lCons, lNil, List.getElem?_cons_zero, List.getElem?_cons_succ]
  rw [lget_go hd]
  refine ⟨by rw [dueD_len]; lia, ?_⟩
  rw [dueD_len]
  exact k
 ·intro hp' k Lh
  rw [r2] at Lh
  rw [r1, ← wordsD_due]
  refine q _ k ?_
  have : 1 + nls (pg xs) - nls [] = (xs.length : Int) + 2 := by rw [pg_nls]; show 1 + ((xs.length : Int) + 1) - 0 = _; lia
  rw [this] at Lh
  exact Lh
noncomputable def fstW (xs : List Int) : List Nat := valOf (bookOf xs) 97
noncomputable def sndW (xs : List Int) : List Nat := valOf (bookOf xs) 66
noncomputable def acrW (xs : List Int) : List Nat := prod (fstW xs ++ sndW xs ++ back (fstW xs) ++ back (sndW xs))
noncomputable def detS (s : SS) : Int := s.1.1 * s.2.2 - s.1.2 * s.2.1
structure PlainOk (xs : List Int) : Prop where
 a : putin (xs.map mvP) [97] = fstW xs
 b : putin (xs.map mvP) [98] = sndW xs
 c : putin (xs.map mvP) [97, 98, 65, 66] = acrW xs
 n1 : (sumsOf xs).1.1.natAbs + (sumsOf xs).1.2.natAbs ≠ 0
 n2 : (sumsOf xs).2.1.natAbs + (sumsOf xs).2.2.natAbs ≠ 0
 z1 : (sumsOf xs).1.1.natAbs + (sumsOf xs).1.2.natAbs ≤ 10000
 z2 : (sumsOf xs).2.1.natAbs + (sumsOf xs).2.2.natAbs ≤ 10000
 r1 : ringB (fstW xs) (lineL (sumsOf xs).1.1 (sumsOf xs).1.2) = true
 r2 : ringB (sndW xs) (lineL (sumsOf xs).2.1 (sumsOf xs).2.2) = true
 k : (bookOf xs).map (·.1) = namesOf xs
 d : ringB (acrW xs) (if detS (sumsOf xs) = 1 then [97, 98, 65, 66] else [98, 97, 66, 65]) = true
noncomputable def sws (ws : List (List Nat)) : List PyData := ws.map fun w => .str (mkS w)
theorem eqv_strs : ∀ ws : List (List Nat), PyData.eqvAll (sws ws) (sws ws) = true
 | [] => rfl
 | w :: ws => by
  have := eqv_strs ws
  show (PyData.eqv (.str (mkS w)) (.str (mkS w)) && PyData.eqvAll (sws ws) (sws ws)) = true
  rw [this, Bool.and_true]
  show (mkS w == mkS w) = true
  exact beq_self_eq_true _
theorem okD_strs2 {ws : List (List Nat)} (h : ∀ w ∈ ws, ∀ c ∈ w, c < 128) : okD (.list (sws ws)) = true := by
 refine okD_strs ?_
 intro x hx
 obtain ⟨w, hw, rfl⟩ := List.mem_map.mp hx
 refine ⟨_, rfl, ?_⟩
 have := h w hw
 unfold PyData.strOk
 simp only [Array.all_eq_true', List.mem_toArray]
 intro c hc
 have := this c hc
 simp; lia
theorem wordsD_strs (xs : List Int) : wordsD (xs.map mvP) = sws ((xs.map fun x => [[letX x, 58], imX x]).flatten ++ [[]]) := by
 rw [wordsD_due]
 unfold dueD sws
 rw [List.map_append, List.map_flatten, List.map_map]; rfl
theorem words_ok (xs : List Int) : ∀ w ∈ (xs.map fun x => [[letX x, 58], imX x]).flatten ++ [[]], ∀ c ∈ w, c < 128 := by
 intro w hw c hc
 rcases List.mem_append.mp hw with h | h
 ·obtain ⟨l, hl, hw⟩ := List.mem_flatten.mp h
  obtain ⟨x, hx, rfl⟩ := List.mem_map.mp hl
  simp only [List.mem_cons, List.not_mem_nil, or_false] at hw
  rcases hw with rfl | rfl
  ·simp only [List.mem_cons, List.not_mem_nil, or_false] at hc
   rcases hc with rfl | rfl
   ·exact L_lt (letX_L x)
   ·decide
  ·exact L_lt ((imX_ok x).1 c hc)
 ·rw [List.mem_singleton.mp h] at hc
  cases hc
theorem x_law6 {il is : Nat} {xs : List Int} {o0 o2 o4 o5 o6 : Option V} {vs : List (Option V)} {QQ : QS} {hp : List O} (L : Lx hp il is (xs.length + 2) []) (hd : hp[2]? = some (.lst (dueD xs))) (hz : xs.length ≤ 7)
  (q : QQ .next (o0 :: some (.d (.list (xs.map mvD))) :: o2 :: some (.r 2) :: o4 :: o5 :: o6 :: some (.r il) :: some (.d (.list (wordsD (xs.map mvP)))) :: vs) hp) :
  p_law6 (o0 :: some (.d (.list (xs.map mvD))) :: o2 :: some (.r 2) :: o4 :: o5 :: o6 :: some (.r il) :: some (.d (.list (wordsD (xs.map mvP)))) :: vs) QQ hp := by
 simp only [p_law6, sIf, bOr, bCmp, xBin, xVar, xList, cS, lCons, lNil, datas, List.getElem?_cons_zero, List.getElem?_cons_succ]
 refine ⟨by simp [sizeLine_eq], ?_⟩
 refine ⟨dueD xs, [.str ""], lget_go hd, rfl, by rw [dueD_len, sizeLine_eq]; simp; lia, ?_⟩
 have e1 : dueD xs ++ [.str ""] = wordsD (xs.map mvP) := by rw [wordsD_due, lit_empty]
 rw [e1]
 have ok : okD (.list (wordsD (xs.map mvP))) = true := by rw [wordsD_strs]; exact okD_strs2 (words_ok xs)
 refine ⟨_, _, rfl, rfl, ok, ok, ?_⟩
 have e2 : PyData.eqv (.list (wordsD (xs.map mvP))) (.list (wordsD (xs.map mvP))) = true := by rw [wordsD_strs]; exact eqv_strs _
 rw [e2]
 simp only [truthV, Bool.not_true]
 obtain ⟨fs, f0, f1, _⟩ := L.ob
 simp only [xUn, xVar, xCall, fLen, cI, lCons, lNil, lget, List.getElem?_cons_zero, List.getElem?_cons_succ]
 refine getF_go f0 f1 ?_
 refine ⟨by rw [List.length_map]; lia, ?_⟩
 simp only [opAdd, opNe, truthV]
 have e3 : ((((xs.length : Int) + 2) != (((xs.map mvD).length : Int) + 2)) = false) := by rw [List.length_map]; exact bne_self_eq_false _
 rw [e3]
 exact q
theorem bk_ok {xs : List Int} (hz : xs.length ≤ 7) : BkOk (bookOf xs) 128 := by
 have := book_ok xs
 exact ⟨this.l, this.w, fun r hr => Nat.le_trans (this.z r hr) (Nat.le_trans (Nat.pow_le_pow_right (by decide) hz) (by decide)), this.k⟩
theorem get_go {it ih : Nat} {rows : Bk} {c : Nat} {Q : V → List O → Prop} {hp : List O} (B : BkOk rows 128) (T : Tb hp it ih (bkS rows)) (hc : isL c = true) (q : Q (.d (.str (mkS (valOf rows c)))) hp) :
  (atI (.r it) hp 233 fun _ _ => True) ∧ F_Headers_get [.r it, .d (.str (ch c))] Q hp := by
 obtain ⟨fs, e1, f⟩ := T.ob
 refine ⟨atI_go e1 trivial, ?_⟩
 refine c_get T (by rw [lower_ch hc]; exact okS_ch (lw_L hc)) ?_ (by rw [getD_bk B hc]; exact q)
 intro r hr
 obtain ⟨s, hs, rfl⟩ := List.mem_map.mp hr
 rw [lower_ch (B.l s hs)]
 exact okS_le (okS_ch (lw_L (B.l s hs)))
theorem x_law7 {xs : List Int} {o0 o2 o3 o4 o5 o6 o7 o8 o9 : Option V} {vs : List (Option V)} {QQ : QS} {hp : List O} (hz : xs.length ≤ 7)
  (q : ∀ it ih hp', Tb hp' it ih (bkS (bookOf xs)) → QQ .next (o0 :: some (.d (.list (xs.map mvD))) :: o2 :: o3 :: o4 :: o5 :: o6 :: o7 :: o8 :: some (.r it) :: vs) hp') :
  p_law7 (o0 :: some (.d (.list (xs.map mvD))) :: o2 :: o3 :: o4 :: o5 :: o6 :: o7 :: o8 :: o9 :: vs) QQ hp := by
 simp only [p_law7, sAssign, xCall, xVar, lCons, lNil, List.getElem?_cons_zero, List.getElem?_cons_succ]
 exact c_book (by lia) (fun it ih hp' _ _ _ T => q it ih hp' T)
noncomputable def putF (xs : List Int) : PyData → PyData
 | .str ⟨a⟩ => .str (mkS (putin (xs.map mvP) a.toList))
 | d => d
theorem lit3 : (["a", "b", "abAB"] : List Str).map PyData.str = sws [[97], [98], [97, 98, 65, 66]] := by
 have : (["a", "b", "abAB"] : List Str) = [mkS [97], mkS [98], mkS [97, 98, 65, 66]] := by decide +kernel
 rw [this]; rfl
theorem keys_eq {xs : List Int} (P : (bookOf xs).map (·.1) = namesOf xs) : ((bkS (bookOf xs)).map fun r : Str × Str => PyData.str r.1) = chs (namesOf xs) := by
 rw [← P]
 unfold bkS chs
 rw [List.map_map, List.map_map]; rfl
theorem names_L (xs : List Int) : ∀ c ∈ namesOf xs, isL c = true := by
 have : ∀ (xs : List Int) (ns : List Nat), (∀ c ∈ ns, isL c = true) → ∀ c ∈ xs.foldl nmStep ns, isL c = true := by
  intro xs
  induction xs with
  | nil => intro ns h; exact h
  | cons x xs ih =>
   intro ns h
   refine ih _ ?_
   intro c hc
   rcases List.mem_append.mp hc with h1 | h1
   ·exact h c (List.mem_filter.mp h1).1
   ·rw [List.mem_singleton.mp h1]; exact letX_L x
 refine this xs _ ?_
 intro c hc
 simp only [List.mem_cons, List.not_mem_nil, or_false] at hc
 rcases hc with rfl | rfl <;> rfl
theorem chs_sws (w : List Nat) : chs w = sws (w.map fun c => [c]) := by unfold chs sws; rw [List.map_map]; rfl
theorem mvP_ok (xs : List Int) : ∀ m ∈ xs.map mvP, Mv m := by
 intro m hm
 obtain ⟨x, _, rfl⟩ := List.mem_map.mp hm
 exact ⟨letX_L x, (imX_ok x).1, (imX_ok x).2.1⟩
theorem wd_lt {w : List Nat} (h : wd w) : ∀ c ∈ w, c < 128 := fun c hc => L_lt (h c hc)
theorem x_law8 {xs : List Int} {it ih : Nat} {o0 o1 o2 o3 o4 o5 o6 o7 o8 o10 : Option V} {vs : List (Option V)} {QQ : QS} {hp : List O} (hz : xs.length ≤ 7) (T : Tb hp it ih (bkS (bookOf xs)))
  (q : QQ .next (o0 :: o1 :: o2 :: o3 :: o4 :: o5 :: o6 :: o7 :: o8 :: some (.r it) :: some (.d (.str (mkS (fstW xs)))) :: vs) hp) :
  p_law8 (o0 :: o1 :: o2 :: o3 :: o4 :: o5 :: o6 :: o7 :: o8 :: some (.r it) :: o10 :: vs) QQ hp := by
 dsimp only [p_law8, sAssign, xMeth, xVar, cS, lCons, lNil, List.getElem?_cons_zero, List.getElem?_cons_succ, List.set_cons_zero, List.set_cons_succ, List.append_nil]
 rw [lit_a]
 exact get_go (bk_ok hz) T rfl q
theorem x_law9 {xs : List Int} {it ih : Nat} {o0 o1 o2 o3 o4 o5 o6 o7 o8 o10 o11 : Option V} {vs : List (Option V)} {QQ : QS} {hp : List O} (hz : xs.length ≤ 7) (T : Tb hp it ih (bkS (bookOf xs)))
  (q : QQ .next (o0 :: o1 :: o2 :: o3 :: o4 :: o5 :: o6 :: o7 :: o8 :: some (.r it) :: o10 :: some (.d (.str (mkS (sndW xs)))) :: vs) hp) :
  p_law9 (o0 :: o1 :: o2 :: o3 :: o4 :: o5 :: o6 :: o7 :: o8 :: some (.r it) :: o10 :: o11 :: vs) QQ hp := by
 dsimp only [p_law9, sAssign, xMeth, xVar, cS, lCons, lNil, List.getElem?_cons_zero, List.getElem?_cons_succ, List.set_cons_zero, List.set_cons_succ, List.append_nil]
 rw [lit_B]
 exact get_go (bk_ok hz) T rfl q
theorem x_law10 {f g : List Nat} {o0 o1 o2 o3 o4 o5 o6 o7 o8 o9 o12 : Option V} {vs : List (Option V)} {QQ : QS} {hp : List O} (fw : wd f) (sw : wd g) (hf : f.length ≤ 128) (hg : g.length ≤ 128)
  (q : QQ .next (o0 :: o1 :: o2 :: o3 :: o4 :: o5 :: o6 :: o7 :: o8 :: o9 :: some (.d (.str (mkS f))) :: some (.d (.str (mkS g))) :: some (.d (.str (mkS (prod (f ++ g ++ back f ++ back g))))) :: vs) hp) :
  p_law10 (o0 :: o1 :: o2 :: o3 :: o4 :: o5 :: o6 :: o7 :: o8 :: o9 :: some (.d (.str (mkS f))) :: some (.d (.str (mkS g))) :: o12 :: vs) QQ hp := by
 have bfl := back_len f
 have bsl := back_len g
 simp only [p_law10, sAssign, xCall, xList, xVar, lCons, lNil, List.getElem?_cons_zero, List.getElem?_cons_succ, List.set_cons_zero, List.set_cons_succ]
 refine c_back fw (by lia) ?_
 simp only [xVar, lCons, lNil, List.getElem?_cons_zero, List.getElem?_cons_succ]
 refine c_back sw (by lia) ?_
 have ed : datas [.d (.str (mkS f)), .d (.str (mkS g)), .d (.str (mkS (back f))), .d (.str (mkS (back g)))] = some (([f, g, back f, back g]).map fun w => .str (mkS w)) := rfl
 simp only [ed]
 refine ⟨by simp [sizeLine_eq], ?_⟩
 have ef : [f, g, back f, back g].flatten = f ++ g ++ back f ++ back g := by simp
 refine c_product (ws := [f, g, back f, back g]) ?_ (by rw [ef]; simp only [List.length_append]; lia) ?_
 ·intro w hw
  simp only [List.mem_cons, List.not_mem_nil, or_false] at hw
  rcases hw with rfl | rfl | rfl | rfl
  ·exact fw
  ·exact sw
  ·exact wd_back fw
  ·exact wd_back sw
 rw [ef]
 exact q
theorem dat3 : datas ((["a", "b", "abAB"] : List Str).map fun x => V.d (.str x)) = some (sws [[97], [98], [97, 98, 65, 66]]) := by
 rw [← lit3]; rfl
theorem x_law11 {xs : List Int} {f g h : List Nat} {o0 o1 o2 o3 o4 o5 o6 o7 o9 : Option V} {vs : List (Option V)} {QQ : QS} {hp : List O} (hz : xs.length ≤ 7) (fw : wd f) (sw : wd g) (aw : wd h)
  (e1 : putin (xs.map mvP) [97] = f) (e2 : putin (xs.map mvP) [98] = g) (e3 : putin (xs.map mvP) [97, 98, 65, 66] = h)
  (q : QQ .next (o0 :: o1 :: o2 :: o3 :: o4 :: o5 :: o6 :: o7 :: some (.d (.list (wordsD (xs.map mvP)))) :: o9 :: some (.d (.str (mkS f))) :: some (.d (.str (mkS g))) :: some (.d (.str (mkS h))) :: vs) hp) :
  p_law11 (o0 :: o1 :: o2 :: o3 :: o4 :: o5 :: o6 :: o7 :: some (.d (.list (wordsD (xs.map mvP)))) :: o9 :: some (.d (.str (mkS f))) :: some (.d (.str (mkS g))) :: some (.d (.str (mkS h))) :: vs) QQ hp := by
 simp only [p_law11, sIf, bCmp]
 refine comp1 (m := false) (v := .d (.list (sws [[97], [98], [97, 98, 65, 66]]))) (xs := sws [[97], [98], [97, 98, 65, 66]]) (fun _ => true) (putF xs) ?_ rfl ?_ ?_ (by show 3 ≤ _; rw [sizeLine_eq]; decide) ?_
 ·intro K k
  simp only [xList, lStrs]
  rw [dat3]
  exact ⟨by show 3 ≤ _; rw [sizeLine_eq]; decide, k⟩
 ·intro d hd l K k; exact k
 ·intro d hd _ l K k
  obtain ⟨w, hw, rfl⟩ := List.mem_map.mp hd
  have wo : wd w ∧ w.length ≤ 100 := by
   simp only [List.mem_cons, List.not_mem_nil, or_false] at hw
   rcases hw with rfl | rfl | rfl
   ·exact ⟨wd_cons.mpr ⟨rfl, wd_nil⟩, by decide⟩
   ·exact ⟨wd_cons.mpr ⟨rfl, wd_nil⟩, by decide⟩
   ·exact ⟨wd_cons.mpr ⟨rfl, wd_cons.mpr ⟨rfl, wd_cons.mpr ⟨rfl, wd_cons.mpr ⟨rfl, wd_nil⟩⟩⟩⟩, by decide⟩
  simp only [xCall, xVar, lCons, lNil, List.getElem?_cons_zero, List.getElem?_cons_succ]
  refine c_put_in (mvs := xs.map mvP) (mvP_ok xs) wo.1 (by rw [List.length_map]; lia) wo.2 ?_
  exact k
 ·have e4 : (((sws [[97], [98], [97, 98, 65, 66]]).filter fun _ => true).map (putF xs)) = sws [f, g, h] := by
   show [PyData.str (mkS (putin (xs.map mvP) [97])), .str (mkS (putin (xs.map mvP) [98])), .str (mkS (putin (xs.map mvP) [97, 98, 65, 66]))] = _
   rw [e1, e2, e3]; rfl
  rw [e4]
  have okw : okD (.list (sws [f, g, h])) = true := by
   refine okD_strs2 ?_
   intro w hw
   simp only [List.mem_cons, List.not_mem_nil, or_false] at hw
   rcases hw with rfl | rfl | rfl
   ·exact wd_lt fw
   ·exact wd_lt sw
   ·exact wd_lt aw
  simp only [xList, xVar, lCons, lNil, List.getElem?_cons_zero, List.getElem?_cons_succ]
  have e5 : datas [.d (.str (mkS f)), .d (.str (mkS g)), .d (.str (mkS h))] = some (sws [f, g, h]) := rfl
  simp only [e5]
  refine ⟨by show 3 ≤ _; rw [sizeLine_eq]; decide, ?_⟩
  refine ⟨_, _, rfl, rfl, okw, okw, ?_⟩
  have e6 : PyData.eqv (.list (sws [f, g, h])) (.list (sws [f, g, h])) = true := eqv_strs _
  rw [e6]
  exact q
theorem x_law12 {xs : List Int} {o0 o2 o3 o4 o5 o6 o7 o8 o9 o10 o11 o12 o13 o14 o15 o16 : Option V} {QQ : QS} {hp : List O}
  (q : QQ .next [o0, some (.d (.list (xs.map mvD))), o2, o3, o4, o5, o6, o7, o8, o9, o10, o11, o12, some (.d (.int (sumsOf xs).1.1)), some (.d (.int (sumsOf xs).1.2)), some (.d (.int (sumsOf xs).2.1)), some (.d (.int (sumsOf xs).2.2))] hp) :
  p_law12 [o0, some (.d (.list (xs.map mvD))), o2, o3, o4, o5, o6, o7, o8, o9, o10, o11, o12, o13, o14, o15, o16] QQ hp := by
 simp only [p_law12, sAssignT, xCall, xVar, lCons, lNil, List.getElem?_cons_zero, List.getElem?_cons_succ]
 refine c_sums ?_
 generalize sumsOf xs = s at *
 exact ⟨rfl, ⟨rfl, ⟨rfl, q⟩⟩⟩
theorem lineL_len (p q : Int) : (lineL p q).length = p.natAbs + q.natAbs := by unfold lineL; rw [List.length_map, List.length_range]
theorem x_law13 {f g : List Nat} {p q r s : Int} {o0 o1 o2 o3 o4 o5 o6 o7 o8 o9 o12 : Option V} {QQ : QS} {hp : List O} (fw : wd f) (sw : wd g) (hf : f.length ≤ 128) (hg : g.length ≤ 128)
  (n1 : p.natAbs + q.natAbs ≠ 0) (n2 : r.natAbs + s.natAbs ≠ 0) (z1 : p.natAbs + q.natAbs ≤ 10000) (z2 : r.natAbs + s.natAbs ≤ 10000) (r1 : ringB f (lineL p q) = true) (r2 : ringB g (lineL r s) = true)
  (k : QQ .next [o0, o1, o2, o3, o4, o5, o6, o7, o8, o9, some (.d (.str (mkS f))), some (.d (.str (mkS g))), o12, some (.d (.int p)), some (.d (.int q)), some (.d (.int r)), some (.d (.int s))] hp) :
  p_law13 [o0, o1, o2, o3, o4, o5, o6, o7, o8, o9, some (.d (.str (mkS f))), some (.d (.str (mkS g))), o12, some (.d (.int p)), some (.d (.int q)), some (.d (.int r)), some (.d (.int s))] QQ hp := by
 dsimp only [p_law13, sIf, bOr, bNot, bVal, xCall, xVar, lCons, lNil, List.getElem?_cons_zero, List.getElem?_cons_succ]
 refine c_line n1 z1 ?_
 refine c_is_ring fw (by lia) (by rw [lineL_len]; exact z1) ?_
 rw [r1]
 dsimp only [truthV, Bool.not_true]
 refine c_line n2 z2 ?_
 refine c_is_ring sw (by lia) (by rw [lineL_len]; exact z2) ?_
 rw [r2]
 exact k
theorem x_law14 {xs : List Int} {it ih : Nat} {h : List Nat} {p q r s : Int} {o0 o2 o3 o4 o5 o6 o7 o8 o10 o11 : Option V} {QQ : QS} {hp : List O} (hz : xs.length ≤ 7) (T : Tb hp it ih (bkS (bookOf xs)))
  (aw : wd h) (al : h.length ≤ 512) (z1 : p.natAbs + q.natAbs ≤ 10000) (kk : (bookOf xs).map (·.1) = namesOf xs) (dd : ringB h (if p * s - q * r = 1 then [97, 98, 65, 66] else [98, 97, 66, 65]) = true)
  (k : ∀ vs hp, QQ (.ret (.d (.bool true))) vs hp) :
  p_law14 [o0, some (.d (.list (xs.map mvD))), o2, o3, o4, o5, o6, o7, o8, some (.r it), o10, o11, some (.d (.str (mkS h))), some (.d (.int p)), some (.d (.int q)), some (.d (.int r)), some (.d (.int s))] QQ hp := by
 dsimp only [p_law14, sRet, xAnd, xBin, xMeth, xCall, xVar, lCons, lNil, List.getElem?_cons_zero, List.getElem?_cons_succ, List.append_nil]
 obtain ⟨fs, e1, f⟩ := T.ob
 refine ⟨atI_go e1 trivial, ?_⟩
 refine c_keys T ?_
 dsimp only [xVar, List.getElem?_cons_zero, List.getElem?_cons_succ]
 refine c_names (by lia) ?_
 rw [keys_eq kk]
 have okn : okD (.list (chs (namesOf xs))) = true := by
  rw [chs_sws]
  refine okD_strs2 ?_
  intro w hw c hc
  obtain ⟨d, hd, rfl⟩ := List.mem_map.mp hw
  rw [List.mem_singleton.mp hc]
  exact L_lt (names_L xs d hd)
 refine ⟨_, _, rfl, rfl, okn, okn, ?_⟩
 have e7 : PyData.eqv (.list (chs (namesOf xs))) (.list (chs (namesOf xs))) = true := by rw [chs_sws]; exact eqv_strs _
 rw [e7]
 dsimp only [truthV, xIte, bCmp, xBin, xVar, cI, cS, opMul, opSub, opEq, xCall, lCons, lNil, List.getElem?_cons_zero, List.getElem?_cons_succ]
 have b1 : p.natAbs < 2 ^ 64 := Nat.lt_of_le_of_lt (Nat.le_trans (Nat.le_add_right _ _) z1) (by decide)
 have b2 : q.natAbs < 2 ^ 64 := Nat.lt_of_le_of_lt (Nat.le_trans (Nat.le_add_left _ _) z1) (by decide)
 refine ⟨b1, b2, ?_⟩
 have l1 : ("abAB" : Str) = mkS [97, 98, 65, 66] := by decide +kernel
 have l2 : ("baBA" : Str) = mkS [98, 97, 66, 65] := by decide +kernel
 by_cases hdet : p * s - q * r = 1
 ·rw [if_pos hdet] at dd
  rw [hdet, beq_self_eq_true]
  dsimp only []
  rw [l1]
  refine c_is_ring aw (by lia) (by decide) ?_
  rw [dd]
  exact k _ _
 ·rw [if_neg hdet] at dd
  rw [beq_eq_false_iff_ne.mpr hdet]
  dsimp only []
  rw [l2]
  refine c_is_ring aw (by lia) (by decide) ?_
  rw [dd]
  exact k _ _
end Mine
namespace Mine
open PySem PySem.Spec PySem.Calls PyProof.Rows
noncomputable def p_tail : XS := sCons p_law5 (sCons p_law6 (sCons p_law7 (sCons p_law8 (sCons p_law9 (sCons p_law10 (sCons p_law11 (sCons p_law12 (sCons p_law13 (sCons p_law14 sNil)))))))))
theorem x_tail {xs : List Int} {il is : Nat} {o0 o2 o4 o5 o6 : Option V} {QQ : QS} {hp : List O} (W0 : PlainOk xs) (hz : xs.length ≤ 7) (L : Lx hp il is 1 (pg xs)) (hd : hp[2]? = some (.lst (dueD xs))) (h2 : il ≠ 2 ∧ is ≠ 2)
  (k : ∀ vs hp, QQ (.ret (.d (.bool true))) vs hp) :
  p_tail [o0, some (.d (.list (xs.map mvD))), o2, some (.r 2), o4, o5, o6, some (.r il), none, none, none, none, none, none, none, none, none] QQ hp := by
 have B := bk_ok hz
 obtain ⟨fw, fl⟩ := valOf_ok B (c := 97) rfl
 obtain ⟨sw, sl⟩ := valOf_ok B (c := 66) rfl
 have pw : wd (fstW xs ++ sndW xs ++ back (fstW xs) ++ back (sndW xs)) := wd_app.mpr ⟨wd_app.mpr ⟨wd_app.mpr ⟨fw, sw⟩, wd_back fw⟩, wd_back sw⟩
 have pll : (fstW xs ++ sndW xs ++ back (fstW xs) ++ back (sndW xs)).length ≤ 512 := by
  have a : (fstW xs).length ≤ 128 := fl
  have b : (sndW xs).length ≤ 128 := sl
  have c := back_len (fstW xs)
  have d := back_len (sndW xs)
  simp only [List.length_append]
  lia
 have aw : wd (acrW xs) := prod_wd pw
 have al : (acrW xs).length ≤ 512 := Nat.le_trans (prod_len _) pll
 unfold p_tail
 unfold sCons
 refine x_law5 L hd hz ?_
 intro hp1 k1 L1
 have hd1 : hp1[2]? = some (.lst (dueD xs)) := by
  rw [k1.2 2 (by simp only [List.mem_cons, List.not_mem_nil, or_false]; lia)]; exact hd
 dsimp only
 refine x_law6 L1 hd1 hz ?_
 dsimp only
 refine x_law7 hz ?_
 intro it ih hp2 T
 dsimp only
 refine x_law8 hz T ?_
 dsimp only
 refine x_law9 hz T ?_
 dsimp only
 refine x_law10 fw sw fl sl ?_
 dsimp only
 refine x_law11 hz fw sw aw W0.a W0.b W0.c ?_
 dsimp only
 refine x_law12 ?_
 dsimp only
 refine x_law13 fw sw fl sl W0.n1 W0.n2 W0.z1 W0.z2 W0.r1 W0.r2 ?_
 dsimp only
 refine x_law14 hz T aw al W0.z1 W0.k W0.d ?_
 intro vs hp
 exact k _ _
theorem law_body : fBody (stAt 25) = [lawSt 0, lawSt 1, lawSt 2, lawSt 3, lawSt 4, lawSt 5, lawSt 6, lawSt 7, lawSt 8, lawSt 9, lawSt 10, lawSt 11, lawSt 12, lawSt 13, lawSt 14] := rfl
inductive PostLaw (K : KX) (ρ : Rho) (s : Shared) (rv : Value) (s' : Shared) : Prop
 | mk (hp' : List O) (ρ' : Rho) (h' : Heap) (t' : Nat) (e : s' = { s with heap := h', toks := t' }) (ev : rv = .bool true) (H : HRel K.free ρ' hp' h') (S : Step K ρ s.heap ρ' h')
theorem law_call {K : KX} {Kf : W.Frag} {mg mb : Str → Option Value} (N : S3 K Kf mg mb) (N1 : S3 K.free Kf mg mb) (SF : StreamFacts K mg mb (stAt 13) 242 241) (hgs : mg "_law_stream" = some (.ref 242)) (h3 : mainGlobals = 3) (hb0 : builtinsNs = 0)
  (hrp : K.readFd.params = fArgs (stS 2)) (hrb : K.readFd.body = .stmts (fBody (stS 2))) (hrs : K.readFd.scope = fScope (stS 2)) (X : FnOk K 316 (stAt 25))
  {A : Around} (ok : OkA 10 A) {s : Shared} {script : List Int} {rv : Value} {E : Value → Shared → Prop} (hz : script.length ≤ 2 ^ 20) (W0 : PlainOk (nums script)) (H : HRel K [] [] s.heap) (hv : VR [] s.heap (.d (.list (iI script))) rv) :
  codeAny (model K.prog K.w) A (.call (.ref 316) ⟨[rv], []⟩) (fun r s' => match r with | .ok (.ret v) => PostLaw K [] s v s' | .ok _ => False | .error e => E e s') s := by
 obtain ⟨fd, X, hd, hk⟩ := X
 have hN := nums_len script
 refine f_go (r := 9) (ps := ([("script" : Str)] : List Str)) (rest := (["moves", "page", "due", "letter", "image", "way", "lexer", "words", "book", "first", "second", "across", "p", "q", "r", "s"] : List Str)) (n := 16) (vas := [.d (.list (iI script))]) (Post := PostLaw K [] s) N.G X ?_ (by decide) (kindsOk rfl) (noFree rfl) ok H (.cons hv .nil) rfl ?_
 ·intro ras h
  obtain ⟨n1, n2, n3, n4, n5, n6, n7, n8, n9, n10, n11, n12, n13, n14, n15⟩ := fd
  subst hd; subst hk
  match ras, h with
  | [a0], _ => rfl
 intro h₂ t₂ A' E' ok' F H₂ S₂ np
 rw [law_body]
 have nn : (nums script).map mvD = (nums script).map mvD := rfl
 refine wpAny_execs_cons (wpAny_mono (w_law0 N fd A' ok' _ (fun fl vs' hp' => fl = .next ∧ vs' = [some (.d (.list (iI script))), some (.d (.list ((nums script).map mvD))), none, none, none, none, none, none, none, none, none, none, none, none, none, none, none] ∧ hp' = []) [] [] _ E' (x_law0 hz ⟨rfl, rfl, rfl⟩) F H₂) ?_ (fun _ _ x => x))
 rintro fl s₃ ⟨af, vs', hp', ρ₃, g₃, t₃, rfl, ⟨rfl, rfl, rfl⟩, F₃, H₃, S₃, fr⟩
 cases fl <;> first | exact fr.elim | skip
 refine wpAny_execs_cons (wpAny_mono (w_law1 N fd A' ok' _ (fun fl vs' hp' => fl = .next ∧ vs' = [some (.d (.list (iI script))), some (.d (.list ((nums script).map mvD))), some (.r 1), none, none, none, none, none, none, none, none, none, none, none, none, none, none] ∧ hp' = [.lst [], .inst 233 [(0, .r 0)]]) [] ρ₃ _ E' (x_law1 ⟨rfl, rfl, rfl⟩) F₃ H₃) ?_ (fun _ _ x => x))
 rintro fl s₄ ⟨af, vs', hp', ρ₄, g₄, t₄, rfl, ⟨rfl, rfl, rfl⟩, F₄, H₄, S₄, fr⟩
 cases fl <;> first | exact fr.elim | skip
 refine wpAny_execs_cons (wpAny_mono (w_law2 N fd A' ok' _ (fun fl vs' hp' => fl = .next ∧ vs' = [some (.d (.list (iI script))), some (.d (.list ((nums script).map mvD))), some (.r 1), some (.r 2), none, none, none, none, none, none, none, none, none, none, none, none, none] ∧ hp' = hpL []) [.lst [], .inst 233 [(0, .r 0)]] ρ₄ _ E' (x_law2 ⟨rfl, rfl, rfl⟩) F₄ H₄) ?_ (fun _ _ x => x))
 rintro fl s₅ ⟨af, vs', hp', ρ₅, g₅, t₅, rfl, ⟨rfl, rfl, rfl⟩, F₅, H₅, S₅, fr⟩
 cases fl <;> first | exact fr.elim | skip
 refine wpAny_execs_cons (wpAny_mono (w_law3 N fd A' ok' _ (fun fl vs' hp' => fl = .next ∧ (∃ o4 o5 o6, vs' = [some (.d (.list (iI script))), some (.d (.list ((nums script).map mvD))), some (.r 1), some (.r 2), o4, o5, o6, none, none, none, none, none, none, none, none, none, none]) ∧ hp' = hpL (nums script)) (hpL []) ρ₅ _ E' (x_law3 hN (fun o4 o5 o6 => ⟨rfl, ⟨o4, o5, o6, rfl⟩, rfl⟩)) F₅ H₅) ?_ (fun _ _ x => x))
 rintro fl s₆ ⟨af, vs', hp', ρ₆, g₆, t₆, rfl, ⟨rfl, ⟨o4, o5, o6, rfl⟩, rfl⟩, F₆, H₆, S₆, fr⟩
 cases fl <;> first | exact fr.elim | skip
 have T : Tb (hpL (nums script)) 1 0 (rowsS ((nums script).map rowP)) := ⟨by decide, ⟨_, rfl, rfl⟩, rfl, by unfold rowsS; rw [List.length_map, List.length_map]; lia⟩
 have ol : okl (pageL ((nums script).map rowP)) := by
  obtain ⟨a, b⟩ := pg_ok (nums script)
  exact ⟨by show (pg (nums script)).length ≤ _; lia, b⟩
 have hr : ∀ r ∈ (nums script).map rowP, r.1.length ≤ 100 ∧ r.2.length ≤ 100 := by
  intro r hr
  obtain ⟨x, _, rfl⟩ := List.mem_map.mp hr
  have := wr_len (way := wayX x) (imX_ok x).2.1
  exact ⟨by show 1 ≤ 100; decide, by show (wr (imX x) (wayX x)).length ≤ 100; lia⟩
 refine wpAny_execs_cons (wpAny_mono (law4_walk N N1 SF hgs h3 hb0 hrp hrb hrs (ok'.le (by decide)) T hr (by rw [List.length_map]; lia) ol F₆ H₆) ?_ (fun _ _ x => x))
 rintro fl s₇ ⟨rfl, hp7, ρ₇, g₇, t₇, rfl, l7, k7, L7, F₇, H₇, S₇⟩
 have tail := ss_cons (w_law5 N1 fd (a := 316) (L := s.heap.objs.size)) (ss_cons (w_law6 N1 fd) (ss_cons (w_law7 N1 fd) (ss_cons (w_law8 N1 fd) (ss_cons (w_law9 N1 fd) (ss_cons (w_law10 N1 fd) (ss_cons (w_law11 N1 fd) (ss_cons (w_law12 N1 fd) (ss_cons (w_law13 N1 fd) (ss_cons (w_law14 N1 fd) ss_nil)))))))))
 have hd7 : hp7[2]? = some (.lst (dueD (nums script))) := by rw [k7 2 (by show 2 < 3; decide)]; rfl
 have L7' : Lx hp7 4 3 1 (pg (nums script)) := L7
 refine wpAny_mono (tail A' ok' [some (.d (.list (iI script))), some (.d (.list ((nums script).map mvD))), some (.r 1), some (.r 2), o4, o5, o6, some (.r 4), none, none, none, none, none, none, none, none, none] (fun fl vs hp => fl = .ret (.d (.bool true))) hp7 ρ₇ { s with heap := g₇, toks := t₇ } E' (x_tail W0 hN L7' hd7 ⟨by decide, by decide⟩ (fun _ _ => rfl)) F₇ H₇) ?_ (fun _ _ x => x)
 rintro fl s₈ ⟨af, vs8, hp8, ρ₈, g₈, t₈, rfl, rfl, F₈, H₈, S₈, fr⟩
 cases fl <;> first | exact fr.elim | skip
 rename_i rv8
 have er : rv8 = .bool true := by cases fr; rfl
 refine ⟨rv8, rfl, hp8, ρ₈, g₈, t₈, rfl, er, H₈, ?_⟩
 have T := ((((S₃.trans S₄).trans S₅).trans S₆).trans S₇).trans S₈.unfree
 refine ⟨T.pre, ?_, ?_, ?_⟩
 ·intro q hq
  rcases T.new q hq with x | x
  ·exact .inl x
  ·exact .inr ⟨none_of_dom S₂.dom x.1, fun b hb => none_of_dom S₂.dom (x.2 b hb)⟩
 ·intro b o e hb hm
  exact T.keep b o (S₂.keep b o e hb hm) hb hm (np b o e)
 ·intro b o e
  obtain ⟨o', e'⟩ := S₂.dom b o e
  exact T.dom b o' e'
end Mine
namespace Mine
theorem sb_nil (φ : Nat → List Nat) : sb φ [] = [] := rfl
theorem sb_cons (φ : Nat → List Nat) (c : Nat) (w : List Nat) : sb φ (c :: w) = φ c ++ sb φ w := by simp [sb]
theorem sb_pt {φ ψ : Nat → List Nat} : ∀ {w : List Nat}, (∀ c ∈ w, wd (φ c) ∧ Eqv (φ c) (ψ c)) → Eqv (sb φ w) (sb ψ w)
 | [], _ => Eqv.refl _
 | c :: w, h => by
  rw [sb_cons, sb_cons]
  exact Eqv.app (h c List.mem_cons_self).1 (h c List.mem_cons_self).2 (sb_pt (fun d hd => h d (List.mem_cons_of_mem _ hd)))
theorem sb_sb (φ ψ : Nat → List Nat) : ∀ w : List Nat, sb φ (sb ψ w) = sb (fun c => sb φ (ψ c)) w
 | [] => rfl
 | c :: w => by rw [sb_cons, sb_app, sb_sb φ ψ w, sb_cons]
theorem eqv_bk {u v : List Nat} (hu : wd u) (hv : wd v) (h : Eqv u v) : Eqv (back u) (back v) := by
 have a : Eqv (back u ++ []) (back u ++ (v ++ back v)) := Eqv.app (wd_back hu) (Eqv.refl _) (eqv_back hv).symm
 have b : Eqv (back u ++ (v ++ back v)) (back u ++ (u ++ back v)) := Eqv.app (wd_back hu) (Eqv.refl _) (Eqv.app hv h.symm (Eqv.refl _))
 have c : Eqv ((back u ++ u) ++ back v) ([] ++ back v) := Eqv.app (wd_app.mpr ⟨wd_back hu, hu⟩) (eqv_back' hu) (Eqv.refl _)
 rw [List.append_nil] at a
 rw [List.append_assoc] at c
 exact (a.trans b).trans c
theorem lw_iv {c : Nat} (h : isL c = true) : lw (iv c) = lw c := by rcases L4 h with rfl | rfl | rfl | rfl <;> rfl
theorem isS_iv {c : Nat} (h : isL c = true) : isS (iv c) = !isS c := by rcases L4 h with rfl | rfl | rfl | rfl <;> rfl
theorem lw_two {c d : Nat} (hc : isL c = true) (hd : isL d = true) (h : lw c = lw d) : c = d ∨ c = iv d := by
 rcases L4 hc with rfl | rfl | rfl | rfl <;> rcases L4 hd with rfl | rfl | rfl | rfl <;> simp_all [lw, iv]
theorem val_lw (rows : Bk) {c d : Nat} (h : lw c = lw d) : valOf rows c = valOf rows d := by unfold valOf; rw [h]
theorem bw_hom {rows : Bk} {n : Nat} (B : BkOk rows n) : Hom (bw rows) := by
 constructor
 ·intro c hc; exact (bw_ok B hc).1
 ·intro c hc
  have e := val_lw rows (lw_iv hc)
  unfold bw
  rw [isS_iv hc, e]
  cases isS c with
  | true => rfl
  | false => exact (back_back (valOf_ok B hc).1).symm
noncomputable def newX (rows : Bk) (x : Int) : List Nat := prod ((wordX x).map (bw rows)).flatten
theorem val_step (rows : Bk) (x : Int) (c : Nat) : valOf (bkStep rows x) c = if lw c = lw (letX x) then newX rows x else valOf rows c := by
 unfold valOf bkStep
 rw [List.find?_append]
 by_cases h : lw c = lw (letX x)
 ·rw [if_pos h]
  have : (rows.filter (fun r => lw r.1 != lw (letX x))).find? (fun r => lw r.1 == lw c) = none := by
   rw [List.find?_eq_none]
   intro r hr
   have := (List.mem_filter.mp hr).2
   rw [h]
   simpa using this
  rw [this]
  simp [h, newX]
 ·rw [if_neg h]
  have : (rows.filter (fun r => lw r.1 != lw (letX x))).find? (fun r => lw r.1 == lw c) = rows.find? (fun r => lw r.1 == lw c) := by
   induction rows with
   | nil => rfl
   | cons r rows ih =>
    rw [List.filter_cons]
    by_cases hr : lw r.1 = lw c
    ·have e1 : (lw r.1 != lw (letX x)) = true := by rw [hr]; simpa using h
     rw [if_pos e1, List.find?_cons_of_pos (by simpa using hr), List.find?_cons_of_pos (by simpa using hr)]
    ·rw [List.find?_cons_of_neg (l := rows) (by simpa using hr)]
     split
     ·rw [List.find?_cons_of_neg (by simpa using hr)]; exact ih
     ·exact ih
  rw [this]
  have e2 : [(letX x, prod ((wordX x).map (bw rows)).flatten)].find? (fun r => lw r.1 == lw c) = none := by
   rw [List.find?_cons_of_neg (by simpa using fun e => h e.symm)]; rfl
  rw [e2, Option.or_none]
theorem bw_step {rows : Bk} {n : Nat} (B : BkOk rows n) (x : Int) {c : Nat} (hc : isL c = true) : Eqv (sb (bw rows) (phi (letX x) (imX x) c)) (bw (bkStep rows x) c) := by
 have L := letX_L x
 have iw := (imX_ok x).1
 have ww := (wordX_ok x).1
 have H := bw_hom B
 have nx : newX rows x = norm (sb (bw rows) (wordX x)) := prod_norm _
 have nE : Eqv (sb (bw rows) (wordX x)) (newX rows x) := by rw [nx]; exact eqv_norm (sb_wd H ww)
 have nw : wd (newX rows x) := by rw [nx]; exact norm_wd (sb_wd H ww)
 have bE : Eqv (sb (bw rows) (back (wordX x))) (back (newX rows x)) := by
  rw [sb_back H ww]; exact eqv_bk (sb_wd H ww) nw nE
 have bi := back_back iw
 by_cases h : lw c = lw (letX x)
 ·have e : bw (bkStep rows x) c = if isS c then newX rows x else back (newX rows x) := by
   unfold bw; rw [val_step, if_pos h]
  rw [e]
  rcases lw_two hc L h with rfl | rfl
  ·unfold phi
   rw [if_pos rfl]
   unfold wordX at nE bE
   cases hs : isS (letX x) with
   | true => rw [hs] at nE; exact nE
   | false =>
    rw [hs] at bE
    simp only [Bool.false_eq_true, if_false] at bE ⊢
    rw [bi] at bE; exact bE
  ·unfold phi
   rw [if_neg (iv_ne L), if_pos rfl]
   have hs2 := isS_iv L
   unfold wordX at nE bE
   cases hs : isS (letX x) with
   | true =>
    rw [hs] at bE hs2
    rw [hs2]
    exact bE
   | false =>
    rw [hs] at nE hs2
    rw [hs2]
    exact nE
 ·have e : bw (bkStep rows x) c = bw rows c := by
   unfold bw; rw [val_step, if_neg h]
  rw [e]
  unfold phi
  rw [if_neg (fun q => h (by rw [q])), if_neg (fun q => h (by rw [q, lw_iv L])), sb_cons, sb_nil, List.append_nil]
  exact Eqv.refl _
theorem putin_snoc (mvs : List (Nat × List Nat)) (m : Nat × List Nat) (w : List Nat) : putin (mvs ++ [m]) w = putin mvs (norm (sb (phi m.1 m.2) w)) := by
 unfold putin; rw [List.foldr_append]; rfl
theorem snoc_ind {P : List Int → Prop} (h0 : P []) (hs : ∀ xs x, P xs → P (xs ++ [x])) : ∀ xs, P xs := by
 intro xs
 have : ∀ n, ∀ xs : List Int, xs.length = n → P xs := by
  intro n
  induction n with
  | zero => intro xs h; rw [List.eq_nil_of_length_eq_zero h]; exact h0
  | succ n ih =>
   intro xs h
   rcases List.eq_nil_or_concat xs with rfl | ⟨u, c, e⟩
   ·exact h0
   ·rw [e, List.concat_eq_append]
    refine hs u c (ih u ?_)
    rw [e] at h; simpa using h
 exact this _ xs rfl
theorem book_snoc (xs : List Int) (x : Int) : bookOf (xs ++ [x]) = bkStep (bookOf xs) x := by unfold bookOf; rw [List.foldl_append]; rfl
theorem bw0 {c : Nat} (h : isL c = true) : bw [(65, [97]), (98, [98])] c = [c] := by rcases L4 h with rfl | rfl | rfl | rfl <;> rfl
theorem putin_book : ∀ xs : List Int, ∀ w, wd w → norm w = w → putin (xs.map mvP) w = norm (sb (bw (bookOf xs)) w) := by
 intro xs
 refine snoc_ind (P := fun xs => ∀ w, wd w → norm w = w → putin (xs.map mvP) w = norm (sb (bw (bookOf xs)) w)) ?_ ?_ xs
 ·intro w hw hn
  have : ∀ w, wd w → sb (bw [(65, [97]), (98, [98])]) w = w := by
   intro w
   induction w with
   | nil => intro _; rfl
   | cons c w ih =>
    intro h
    rw [sb_cons, ih (wd_cons.mp h).2, bw0 (wd_cons.mp h).1]; rfl
  show w = norm (sb (bw [(65, [97]), (98, [98])]) w)
  rw [this w hw, hn]
 ·intro xs x ih w hw hn
  have B := book_ok xs
  have H := bw_hom B
  have Hp := phi_hom (letX_L x) (imX_ok x).1
  have wp := sb_wd Hp hw
  rw [List.map_append, List.map_cons, List.map_nil, putin_snoc]
  show putin (xs.map mvP) (norm (sb (phi (letX x) (imX x)) w)) = _
  rw [ih _ (norm_wd wp) (norm_norm wp), ← norm_of_eqv (sb_norm H wp), sb_sb, book_snoc]
  apply norm_of_eqv
  exact sb_pt (fun c hc => ⟨sb_wd H (Hp.wd c (hw c hc)), bw_step B x (hw c hc)⟩)
theorem val_norm : ∀ xs : List Int, ∀ c, isL c = true → norm (valOf (bookOf xs) c) = valOf (bookOf xs) c := by
 intro xs
 refine snoc_ind (P := fun xs => ∀ c, isL c = true → norm (valOf (bookOf xs) c) = valOf (bookOf xs) c) ?_ ?_ xs
 ·intro c hc
  rcases L4 hc with rfl | rfl | rfl | rfl <;> decide
 ·intro xs x ih c hc
  rw [book_snoc, val_step]
  split
  ·have : newX (bookOf xs) x = norm (sb (bw (bookOf xs)) (wordX x)) := prod_norm _
   rw [this]
   exact norm_norm (sb_wd (bw_hom (book_ok xs)) (wordX_ok x).1)
  ·exact ih c hc
theorem plain_a (xs : List Int) : putin (xs.map mvP) [97] = fstW xs := by
 rw [putin_book xs [97] (wd_cons.mpr ⟨rfl, wd_nil⟩) (by decide), sb_cons, sb_nil, List.append_nil]
 exact val_norm xs 97 rfl
theorem plain_b (xs : List Int) : putin (xs.map mvP) [98] = sndW xs := by
 rw [putin_book xs [98] (wd_cons.mpr ⟨rfl, wd_nil⟩) (by decide), sb_cons, sb_nil, List.append_nil]
 have e : sndW xs = valOf (bookOf xs) 98 := val_lw _ rfl
 rw [e]
 exact val_norm xs 98 rfl
theorem plain_c (xs : List Int) : putin (xs.map mvP) [97, 98, 65, 66] = acrW xs := by
 rw [putin_book xs [97, 98, 65, 66] (wd_cons.mpr ⟨rfl, wd_cons.mpr ⟨rfl, wd_cons.mpr ⟨rfl, wd_cons.mpr ⟨rfl, wd_nil⟩⟩⟩⟩) (by decide)]
 unfold acrW
 rw [prod_norm]
 have e : sndW xs = valOf (bookOf xs) 98 := val_lw _ rfl
 have e2 : valOf (bookOf xs) 65 = valOf (bookOf xs) 97 := val_lw _ rfl
 have e3 : valOf (bookOf xs) 66 = valOf (bookOf xs) 98 := val_lw _ rfl
 have k : sb (bw (bookOf xs)) [97, 98, 65, 66] = fstW xs ++ sndW xs ++ back (fstW xs) ++ back (sndW xs) := by
  rw [sb_cons, sb_cons, sb_cons, sb_cons, sb_nil, e]
  show valOf (bookOf xs) 97 ++ (valOf (bookOf xs) 98 ++ (back (valOf (bookOf xs) 65) ++ (back (valOf (bookOf xs) 66) ++ []))) = valOf (bookOf xs) 97 ++ valOf (bookOf xs) 98 ++ back (valOf (bookOf xs) 97) ++ back (valOf (bookOf xs) 98)
  rw [e2, e3]
  simp
 rw [k]
noncomputable def gen (p q : Nat) : Nat → Nat → List Nat
 | 0, _ => []
 | m + 1, t => if t < p then 97 :: gen p q m (t + q) else 98 :: gen p q m (t - p)
theorem gen_eq (p q : Nat) (h : 0 < p + q) : ∀ m k, gen p q m (k * q % (p + q)) = (List.range' k m).map fun k => if k * q % (p + q) < p then 97 else 98
 | 0, k => rfl
 | m + 1, k => by
  have hn := Nat.mod_lt (k * q) h
  have es : (k + 1) * q % (p + q) = if k * q % (p + q) < p then k * q % (p + q) + q else k * q % (p + q) - p := by
   rw [Nat.succ_mul, Nat.add_mod]
   generalize k * q % (p + q) = t at *
   by_cases hq : q < p + q
   ·rw [Nat.mod_eq_of_lt hq]
    by_cases ht : t < p
    ·rw [if_pos ht, Nat.mod_eq_of_lt (by lia)]
    ·rw [if_neg ht, Nat.mod_eq_sub_mod (by lia), Nat.mod_eq_of_lt (by lia)]; lia
   ·have hp : p = 0 := by lia
    subst hp
    rw [Nat.zero_add] at *
    rw [Nat.mod_self, Nat.add_zero, Nat.mod_eq_of_lt hn]
    simp
  rw [List.range'_succ, List.map_cons, ← gen_eq p q h m (k + 1), es]
  show (if k * q % (p + q) < p then _ else _) = _
  by_cases ht : k * q % (p + q) < p
  ·rw [if_pos ht, if_pos ht, if_pos ht]
  ·rw [if_neg ht, if_neg ht, if_neg ht]
noncomputable def tD (c : Nat) : List Nat := if c = 97 then [97, 98] else [98]
noncomputable def tG (c : Nat) : List Nat := if c = 97 then [97] else [97, 98]
theorem gen_D (p q : Nat) : ∀ m t, sb tD (gen p q m t) = gen p (p + q) (sb tD (gen p q m t)).length t
 | 0, t => rfl
 | m + 1, t => by
  by_cases h : t < p
  ·have e : gen p q (m + 1) t = 97 :: gen p q m (t + q) := by show (if t < p then _ else _) = _; rw [if_pos h]
   have ih := gen_D p q m (t + q)
   rw [e, sb_cons]
   show [97, 98] ++ sb tD (gen p q m (t + q)) = _
   rw [List.length_append]
   generalize sb tD (gen p q m (t + q)) = w at *
   rw [show tD 97 = [97, 98] from rfl, show ([97, 98] : List Nat).length + w.length = w.length + 1 + 1 from by simp; lia]
   show _ = if t < p then 97 :: (if t + (p + q) < p then _ else 98 :: gen p (p + q) w.length (t + (p + q) - p)) else _
   rw [if_pos h, if_neg (by lia), show t + (p + q) - p = t + q from by lia, ← ih]; rfl
  ·have e : gen p q (m + 1) t = 98 :: gen p q m (t - p) := by show (if t < p then _ else _) = _; rw [if_neg h]
   have ih := gen_D p q m (t - p)
   rw [e, sb_cons]
   show [98] ++ sb tD (gen p q m (t - p)) = _
   rw [List.length_append]
   generalize sb tD (gen p q m (t - p)) = w at *
   rw [show tD 98 = [98] from rfl, show ([98] : List Nat).length + w.length = w.length + 1 from by simp; lia]
   show _ = if t < p then _ else 98 :: gen p (p + q) w.length (t - p)
   rw [if_neg h, ← ih]; rfl
theorem gen_G (p q : Nat) : ∀ m t, t < p + q → sb tG (gen p q m t) = gen (p + q) q (sb tG (gen p q m t)).length t
 | 0, t, _ => rfl
 | m + 1, t, ht => by
  by_cases h : t < p
  ·have e : gen p q (m + 1) t = 97 :: gen p q m (t + q) := by show (if t < p then _ else _) = _; rw [if_pos h]
   have ih := gen_G p q m (t + q) (by lia)
   rw [e, sb_cons]
   show [97] ++ sb tG (gen p q m (t + q)) = _
   rw [List.length_append]
   generalize sb tG (gen p q m (t + q)) = w at *
   rw [show tG 97 = [97] from rfl, show ([97] : List Nat).length + w.length = w.length + 1 from by simp; lia]
   show _ = if t < p + q then 97 :: gen (p + q) q w.length (t + q) else _
   rw [if_pos ht, ← ih]; rfl
  ·have e : gen p q (m + 1) t = 98 :: gen p q m (t - p) := by show (if t < p then _ else _) = _; rw [if_neg h]
   have ih := gen_G p q m (t - p) (by lia)
   rw [e, sb_cons]
   show [97, 98] ++ sb tG (gen p q m (t - p)) = _
   rw [List.length_append]
   generalize sb tG (gen p q m (t - p)) = w at *
   rw [show tG 98 = [97, 98] from rfl, show ([97, 98] : List Nat).length + w.length = w.length + 1 + 1 from by simp; lia]
   show _ = if t < p + q then 97 :: (if t + q < p + q then _ else 98 :: gen (p + q) q w.length (t + q - (p + q))) else _
   rw [if_pos ht, if_neg (by lia), show t + q - (p + q) = t - p from by lia, ← ih]; rfl
noncomputable def line (p q : Nat) : List Nat := gen p q (p + q) 0
theorem gen_len (p q : Nat) : ∀ m t, (gen p q m t).length = m
 | 0, _ => rfl
 | m + 1, t => by
  show (if t < p then _ else _ : List Nat).length = _
  split <;> simp [gen_len p q m]
theorem gen_cnt (p q : Nat) : ∀ m t, (gen p q m t).count 97 + (gen p q m t).count 98 = m
 | 0, _ => rfl
 | m + 1, t => by
  show (if t < p then _ else _ : List Nat).count 97 + (if t < p then _ else _ : List Nat).count 98 = _
  split
  ·have := gen_cnt p q m (t + q); simp; lia
  ·have := gen_cnt p q m (t - p); simp; lia
theorem gen_end (p q : Nat) (h : 0 < p + q) : ∀ m k, k * q % (p + q) + (gen p q m (k * q % (p + q))).count 97 * q = (k + m) * q % (p + q) + (gen p q m (k * q % (p + q))).count 98 * p
 | 0, k => by simp [gen]
 | m + 1, k => by
  have ih := gen_end p q h m (k + 1)
  have hn := Nat.mod_lt (k * q) h
  have es : (k + 1) * q % (p + q) = if k * q % (p + q) < p then k * q % (p + q) + q else k * q % (p + q) - p := by
   rw [Nat.succ_mul, Nat.add_mod]
   generalize k * q % (p + q) = t at *
   by_cases hq : q < p + q
   ·rw [Nat.mod_eq_of_lt hq]
    by_cases ht : t < p
    ·rw [if_pos ht, Nat.mod_eq_of_lt (by lia)]
    ·rw [if_neg ht, Nat.mod_eq_sub_mod (by lia), Nat.mod_eq_of_lt (by lia)]; lia
   ·have hp : p = 0 := by lia
    subst hp
    rw [Nat.zero_add] at *
    rw [Nat.mod_self, Nat.add_zero, Nat.mod_eq_of_lt hn]
    simp
  rw [show k + 1 + m = k + (m + 1) from by lia] at ih
  generalize (k + (m + 1)) * q % (p + q) = u at *
  generalize k * q % (p + q) = t at *
  by_cases ht : t < p
  ·rw [if_pos ht] at es
   rw [es] at ih
   have e : gen p q (m + 1) t = 97 :: gen p q m (t + q) := by show (if t < p then _ else _) = _; rw [if_pos ht]
   rw [e]
   simp only [List.count_cons_self, List.count_cons_of_ne (show (97 : Nat) ≠ 98 by decide), Nat.add_mul, Nat.one_mul]
   lia
  ·rw [if_neg ht] at es
   rw [es] at ih
   have e : gen p q (m + 1) t = 98 :: gen p q m (t - p) := by show (if t < p then _ else _) = _; rw [if_neg ht]
   rw [e]
   simp only [List.count_cons_self, List.count_cons_of_ne (show (98 : Nat) ≠ 97 by decide), Nat.add_mul, Nat.one_mul]
   lia
theorem line_cnt (p q : Nat) (h : 0 < p + q) : (line p q).count 97 = p ∧ (line p q).count 98 = q := by
 have e := gen_end p q h (p + q) 0
 have c := gen_cnt p q (p + q) 0
 rw [Nat.zero_mul, Nat.zero_mod, Nat.zero_add, Nat.zero_add, Nat.mul_mod_right, Nat.zero_add] at e
 unfold line
 generalize (gen p q (p + q) 0).count 97 = A at *
 generalize (gen p q (p + q) 0).count 98 = B at *
 have e2 : A * (p + q) = p * (p + q) := by
  rw [Nat.mul_add, e, ← Nat.add_mul, Nat.mul_comm p (p + q), ← c]
 have : A = p := Nat.eq_of_mul_eq_mul_right h e2
 exact ⟨this, by lia⟩
theorem sbD_len : ∀ w : List Nat, w.count 97 + w.count 98 = w.length → (sb tD w).length = 2 * w.count 97 + w.count 98
 | [], _ => rfl
 | c :: w, h => by
  have le : w.count 97 + w.count 98 ≤ w.length := by
   have : ∀ w : List Nat, w.count 97 + w.count 98 ≤ w.length := by
    intro w
    induction w with
    | nil => simp
    | cons c w ih => rw [List.count_cons, List.count_cons, List.length_cons]; by_cases h : c = 97 <;> by_cases k : c = 98 <;> simp_all <;> lia
   exact this w
  rw [List.count_cons, List.count_cons, List.length_cons] at h
  rw [sb_cons, List.length_append, List.count_cons, List.count_cons]
  by_cases h1 : c = 97
  ·subst h1
   simp at h ⊢
   have := sbD_len w (by lia)
   rw [this]; simp [tD]; lia
  ·by_cases h2 : c = 98
   ·subst h2
    simp at h ⊢
    have := sbD_len w (by lia)
    rw [this]; simp [tD]; lia
   ·simp [h1, h2] at h; lia
theorem cnt_le : ∀ w : List Nat, w.count 97 + w.count 98 ≤ w.length
 | [] => Nat.le_refl _
 | c :: w => by
  have ih := cnt_le w
  rw [List.count_cons, List.count_cons, List.length_cons]
  by_cases h : c = 97
  ·subst h; simp; lia
  ·by_cases k : c = 98
   ·subst k; simp; lia
   ·simp [h, k]; lia
theorem sbG_len : ∀ w : List Nat, w.count 97 + w.count 98 = w.length → (sb tG w).length = w.count 97 + 2 * w.count 98
 | [], _ => rfl
 | c :: w, h => by
  have le := cnt_le w
  rw [List.count_cons, List.count_cons, List.length_cons] at h
  rw [sb_cons, List.length_append, List.count_cons, List.count_cons]
  by_cases h1 : c = 97
  ·subst h1
   simp at h ⊢
   have := sbG_len w (by lia)
   rw [this]; simp [tG]; lia
  ·by_cases h2 : c = 98
   ·subst h2
    simp at h ⊢
    have := sbG_len w (by lia)
    rw [this]; simp [tG]; lia
   ·simp [h1, h2] at h; lia
theorem line_len (p q : Nat) : (line p q).length = p + q := gen_len p q (p + q) 0
theorem line_D (p q : Nat) (h : 0 < p + q) : sb tD (line p q) = line p (p + q) := by
 obtain ⟨a, b⟩ := line_cnt p q h
 have l := sbD_len (line p q) (by rw [a, b, line_len])
 rw [a, b] at l
 have e := gen_D p q (p + q) 0
 unfold line at l ⊢
 rw [l] at e
 rw [e, show 2 * p + q = p + (p + q) from by lia]
theorem line_G (p q : Nat) (h : 0 < p + q) : sb tG (line p q) = line (p + q) q := by
 obtain ⟨a, b⟩ := line_cnt p q h
 have l := sbG_len (line p q) (by rw [a, b, line_len])
 rw [a, b] at l
 have e := gen_G p q (p + q) 0 h
 unfold line at l ⊢
 rw [l] at e
 rw [e, show p + 2 * q = p + q + q from by lia]
noncomputable def sg2 (lo hi c : Nat) : Nat := if c = 97 then lo else hi
theorem lineL_line (x y : Int) (h : x.natAbs + y.natAbs ≠ 0) : lineL x y = (line x.natAbs y.natAbs).map (sg2 (if 0 < x then 97 else 65) (if 0 < y then 98 else 66)) := by
 generalize hp : x.natAbs = p at *
 generalize hq : y.natAbs = q at *
 have hn : 0 < p + q := Nat.pos_of_ne_zero h
 have e := gen_eq p q hn (p + q) 0
 rw [Nat.zero_mul, Nat.zero_mod] at e
 unfold lineL line
 rw [hp, hq, e, ← List.range_eq_range', List.map_map]
 apply List.map_congr_left
 intro k _
 show lineF p q _ _ k = sg2 _ _ (if k * q % (p + q) < p then 97 else 98)
 unfold lineF
 have e2 : ((k : Int) * (q : Int)).fmod ((p + q : Nat) : Int) = ((k * q % (p + q) : Nat) : Int) := by
  rw [Int.fmod_eq_emod_of_nonneg _ (by omega)]
  rw [← Int.natCast_mul]; rfl
 rw [e2]
 by_cases ht : k * q % (p + q) < p
 ·rw [if_pos ht, if_pos (by omega)]; rfl
 ·rw [if_neg ht, if_neg (by omega)]; rfl
theorem plain_k (xs : List Int) : (bookOf xs).map (·.1) = namesOf xs := by
 refine snoc_ind (P := fun xs => (bookOf xs).map (·.1) = namesOf xs) rfl ?_ xs
 intro xs x ih
 have B := book_ok xs
 rw [book_snoc]
 have e : namesOf (xs ++ [x]) = nmStep (namesOf xs) x := by unfold namesOf; rw [List.foldl_append]; rfl
 rw [e, ← ih]
 unfold bkStep nmStep
 rw [List.map_append, List.map_cons, List.map_nil, List.filter_map]
 congr 2
 apply List.filter_congr
 intro r hr
 have hl := B.l r hr
 have L := letX_L x
 show (lw r.1 != lw (letX x)) = ((r.1 != letX x) && (r.1 != iv (letX x)))
 by_cases h : lw r.1 = lw (letX x)
 ·rcases lw_two hl L h with e | e
  ·rw [e]; simp
  ·rw [e, lw_iv L]; simp
 ·have h1 : r.1 ≠ letX x := fun e => h (by rw [e])
  have h2 : r.1 ≠ iv (letX x) := fun e => h (by rw [e, lw_iv L])
  rw [bne_iff_ne.mpr h, bne_iff_ne.mpr h1, bne_iff_ne.mpr h2]; rfl
noncomputable def Rot (u v : List Nat) : Prop := ∃ s t, u = s ++ t ∧ v = t ++ s
theorem Rot.refl (u : List Nat) : Rot u u := ⟨[], u, rfl, by simp⟩
theorem Rot.left {u w : List Nat} {c : Nat} (h : Rot u (c :: w)) : Rot u (w ++ [c]) := by
 obtain ⟨s, t, e, f⟩ := h
 cases t with
 | nil =>
  rw [List.nil_append] at f
  subst f
  rw [List.append_nil] at e
  exact ⟨[c], w, by rw [e]; rfl, rfl⟩
 | cons d t =>
  rw [List.cons_append] at f
  cases f
  exact ⟨s ++ [c], t, by rw [e]; simp, by simp⟩
theorem Rot.right {u w : List Nat} {c : Nat} (h : Rot u (w ++ [c])) : Rot u (c :: w) := by
 obtain ⟨s, t, e, f⟩ := h
 rcases List.eq_nil_or_concat s with rfl | ⟨s', d, rfl⟩
 ·rw [List.append_nil] at f
  rw [List.nil_append] at e
  exact ⟨w, [c], by rw [e, ← f], rfl⟩
 ·rw [List.concat_eq_append, ← List.append_assoc] at f
  have k := List.append_inj' f rfl
  have kc : c = d := by simpa using k.2
  subst kc
  exact ⟨s', [c] ++ t, by rw [e, List.concat_eq_append]; simp, by rw [k.1]; simp⟩
theorem Rot.len {u v : List Nat} (h : Rot u v) : v.length = u.length := by
 obtain ⟨s, t, rfl, rfl⟩ := h
 simp only [List.length_append]; lia
theorem Rot.inner {u v : List Nat} (h : Rot u v) : ∃ a b, u ++ u = a ++ v ++ b := by
 obtain ⟨s, t, rfl, rfl⟩ := h
 exact ⟨s, t, by simp⟩
noncomputable def co (w : List Nat) : List Nat := core w.length w
theorem ends (w : List Nat) : w = [] ∨ (∃ c, w = [c]) ∨ ∃ c v e, w = c :: (v ++ [e]) := by
 cases w with
 | nil => exact .inl rfl
 | cons c w =>
  rcases List.eq_nil_or_concat w with rfl | ⟨v, e, rfl⟩
  ·exact .inr (.inl ⟨c, rfl⟩)
  ·exact .inr (.inr ⟨c, v, e, by rw [List.concat_eq_append]⟩)
theorem core_one (n c : Nat) : core n [c] = [c] := by cases n <;> rfl
theorem core_nil (n : Nat) : core n [] = [] := by cases n <;> rfl
theorem core_more : ∀ (n : Nat) (w : List Nat) (k : Nat), w.length ≤ n → w.length ≤ k → core n w = core k w := by
 intro n
 induction n with
 | zero =>
  intro w k h _
  have hw : w = [] := List.eq_nil_of_length_eq_zero (by lia)
  rw [hw, core_nil, core_nil]
 | succ n ih =>
  intro w k h hk
  rcases ends w with rfl | ⟨c, rfl⟩ | ⟨c, v, e, rfl⟩
  ·rw [core_nil, core_nil]
  ·rw [core_one, core_one]
  ·simp only [List.length_cons, List.length_append, List.length_nil] at h hk
   obtain ⟨k, rfl⟩ : ∃ j, k = j + 1 := ⟨k - 1, by lia⟩
   rw [core_step, core_step]
   split
   ·exact ih v k (by lia) (by lia)
   ·rfl
theorem co_strip {c e : Nat} (v : List Nat) (h : c = iv e) : co (c :: (v ++ [e])) = co v := by
 unfold co
 have : (c :: (v ++ [e])).length = (v.length + 1) + 1 := by simp
 rw [this, core_step, if_pos h]
 exact core_more _ _ _ (by lia) (Nat.le_refl _)
theorem co_fix {c e : Nat} (v : List Nat) (h : c ≠ iv e) : co (c :: (v ++ [e])) = c :: (v ++ [e]) := by
 unfold co
 have : (c :: (v ++ [e])).length = (v.length + 1) + 1 := by simp
 rw [this, core_step, if_neg h]
theorem Rd_snoc : ∀ {l : List Nat} {c : Nat}, Rd l → isL c = true → (∀ u d, l = u ++ [d] → d ≠ iv c) → Rd (l ++ [c])
 | [], c, _, hc, _ => hc
 | [d], c, h, hc, k => ⟨h, k [] d rfl, hc⟩
 | d :: e :: l, c, h, hc, k => ⟨h.1, h.2.1, Rd_snoc (l := e :: l) h.2.2 hc (fun u f q => k (d :: u) f (by rw [q]; rfl))⟩
theorem Rd_rev : ∀ {l : List Nat}, Rd l → Rd l.reverse
 | [], _ => trivial
 | c :: l, h => by
  rw [List.reverse_cons]
  refine Rd_snoc (Rd_rev h.tail) h.head ?_
  intro u d e
  have e2 : l = d :: u.reverse := by
   have := congrArg List.reverse e
   rw [List.reverse_reverse, List.reverse_append] at this
   exact this
  subst e2
  exact (ne_iv h.2.2.head h.1).mp h.2.1
theorem norm_Rd {w : List Nat} (h : wd w) : Rd (norm w) := Rd_rev (run_Rd (st := []) trivial h)
theorem Rd_norm {w : List Nat} (h : Rd w) : norm w = w := by
 have := run_fix (st := []) (v := w.reverse) (by rw [List.append_nil]; exact Rd_rev h)
 rw [List.reverse_reverse, List.append_nil] at this
 unfold norm
 rw [this, List.reverse_reverse]
theorem norm_front {x : List Nat} {c : Nat} (h : Rd x) (hc : isL c = true) : norm (c :: x) = rp x c := by
 have e : Eqv (c :: x) (rp x c) := by
  cases x with
  | nil => exact Eqv.refl _
  | cons d v =>
   unfold rp
   simp only
   split
   ·rename_i q
    subst q
    have := Eqv.app (u := [c, iv c]) (u' := []) (v := v) (v' := v) (wd_cons.mpr ⟨hc, wd_cons.mpr ⟨iv_L hc, wd_nil⟩⟩) (eqv_pair hc) (Eqv.refl _)
    exact this
   ·exact Eqv.refl _
 rw [norm_of_eqv e]
 exact Rd_norm (rp_Rd h hc)
theorem norm_behind {x : List Nat} {c : Nat} (h : Rd x) : norm (x ++ [c]) = (rp x.reverse c).reverse := by
 have e : run [] x = x.reverse := by
  have := Rd_norm h
  unfold norm at this
  rw [← List.reverse_reverse (run [] x), this]
 unfold norm
 rw [run_app, e]; rfl
theorem norm_conj {x : List Nat} {c : Nat} (h : Rd x) (hc : isL c = true) : norm (c :: (x ++ [iv c])) = (rp (rp x c).reverse (iv c)).reverse := by
 have w1 : wd (c :: x) := wd_cons.mpr ⟨hc, h.wd⟩
 have e : Eqv ((c :: x) ++ [iv c]) (norm (c :: x) ++ [iv c]) := Eqv.app w1 (eqv_norm w1) (Eqv.refl _)
 rw [norm_front h hc] at e
 have := norm_of_eqv e
 rw [norm_behind (rp_Rd h hc)] at this
 exact this
theorem rp_hit {d c : Nat} {v : List Nat} (h : d = iv c) : rp (d :: v) c = v := by unfold rp; simp only [if_pos h]
theorem rp_miss {d c : Nat} {v : List Nat} (h : d ≠ iv c) : rp (d :: v) c = c :: d :: v := by unfold rp; simp only [if_neg h]
theorem co_one (e : Nat) : co [e] = [e] := core_one 1 e
theorem Rd_pair : ∀ {u v : List Nat} {d c : Nat}, Rd (u ++ d :: c :: v) → d ≠ iv c
 | [], _, _, _, h => h.2.1
 | [a], _, _, _, h => h.2.2.2.1
 | a :: b :: u, _, _, _, h => Rd_pair (u := b :: u) h.2.2
theorem co_conj {x : List Nat} {c : Nat} (h : Rd x) (hc : isL c = true) : Rot (co x) (co (norm (c :: (x ++ [iv c])))) := by
 rw [norm_conj h hc]
 have ic := iv_iv hc
 rcases ends x with rfl | ⟨e, rfl⟩ | ⟨f, v, e, rfl⟩
 ·have : rp (rp [] c).reverse (iv c) = [] := rp_hit ic.symm
  rw [this]; exact Rot.refl _
 ·by_cases h1 : e = iv c
  ·rw [rp_hit h1]
   show Rot (co [e]) (co [iv c])
   rw [h1]; exact Rot.refl _
  ·rw [rp_miss h1]
   show Rot (co [e]) (co (rp (e :: [c]) (iv c)).reverse)
   by_cases h2 : e = c
   ·rw [rp_hit (by rw [ic]; exact h2)]
    show Rot (co [e]) (co [c])
    rw [h2]; exact Rot.refl _
   ·rw [rp_miss (by rw [ic]; exact h2)]
    show Rot (co [e]) (co (c :: ([e] ++ [iv c])))
    rw [co_strip _ ic.symm]; exact Rot.refl _
 ·by_cases h1 : f = iv c
  ·rw [rp_hit h1, List.reverse_append]
   show Rot _ (co (rp (e :: v.reverse) (iv c)).reverse)
   by_cases h2 : e = c
   ·rw [rp_hit (by rw [ic]; exact h2), List.reverse_reverse, co_strip v (by rw [h1, h2])]
    exact Rot.refl _
   ·have h3 : f ≠ iv e := by
     intro q
     have he : isL e = true := h.wd e (by simp)
     rw [h1] at q
     have := congrArg iv q
     rw [ic, iv_iv he] at this
     exact h2 this.symm
    rw [rp_miss (by rw [ic]; exact h2), co_fix v h3]
    have ey : (iv c :: e :: v.reverse).reverse = (v ++ [e]) ++ [iv c] := by simp
    rw [ey]
    have r : Rot (f :: (v ++ [e])) ((v ++ [e]) ++ [f]) := (Rot.refl _).left
    rw [h1] at r ⊢
    cases v with
    | nil =>
     show Rot _ (co (e :: ([] ++ [iv c])))
     rw [co_fix [] (by rw [ic]; exact h2)]; exact r
    | cons g v =>
     have hg : f ≠ iv g := Rd_pair (u := []) h
     have hgc : g ≠ iv (iv c) := by
      rw [ic]
      intro q
      rw [q] at hg
      exact hg h1
     show Rot _ (co (g :: ((v ++ [e]) ++ [iv c])))
     rw [co_fix _ hgc]; exact r
  ·rw [rp_miss h1]
   have er : (c :: f :: (v ++ [e])).reverse = e :: (c :: f :: v).reverse := by simp
   rw [er]
   by_cases h2 : e = c
   ·rw [rp_hit (by rw [ic]; exact h2), List.reverse_reverse]
    have h3 : f ≠ iv e := by rw [h2]; exact h1
    rw [co_fix v h3]
    have r : Rot (f :: (v ++ [e])) ((f :: v) ++ [e]) := Rot.refl _
    have r2 := r.right
    rw [h2] at r2 h ⊢
    rcases List.eq_nil_or_concat v with rfl | ⟨u, g, rfl⟩
    ·have : c ≠ iv f := fun q => h1 (by rw [q, iv_iv (h.wd f (by simp))])
     show Rot _ (co (c :: ([] ++ [f])))
     rw [co_fix [] this]; exact r2
    ·rw [List.concat_eq_append] at *
     have hg : g ≠ iv c := Rd_pair (u := f :: u) (v := []) (by simpa using h)
     have : c ≠ iv g := fun q => hg (by rw [q, iv_iv (h.wd g (by simp))])
     show Rot _ (co (c :: ((f :: u) ++ [g])))
     rw [co_fix _ this]; exact r2
   ·rw [rp_miss (by rw [ic]; exact h2)]
    have ey : (iv c :: e :: (c :: f :: v).reverse).reverse = c :: ((f :: (v ++ [e])) ++ [iv c]) := by simp
    rw [ey, co_strip _ ic.symm]
    exact Rot.refl _
theorem Rot.trans {u v w : List Nat} (h : Rot u v) (k : Rot v w) : Rot u w := by
 obtain ⟨s, t, rfl, rfl⟩ := h
 obtain ⟨s', t', e, rfl⟩ := k
 rcases List.append_eq_append_iff.mp e with ⟨m, e1, e2⟩ | ⟨m, e1, e2⟩
 ·subst e1
  subst e2
  exact ⟨m, t' ++ t, by simp, by simp⟩
 ·subst e1
  subst e2
  exact ⟨s ++ s', m, by simp, by simp⟩
noncomputable def Cj (u v : List Nat) : Prop := ∃ h, wd h ∧ Eqv (h ++ (u ++ back h)) v
theorem ring_conj {u : List Nat} (hu : wd u) : ∀ {h : List Nat}, wd h → Rot (co (norm u)) (co (norm (h ++ (u ++ back h))))
 | [], _ => by
  show Rot _ (co (norm (u ++ [])))
  rw [List.append_nil]; exact Rot.refl _
 | c :: h, hw => by
  obtain ⟨hc, hh⟩ := wd_cons.mp hw
  have wx : wd (h ++ (u ++ back h)) := wd_app.mpr ⟨hh, wd_app.mpr ⟨hu, wd_back hh⟩⟩
  have ih := ring_conj hu hh
  have e0 : (c :: h) ++ (u ++ back (c :: h)) = [c] ++ ((h ++ (u ++ back h)) ++ [iv c]) := by simp [back]
  have e1 : Eqv ([c] ++ ((h ++ (u ++ back h)) ++ [iv c])) ([c] ++ (norm (h ++ (u ++ back h)) ++ [iv c])) :=
   Eqv.app (wd_cons.mpr ⟨hc, wd_nil⟩) (Eqv.refl _) (Eqv.app wx (eqv_norm wx) (Eqv.refl _))
  rw [e0, norm_of_eqv e1]
  exact ih.trans (co_conj (norm_Rd wx) hc)
theorem ring_of {f d : List Nat} (hd : wd d) (hn : norm d = d) (hc : co d = d) (hf : norm f = f) (k : Cj d f) : Rot d (co f) := by
 obtain ⟨h, hh, e⟩ := k
 have r := ring_conj hd hh
 rw [hn, hc, norm_of_eqv e, hf] at r
 exact r
end Mine
namespace Mine
open PySem PySem.StrLaws PySem.Builtin.Str
theorem contains_inner (a v b : List Nat) : Txt.contains (mkS (a ++ v ++ b)) (mkS v) = true := by
 have k := (found_iff (mkS (a ++ v ++ b)) (mkS v)).mpr ⟨a.length, by rw [mkS_len, mkS_len]; simp only [List.length_append]; lia, ?_⟩
 ·exact k
 ·unfold subAt
  simp [List.append_assoc]
  rw [mkS_len, List.take_left]
theorem ringB_of {f d : List Nat} (h : Rot d (co f)) : ringB f d = true := by
 unfold ringB
 show ((co f).length == d.length && Txt.contains (mkS (d ++ d)) (mkS (co f))) = true
 obtain ⟨a, b, e⟩ := h.inner
 rw [e, contains_inner, h.len, beq_self_eq_true]; rfl
end Mine
namespace Mine
noncomputable def cj (h w : List Nat) : List Nat := h ++ (w ++ back h)
theorem cj_wd {h w : List Nat} (a : wd h) (b : wd w) : wd (cj h w) := wd_app.mpr ⟨a, wd_app.mpr ⟨b, wd_back a⟩⟩
theorem cj_nil (w : List Nat) : cj [] w = w := by simp [cj, back]
theorem cj_cj (h k w : List Nat) : cj h (cj k w) = cj (h ++ k) w := by simp [cj, back_app]
theorem cj_eqv {h u v : List Nat} (a : wd h) (b : wd u) (e : Eqv u v) : Eqv (cj h u) (cj h v) := Eqv.app a (Eqv.refl _) (Eqv.app b e (Eqv.refl _))
theorem cj_app {h u v : List Nat} (a : wd h) (b : wd u) (c : wd v) : Eqv (cj h u ++ cj h v) (cj h (u ++ v)) := by
 have e : cj h u ++ cj h v = (h ++ u) ++ ((back h ++ h) ++ (v ++ back h)) := by simp [cj]
 have e2 : cj h (u ++ v) = (h ++ u) ++ ([] ++ (v ++ back h)) := by simp [cj]
 rw [e, e2]
 exact Eqv.app (wd_app.mpr ⟨a, b⟩) (Eqv.refl _) (Eqv.app (wd_app.mpr ⟨wd_back a, a⟩) (eqv_back' a) (Eqv.refl _))
theorem cj_back {h u : List Nat} (a : wd h) (b : wd u) : back (cj h u) = cj h (back u) := by
 unfold cj
 rw [back_app, back_app, back_back a, List.append_assoc]
theorem cj_sb {φ : Nat → List Nat} (H : Hom φ) {h u : List Nat} (a : wd h) : sb φ (cj h u) = cj (sb φ h) (sb φ u) := by
 unfold cj
 rw [sb_app, sb_app, sb_back H a]
noncomputable def PC (f g f' g' : List Nat) : Prop := ∃ h, wd h ∧ Eqv (cj h f) f' ∧ Eqv (cj h g) g'
theorem PC.refl (f g : List Nat) : PC f g f g := ⟨[], wd_nil, by rw [cj_nil]; exact Eqv.refl _, by rw [cj_nil]; exact Eqv.refl _⟩
theorem PC.trans {f g f' g' f'' g'' : List Nat} (wf : wd f) (wg : wd g) (x : PC f g f' g') (y : PC f' g' f'' g'') : PC f g f'' g'' := by
 obtain ⟨h, hh, a, b⟩ := x
 obtain ⟨k, hk, c, d⟩ := y
 refine ⟨k ++ h, wd_app.mpr ⟨hk, hh⟩, ?_, ?_⟩
 ·rw [← cj_cj]; exact (cj_eqv hk (cj_wd hh wf) a).trans c
 ·rw [← cj_cj]; exact (cj_eqv hk (cj_wd hh wg) b).trans d
theorem PC.sb {φ : Nat → List Nat} (H : Hom φ) {f g f' g' : List Nat} (wf : wd f) (wg : wd g) (wf' : wd f') (wg' : wd g') (x : PC f g f' g') : PC (sb φ f) (sb φ g) (sb φ f') (sb φ g') := by
 obtain ⟨h, hh, a, b⟩ := x
 refine ⟨Mine.sb φ h, sb_wd H hh, ?_, ?_⟩
 ·rw [← cj_sb H hh]; exact sb_eqv H (cj_wd hh wf) wf' a
 ·rw [← cj_sb H hh]; exact sb_eqv H (cj_wd hh wg) wg' b
noncomputable def tau (b : Bool) : Nat → List Nat := if b then phi 97 [97, 98] else phi 98 [97, 98]
noncomputable def sgF (lo hi : Nat) (c : Nat) : List Nat := if c = 97 then [lo] else if c = 65 then [iv lo] else if c = 98 then [hi] else [iv hi]
noncomputable def prF (f g : List Nat) (c : Nat) : List Nat := if c = 97 then f else if c = 65 then back f else if c = 98 then g else back g
noncomputable def let4 : List Nat := [97, 65, 98, 66]
noncomputable def hsL : List (List Nat) := [[], [97], [65], [98], [66]] ++ (let4.flatMap fun c => let4.filterMap fun d => if d = iv c then none else some [c, d])
noncomputable def pcB (u v u' v' : List Nat) : Bool := hsL.any fun h => norm (cj h u) == norm u' && norm (cj h v) == norm v'
noncomputable def betL : List (Nat × Nat) := let4.flatMap fun x => let4.filterMap fun y => if lw x = lw y then none else some (x, y)
noncomputable def chA (u v : List Nat) : Bool := betL.any fun p => pcB u v [p.1] [p.2]
noncomputable def chB (u v : List Nat) : Bool := [true, false].any fun b => betL.any fun p => pcB u v (tau b p.1) (tau b p.2)
noncomputable def chE (u v : List Nat) : Bool := [(65, 98), (97, 66)].any fun s => [true, false].any fun b => betL.any fun p => pcB u v (sb (sgF s.1 s.2) (tau b p.1)) (sb (sgF s.1 s.2) (tau b p.2))
noncomputable def chAll (u v : List Nat) : Bool := chA u v || chB u v || (chE u v && ([true, false].all fun b => chA (sb (tau b) u) (sb (tau b) v) || chB (sb (tau b) u) (sb (tau b) v)))
theorem ch_all : (betL.all fun p => let4.all fun l => (imsX l).all fun im => chAll (sb (prF [p.1] [p.2]) (phi l im 97)) (sb (prF [p.1] [p.2]) (phi l im 98))) = true := by decide +kernel
theorem hs_wd : ∀ h ∈ hsL, wd h := by
 have : (hsL.all fun h => h.all isL) = true := by decide +kernel
 intro h hh c hc
 exact List.all_eq_true.mp (List.all_eq_true.mp this h hh) c hc
theorem pcB_PC {u v u' v' : List Nat} (a : wd u) (b : wd v) (c : wd u') (d : wd v') (h : pcB u v u' v' = true) : PC u v u' v' := by
 obtain ⟨k, hk, e⟩ := List.any_eq_true.mp h
 obtain ⟨e1, e2⟩ := Bool.and_eq_true_iff.mp e
 have wk := hs_wd k hk
 exact ⟨k, wk, eqv_of_norm (cj_wd wk a) c (beq_iff_eq.mp e1), eqv_of_norm (cj_wd wk b) d (beq_iff_eq.mp e2)⟩
theorem tau_hom (b : Bool) : Hom (tau b) := by
 have w : wd [97, 98] := wd_cons.mpr ⟨rfl, wd_cons.mpr ⟨rfl, wd_nil⟩⟩
 cases b
 ·exact phi_hom rfl w
 ·exact phi_hom rfl w
theorem sgF_hom {lo hi : Nat} (a : isL lo = true) (b : isL hi = true) : Hom (sgF lo hi) := by
 constructor
 ·intro c hc
  rcases L4 hc with rfl | rfl | rfl | rfl
  ·exact wd_cons.mpr ⟨a, wd_nil⟩
  ·exact wd_cons.mpr ⟨b, wd_nil⟩
  ·exact wd_cons.mpr ⟨iv_L a, wd_nil⟩
  ·exact wd_cons.mpr ⟨iv_L b, wd_nil⟩
 ·intro c hc
  have ia := iv_iv a
  have ib := iv_iv b
  rcases L4 hc with rfl | rfl | rfl | rfl
  ·rfl
  ·rfl
  ·show [lo] = [iv (iv lo)]; rw [ia]
  ·show [hi] = [iv (iv hi)]; rw [ib]
theorem prF_hom {f g : List Nat} (a : wd f) (b : wd g) : Hom (prF f g) := by
 constructor
 ·intro c hc
  rcases L4 hc with rfl | rfl | rfl | rfl
  ·exact a
  ·exact b
  ·exact wd_back a
  ·exact wd_back b
 ·intro c hc
  rcases L4 hc with rfl | rfl | rfl | rfl
  ·rfl
  ·rfl
  ·exact (back_back a).symm
  ·exact (back_back b).symm
noncomputable def pth (ps : List Bool) (w : List Nat) : List Nat := ps.foldr (fun b w => sb (tau b) w) w
theorem pth_snoc (ps : List Bool) (b : Bool) (w : List Nat) : pth (ps ++ [b]) w = pth ps (sb (tau b) w) := by unfold pth; rw [List.foldr_append]; rfl
theorem pth_wd : ∀ (ps : List Bool) {w : List Nat}, wd w → wd (pth ps w)
 | [], _, h => h
 | b :: ps, w, h => sb_wd (tau_hom b) (pth_wd ps h)
theorem pth_PC : ∀ (ps : List Bool) {f g f' g' : List Nat}, wd f → wd g → wd f' → wd g' → PC f g f' g' → PC (pth ps f) (pth ps g) (pth ps f') (pth ps g')
 | [], _, _, _, _, _, _, _, _, h => h
 | b :: ps, f, g, f', g', a, c, d, e, h => PC.sb (tau_hom b) (pth_wd ps a) (pth_wd ps c) (pth_wd ps d) (pth_wd ps e) (pth_PC ps a c d e h)
noncomputable def Psi (lo hi : Nat) (ps : List Bool) (w : List Nat) : List Nat := sb (sgF lo hi) (pth ps w)
inductive Shape (f g : List Nat) : Prop
 | mk (lo hi : Nat) (ps : List Bool) (x y : Nat) (hl : lo = 97 ∨ lo = 65) (hh : hi = 98 ∨ hi = 66) (hb : (x, y) ∈ betL) (pc : PC f g (Psi lo hi ps [x]) (Psi lo hi ps [y]))
theorem shape0 : Shape [97] [98] := .mk 97 98 [] 97 98 (.inl rfl) (.inl rfl) (by decide +kernel) (PC.refl _ _)
theorem pr_cj {f g F G h : List Nat} (wf : wd f) (wg : wd g) (wF : wd F) (wG : wd G) (hh : wd h) (a : Eqv (cj h f) F) (b : Eqv (cj h g) G) : ∀ {u : List Nat}, wd u → Eqv (cj h (sb (prF f g) u)) (sb (prF F G) u)
 | [], _ => by
  show Eqv (h ++ ([] ++ back h)) []
  exact eqv_back hh
 | c :: u, hw => by
  obtain ⟨hc, hu⟩ := wd_cons.mp hw
  have H := prF_hom wf wg
  have H2 := prF_hom wF wG
  rw [sb_cons, sb_cons]
  have one : Eqv (cj h (prF f g c)) (prF F G c) := by
   rcases L4 hc with rfl | rfl | rfl | rfl
   ·exact a
   ·exact b
   ·show Eqv (cj h (back f)) (back F)
    rw [← cj_back hh wf]; exact eqv_bk (cj_wd hh wf) wF a
   ·show Eqv (cj h (back g)) (back G)
    rw [← cj_back hh wg]; exact eqv_bk (cj_wd hh wg) wG b
  exact (cj_app hh (H.wd c hc) (sb_wd H hu)).symm.trans (Eqv.app (cj_wd hh (H.wd c hc)) one (pr_cj wf wg wF wG hh a b hu))
theorem pr_PC {f g F G u v : List Nat} (wf : wd f) (wg : wd g) (wF : wd F) (wG : wd G) (wu : wd u) (wv : wd v) (k : PC f g F G) : PC (sb (prF f g) u) (sb (prF f g) v) (sb (prF F G) u) (sb (prF F G) v) := by
 obtain ⟨h, hh, a, b⟩ := k
 exact ⟨h, hh, pr_cj wf wg wF wG hh a b wu, pr_cj wf wg wF wG hh a b wv⟩
theorem pth_nil : ∀ ps : List Bool, pth ps [] = []
 | [] => rfl
 | b :: ps => by show sb (tau b) (pth ps []) = []; rw [pth_nil ps]; rfl
theorem pth_app : ∀ (ps : List Bool) (u v : List Nat), pth ps (u ++ v) = pth ps u ++ pth ps v
 | [], _, _ => rfl
 | b :: ps, u, v => by show sb (tau b) (pth ps (u ++ v)) = _; rw [pth_app ps, sb_app]; rfl
theorem pth_back : ∀ (ps : List Bool) {u : List Nat}, wd u → pth ps (back u) = back (pth ps u)
 | [], _, _ => rfl
 | b :: ps, u, h => by show sb (tau b) (pth ps (back u)) = _; rw [pth_back ps h, sb_back (tau_hom b) (pth_wd ps h)]; rfl
theorem Psi_pr {lo hi x y : Nat} (ps : List Bool) (a : isL lo = true) (b : isL hi = true) (hx : isL x = true) (hy : isL y = true) : ∀ {u : List Nat}, wd u → sb (prF (Psi lo hi ps [x]) (Psi lo hi ps [y])) u = Psi lo hi ps (sb (prF [x] [y]) u)
 | [], _ => by show [] = sb _ (pth ps []); rw [pth_nil]; rfl
 | c :: u, h => by
  obtain ⟨hc, hu⟩ := wd_cons.mp h
  have S := sgF_hom a b
  have bk : ∀ z, isL z = true → back (Psi lo hi ps [z]) = Psi lo hi ps (back [z]) := fun z hz => by
   have w1 : wd [z] := wd_cons.mpr ⟨hz, wd_nil⟩
   unfold Psi
   rw [pth_back ps w1, sb_back S (pth_wd ps w1)]
  rw [sb_cons, sb_cons, Psi_pr ps a b hx hy hu]
  have e : ∀ v w, Psi lo hi ps (v ++ w) = Psi lo hi ps v ++ Psi lo hi ps w := fun v w => by unfold Psi; rw [pth_app, sb_app]
  rw [e]
  congr 1
  rcases L4 hc with rfl | rfl | rfl | rfl
  ·rfl
  ·rfl
  ·exact bk x hx
  ·exact bk y hy
theorem sb_congr {φ ψ : Nat → List Nat} : ∀ {w : List Nat}, (∀ c ∈ w, φ c = ψ c) → sb φ w = sb ψ w
 | [], _ => rfl
 | c :: w, h => by rw [sb_cons, sb_cons, h c List.mem_cons_self, sb_congr (fun d hd => h d (List.mem_cons_of_mem _ hd))]
theorem pc_eqv {f g f' g' : List Nat} (a : Eqv f f') (b : Eqv g g') : PC f g f' g' := ⟨[], wd_nil, by rw [cj_nil]; exact a, by rw [cj_nil]; exact b⟩
theorem sg_L {lo hi : Nat} (hl : lo = 97 ∨ lo = 65) (hh : hi = 98 ∨ hi = 66) : isL lo = true ∧ isL hi = true := by rcases hl with rfl | rfl <;> rcases hh with rfl | rfl <;> exact ⟨rfl, rfl⟩
theorem bet_L {x y : Nat} (h : (x, y) ∈ betL) : isL x = true ∧ isL y = true := by
 have : (betL.all fun p => isL p.1 && isL p.2) = true := by decide +kernel
 exact Bool.and_eq_true_iff.mp (List.all_eq_true.mp this _ h)
theorem Psi_wd {lo hi : Nat} (hl : isL lo = true) (hh : isL hi = true) (ps : List Bool) {w : List Nat} (h : wd w) : wd (Psi lo hi ps w) := sb_wd (sgF_hom hl hh) (pth_wd ps h)
theorem Psi_PC {lo hi : Nat} (hl : isL lo = true) (hh : isL hi = true) (ps : List Bool) {f g f' g' : List Nat} (a : wd f) (b : wd g) (c : wd f') (d : wd g') (h : PC f g f' g') : PC (Psi lo hi ps f) (Psi lo hi ps g) (Psi lo hi ps f') (Psi lo hi ps g') :=
 PC.sb (sgF_hom hl hh) (pth_wd ps a) (pth_wd ps b) (pth_wd ps c) (pth_wd ps d) (pth_PC ps a b c d h)
theorem sb_one (φ : Nat → List Nat) (c : Nat) : sb φ [c] = φ c := by rw [sb_cons, sb_nil, List.append_nil]
theorem w1 {c : Nat} (h : isL c = true) : wd [c] := wd_cons.mpr ⟨h, wd_nil⟩
theorem shape_A {lo hi : Nat} (hl : lo = 97 ∨ lo = 65) (hh : hi = 98 ∨ hi = 66) (ps : List Bool) {u v : List Nat} (a : wd u) (b : wd v) (h : chA u v = true) : Shape (Psi lo hi ps u) (Psi lo hi ps v) := by
 obtain ⟨⟨x, y⟩, hp, e⟩ := List.any_eq_true.mp h
 obtain ⟨lx, ly⟩ := bet_L hp
 obtain ⟨l1, l2⟩ := sg_L hl hh
 exact .mk lo hi ps x y hl hh hp (Psi_PC l1 l2 ps a b (w1 lx) (w1 ly) (pcB_PC a b (w1 lx) (w1 ly) e))
theorem shape_B {lo hi : Nat} (hl : lo = 97 ∨ lo = 65) (hh : hi = 98 ∨ hi = 66) (ps : List Bool) {u v : List Nat} (a : wd u) (b : wd v) (h : chB u v = true) : Shape (Psi lo hi ps u) (Psi lo hi ps v) := by
 obtain ⟨t, _, e⟩ := List.any_eq_true.mp h
 obtain ⟨⟨x, y⟩, hp, e⟩ := List.any_eq_true.mp e
 obtain ⟨lx, ly⟩ := bet_L hp
 obtain ⟨l1, l2⟩ := sg_L hl hh
 have T := tau_hom t
 have k := Psi_PC l1 l2 ps a b (T.wd x lx) (T.wd y ly) (pcB_PC a b (T.wd x lx) (T.wd y ly) e)
 refine .mk lo hi (ps ++ [t]) x y hl hh hp ?_
 have q : ∀ z, Psi lo hi (ps ++ [t]) [z] = Psi lo hi ps (tau t z) := fun z => by unfold Psi; rw [pth_snoc, sb_one]
 rw [q, q]; exact k
theorem shape_AB {lo hi : Nat} (hl : lo = 97 ∨ lo = 65) (hh : hi = 98 ∨ hi = 66) (ps : List Bool) {u v : List Nat} (a : wd u) (b : wd v) (h : (chA u v || chB u v) = true) : Shape (Psi lo hi ps u) (Psi lo hi ps v) := by
 rcases Bool.or_eq_true_iff.mp h with h | h
 ·exact shape_A hl hh ps a b h
 ·exact shape_B hl hh ps a b h
theorem sg_sg {lo hi s1 s2 : Nat} (hl : lo = 97 ∨ lo = 65) (hh : hi = 98 ∨ hi = 66) (hs : (s1, s2) = (65, 98) ∨ (s1, s2) = (97, 66)) :
  ∃ lo' hi', (lo' = 97 ∨ lo' = 65) ∧ (hi' = 98 ∨ hi' = 66) ∧ ∀ w, wd w → sb (sgF lo hi) (sb (sgF s1 s2) w) = sb (sgF lo' hi') w := by
 have key : ∀ lo' hi', (∀ c, isL c = true → sb (sgF lo hi) (sgF s1 s2 c) = sgF lo' hi' c) → ∀ w, wd w → sb (sgF lo hi) (sb (sgF s1 s2) w) = sb (sgF lo' hi') w := by
  intro lo' hi' h w hw
  rw [sb_sb]
  exact sb_congr (fun c hc => h c (hw c hc))
 rcases hs with hs | hs <;> cases hs
 ·refine ⟨iv lo, hi, ?_, hh, key _ _ ?_⟩
  ·rcases hl with rfl | rfl
   ·exact .inr rfl
   ·exact .inl rfl
  ·intro c hc
   rcases hl with rfl | rfl <;> rcases hh with rfl | rfl <;> rcases L4 hc with rfl | rfl | rfl | rfl <;> rfl
 ·refine ⟨lo, iv hi, hl, ?_, key _ _ ?_⟩
  ·rcases hh with rfl | rfl
   ·exact .inr rfl
   ·exact .inl rfl
  ·intro c hc
   rcases hl with rfl | rfl <;> rcases hh with rfl | rfl <;> rcases L4 hc with rfl | rfl | rfl | rfl <;> rfl
theorem shape_E {lo hi : Nat} (hl : lo = 97 ∨ lo = 65) (hh : hi = 98 ∨ hi = 66) {u v : List Nat} (a : wd u) (b : wd v) (h : chE u v = true) : Shape (Psi lo hi [] u) (Psi lo hi [] v) := by
 obtain ⟨⟨s1, s2⟩, hs, e⟩ := List.any_eq_true.mp h
 obtain ⟨t, _, e⟩ := List.any_eq_true.mp e
 obtain ⟨⟨x, y⟩, hp, e⟩ := List.any_eq_true.mp e
 obtain ⟨lx, ly⟩ := bet_L hp
 obtain ⟨l1, l2⟩ := sg_L hl hh
 have T := tau_hom t
 have hs' : (s1, s2) = (65, 98) ∨ (s1, s2) = (97, 66) := by simpa using hs
 have S : isL s1 = true ∧ isL s2 = true := by rcases hs' with q | q <;> cases q <;> exact ⟨rfl, rfl⟩
 have H := sgF_hom S.1 S.2
 have wx := T.wd x lx
 have wy := T.wd y ly
 have k := Psi_PC l1 l2 [] a b (sb_wd H wx) (sb_wd H wy) (pcB_PC a b (sb_wd H wx) (sb_wd H wy) e)
 obtain ⟨lo', hi', hl', hh', q⟩ := sg_sg hl hh hs'
 refine .mk lo' hi' [t] x y hl' hh' hp ?_
 have q2 : ∀ z, isL z = true → Psi lo' hi' [t] [z] = Psi lo hi [] (sb (sgF s1 s2) (tau t z)) := fun z hz => by
  show sb (sgF lo' hi') (sb (tau t) [z]) = sb (sgF lo hi) (sb (sgF s1 s2) (tau t z))
  rw [sb_one, q _ (T.wd z hz)]
 rw [q2 x lx, q2 y ly]; exact k
theorem shape_words {lo hi : Nat} (hl : lo = 97 ∨ lo = 65) (hh : hi = 98 ∨ hi = 66) (ps : List Bool) {u v : List Nat} (a : wd u) (b : wd v) (h : chAll u v = true) : Shape (Psi lo hi ps u) (Psi lo hi ps v) := by
 unfold chAll at h
 rcases Bool.or_eq_true_iff.mp h with h | h
 ·exact shape_AB hl hh ps a b h
 ·obtain ⟨e, k⟩ := Bool.and_eq_true_iff.mp h
  rcases List.eq_nil_or_concat ps with rfl | ⟨qs, t, rfl⟩
  ·exact shape_E hl hh a b e
  ·rw [List.concat_eq_append]
   have T := tau_hom t
   have k2 := List.all_eq_true.mp k t (by cases t <;> simp)
   have q : ∀ z, Psi lo hi (qs ++ [t]) z = Psi lo hi qs (sb (tau t) z) := fun z => by unfold Psi; rw [pth_snoc]
   rw [q, q]
   exact shape_AB hl hh qs (sb_wd T a) (sb_wd T b) k2
theorem Shape.of_PC {f g f' g' : List Nat} (a : wd f) (b : wd g) (k : PC f g f' g') (h : Shape f' g') : Shape f g := by
 obtain ⟨lo, hi, ps, x, y, hl, hh, hb, pc⟩ := h
 exact .mk lo hi ps x y hl hh hb (PC.trans a b k pc)
theorem let4_L {l : Nat} (h : isL l = true) : l ∈ let4 := by rcases L4 h with rfl | rfl | rfl | rfl <;> decide
theorem shape_all : ∀ xs : List Int, Shape (valOf (bookOf xs) 97) (valOf (bookOf xs) 98) := by
 intro xs
 refine snoc_ind (P := fun xs => Shape (valOf (bookOf xs) 97) (valOf (bookOf xs) 98)) shape0 ?_ xs
 intro xs x ih
 have B := book_ok xs
 have B' := bkStep_ok B x
 rw [book_snoc]
 have L := letX_L x
 have iw := (imX_ok x).1
 obtain ⟨_, _, _, _, hm⟩ := imX_mem x
 have wf := (valOf_ok B (c := 97) rfl).1
 have wg := (valOf_ok B (c := 98) rfl).1
 have wf' := (valOf_ok B' (c := 97) rfl).1
 have wg' := (valOf_ok B' (c := 98) rfl).1
 have e1 := bw_step B x (c := 97) rfl
 have e2 := bw_step B x (c := 98) rfl
 have Hp := phi_hom L iw
 have pr : ∀ w, wd w → sb (bw (bookOf xs)) w = sb (prF (valOf (bookOf xs) 97) (valOf (bookOf xs) 98)) w := by
  intro w hw
  refine sb_congr (fun c hc => ?_)
  have e65 : valOf (bookOf xs) 65 = valOf (bookOf xs) 97 := val_lw _ rfl
  have e66 : valOf (bookOf xs) 66 = valOf (bookOf xs) 98 := val_lw _ rfl
  rcases L4 (hw c hc) with rfl | rfl | rfl | rfl
  ·rfl
  ·rfl
  ·show back (valOf (bookOf xs) 65) = back (valOf (bookOf xs) 97)
   rw [e65]
  ·show back (valOf (bookOf xs) 66) = back (valOf (bookOf xs) 98)
   rw [e66]
 have wu := Hp.wd 97 rfl
 have wv := Hp.wd 98 rfl
 rw [pr _ wu] at e1
 rw [pr _ wv] at e2
 obtain ⟨lo, hi, ps, a, b, hl, hh, hb, pc⟩ := ih
 obtain ⟨la, lb⟩ := bet_L hb
 obtain ⟨l1, l2⟩ := sg_L hl hh
 have wF := Psi_wd l1 l2 ps (w1 la)
 have wG := Psi_wd l1 l2 ps (w1 lb)
 have k := pr_PC wf wg wF wG wu wv pc
 rw [Psi_pr ps l1 l2 la lb wu, Psi_pr ps l1 l2 la lb wv] at k
 have k0 : PC (valOf (bkStep (bookOf xs) x) 97) (valOf (bkStep (bookOf xs) x) 98) _ _ := pc_eqv e1.symm e2.symm
 have H2 := prF_hom (w1 la) (w1 lb)
 refine Shape.of_PC wf' wg' (PC.trans wf' wg' k0 k) ?_
 refine shape_words hl hh ps (sb_wd H2 wu) (sb_wd H2 wv) ?_
 have A := List.all_eq_true.mp ch_all _ hb
 have A2 := List.all_eq_true.mp A _ (let4_L L)
 exact List.all_eq_true.mp A2 _ hm
noncomputable def la (c : Nat) : Int := if c = 97 then 1 else if c = 65 then -1 else 0
noncomputable def lb (c : Nat) : Int := if c = 98 then 1 else if c = 66 then -1 else 0
noncomputable def sa : List Nat → Int
 | [] => 0
 | c :: w => la c + sa w
noncomputable def sB : List Nat → Int
 | [] => 0
 | c :: w => lb c + sB w
theorem sa_app : ∀ u v : List Nat, sa (u ++ v) = sa u + sa v
 | [], v => by show sa v = 0 + sa v; lia
 | c :: u, v => by show la c + sa (u ++ v) = la c + sa u + sa v; rw [sa_app u v]; lia
theorem sB_app : ∀ u v : List Nat, sB (u ++ v) = sB u + sB v
 | [], v => by show sB v = 0 + sB v; lia
 | c :: u, v => by show lb c + sB (u ++ v) = lb c + sB u + sB v; rw [sB_app u v]; lia
theorem la_iv {c : Nat} (h : isL c = true) : la (iv c) = -la c := by rcases L4 h with rfl | rfl | rfl | rfl <;> rfl
theorem lb_iv {c : Nat} (h : isL c = true) : lb (iv c) = -lb c := by rcases L4 h with rfl | rfl | rfl | rfl <;> rfl
theorem sa_rp (st : List Nat) {c : Nat} (h : isL c = true) : sa (rp st c) = sa st + la c := by
 cases st with
 | nil => show la c + 0 = 0 + la c; lia
 | cons d v =>
  by_cases e : d = iv c
  ·rw [rp_hit e]; show sa v = la d + sa v + la c; rw [e, la_iv h]; lia
  ·rw [rp_miss e]; show la c + (la d + sa v) = la d + sa v + la c; lia
theorem sB_rp (st : List Nat) {c : Nat} (h : isL c = true) : sB (rp st c) = sB st + lb c := by
 cases st with
 | nil => show lb c + 0 = 0 + lb c; lia
 | cons d v =>
  by_cases e : d = iv c
  ·rw [rp_hit e]; show sB v = lb d + sB v + lb c; rw [e, lb_iv h]; lia
  ·rw [rp_miss e]; show lb c + (lb d + sB v) = lb d + sB v + lb c; lia
theorem sa_run : ∀ {w : List Nat} (st : List Nat), wd w → sa (run st w) = sa st + sa w
 | [], st, _ => by show sa st = sa st + 0; lia
 | c :: w, st, h => by
  obtain ⟨a, b⟩ := wd_cons.mp h
  rw [run_cons, sa_run _ b, sa_rp _ a]; show _ = sa st + (la c + sa w); lia
theorem sB_run : ∀ {w : List Nat} (st : List Nat), wd w → sB (run st w) = sB st + sB w
 | [], st, _ => by show sB st = sB st + 0; lia
 | c :: w, st, h => by
  obtain ⟨a, b⟩ := wd_cons.mp h
  rw [run_cons, sB_run _ b, sB_rp _ a]; show _ = sB st + (lb c + sB w); lia
theorem sa_rev : ∀ w : List Nat, sa w.reverse = sa w
 | [] => rfl
 | c :: w => by rw [List.reverse_cons, sa_app, sa_rev w]; show sa w + (la c + 0) = la c + sa w; lia
theorem sB_rev : ∀ w : List Nat, sB w.reverse = sB w
 | [] => rfl
 | c :: w => by rw [List.reverse_cons, sB_app, sB_rev w]; show sB w + (lb c + 0) = lb c + sB w; lia
theorem sa_norm {w : List Nat} (h : wd w) : sa (norm w) = sa w := by unfold norm; rw [sa_rev, sa_run _ h]; show 0 + sa w = _; lia
theorem sB_norm {w : List Nat} (h : wd w) : sB (norm w) = sB w := by unfold norm; rw [sB_rev, sB_run _ h]; show 0 + sB w = _; lia
theorem sa_eqv {u v : List Nat} (a : wd u) (b : wd v) (e : Eqv u v) : sa u = sa v := by rw [← sa_norm a, ← sa_norm b, norm_of_eqv e]
theorem sB_eqv {u v : List Nat} (a : wd u) (b : wd v) (e : Eqv u v) : sB u = sB v := by rw [← sB_norm a, ← sB_norm b, norm_of_eqv e]
theorem sa_back : ∀ {w : List Nat}, wd w → sa (back w) = -sa w
 | [], _ => rfl
 | c :: w, h => by
  obtain ⟨a, b⟩ := wd_cons.mp h
  have e : back (c :: w) = back w ++ [iv c] := by simp [back]
  rw [e, sa_app, sa_back b]
  show -sa w + (la (iv c) + 0) = -(la c + sa w)
  rw [la_iv a]; lia
theorem sB_back : ∀ {w : List Nat}, wd w → sB (back w) = -sB w
 | [], _ => rfl
 | c :: w, h => by
  obtain ⟨a, b⟩ := wd_cons.mp h
  have e : back (c :: w) = back w ++ [iv c] := by simp [back]
  rw [e, sB_app, sB_back b]
  show -sB w + (lb (iv c) + 0) = -(lb c + sB w)
  rw [lb_iv a]; lia
theorem sa_cj {h w : List Nat} (a : wd h) : sa (cj h w) = sa w := by unfold cj; rw [sa_app, sa_app, sa_back a]; lia
theorem sB_cj {h w : List Nat} (a : wd h) : sB (cj h w) = sB w := by unfold cj; rw [sB_app, sB_app, sB_back a]; lia
theorem sa_sb {φ : Nat → List Nat} (H : Hom φ) : ∀ {w : List Nat}, wd w → sa (sb φ w) = sa w * sa (φ 97) + sB w * sa (φ 98)
 | [], _ => by rw [sb_nil]; simp [sa, sB]
 | c :: w, h => by
  obtain ⟨a, b⟩ := wd_cons.mp h
  rw [sb_cons, sa_app, sa_sb H b]
  have one : sa (φ c) = la c * sa (φ 97) + lb c * sa (φ 98) := by
   rcases L4 a with rfl | rfl | rfl | rfl
   ·simp [la, lb]
   ·simp [la, lb]
   ·have e := H.iv 97 rfl
    rw [show iv 97 = 65 from rfl] at e
    rw [e, sa_back (H.wd 97 rfl)]; simp [la, lb]
   ·have e := H.iv 98 rfl
    rw [show iv 98 = 66 from rfl] at e
    rw [e, sa_back (H.wd 98 rfl)]; simp [la, lb]
  show _ = (la c + sa w) * sa (φ 97) + (lb c + sB w) * sa (φ 98)
  rw [one, Int.add_mul, Int.add_mul]; lia
theorem sB_sb {φ : Nat → List Nat} (H : Hom φ) : ∀ {w : List Nat}, wd w → sB (sb φ w) = sa w * sB (φ 97) + sB w * sB (φ 98)
 | [], _ => by rw [sb_nil]; simp [sa, sB]
 | c :: w, h => by
  obtain ⟨a, b⟩ := wd_cons.mp h
  rw [sb_cons, sB_app, sB_sb H b]
  have one : sB (φ c) = la c * sB (φ 97) + lb c * sB (φ 98) := by
   rcases L4 a with rfl | rfl | rfl | rfl
   ·simp [la, lb]
   ·simp [la, lb]
   ·have e := H.iv 97 rfl
    rw [show iv 97 = 65 from rfl] at e
    rw [e, sB_back (H.wd 97 rfl)]; simp [la, lb]
   ·have e := H.iv 98 rfl
    rw [show iv 98 = 66 from rfl] at e
    rw [e, sB_back (H.wd 98 rfl)]; simp [la, lb]
  show _ = (la c + sa w) * sB (φ 97) + (lb c + sB w) * sB (φ 98)
  rw [one, Int.add_mul, Int.add_mul]; lia
noncomputable def SumOk (rows : Bk) (s : SS) : Prop := s.1 = (sa (valOf rows 97), sB (valOf rows 97)) ∧ s.2 = (sa (valOf rows 98), sB (valOf rows 98))
theorem row_ok {rows : Bk} {s : SS} (h : SumOk rows s) {c : Nat} (hc : isL c = true) : rowOf s c = (sa (valOf rows c), sB (valOf rows c)) := by
 have e65 : valOf rows 65 = valOf rows 97 := val_lw _ rfl
 have e66 : valOf rows 66 = valOf rows 98 := val_lw _ rfl
 rcases L4 hc with rfl | rfl | rfl | rfl
 ·exact h.1
 ·exact h.2
 ·rw [e65]; exact h.1
 ·rw [e66]; exact h.2
theorem add_ok {rows : Bk} {n : Nat} (B : BkOk rows n) {s : SS} (h : SumOk rows s) (l : Nat) : ∀ {w : List Nat} (acc : Int × Int), wd w →
  w.foldl (addv l s) acc = if isS l then (acc.1 + sa (sb (bw rows) w), acc.2 + sB (sb (bw rows) w)) else (acc.1 - sa (sb (bw rows) w), acc.2 - sB (sb (bw rows) w))
 | [], acc, _ => by
  rw [sb_nil]
  show acc = _
  split
  ·show acc = (acc.1 + 0, acc.2 + 0); simp
  ·show acc = (acc.1 - 0, acc.2 - 0); simp
 | c :: w, acc, hw => by
  obtain ⟨a, b⟩ := wd_cons.mp hw
  rw [List.foldl_cons, add_ok B h l _ b, sb_cons, sa_app, sB_app]
  unfold addv
  rw [row_ok h a]
  have wv := (valOf_ok B a).1
  unfold sgnOf bw
  cases hs : isS c <;> cases hl : isS l
  ·simp only [Bool.false_eq_true, if_false]
   rw [sa_back wv, sB_back wv]
   simp; constructor <;> lia
  ·simp only [Bool.false_eq_true, if_false, if_true]
   rw [sa_back wv, sB_back wv]
   simp; constructor <;> lia
  ·simp; constructor <;> lia
  ·simp; constructor <;> lia
theorem sum_step {rows : Bk} {n : Nat} (B : BkOk rows n) {s : SS} (h : SumOk rows s) (x : Int) : SumOk (bkStep rows x) (stepS s x) := by
 have L := letX_L x
 have iw := (imX_ok x).1
 have ww := (wordX_ok x).1
 have H := bw_hom B
 have nv : newv (letX x) (imX x) s = (sa (newX rows x), sB (newX rows x)) := by
  have e : newX rows x = norm (sb (bw rows) (wordX x)) := prod_norm _
  rw [e, sa_norm (sb_wd H ww), sB_norm (sb_wd H ww)]
  unfold newv wordX
  rw [add_ok B h _ _ iw]
  cases isS (letX x) with
  | true => simp
  | false =>
   simp only [Bool.false_eq_true, if_false]
   rw [sb_back H iw, sa_back (sb_wd H iw), sB_back (sb_wd H iw)]
   simp
 have v1 := val_step rows x 97
 have v2 := val_step rows x 98
 unfold stepS setv
 rw [nv]
 have e : (ix (letX x) % 2 = 0 ∧ lw (letX x) = 97) ∨ (ix (letX x) % 2 ≠ 0 ∧ lw (letX x) = 98) := by rcases L4 L with q | q | q | q <;> rw [q] <;> decide
 rcases e with ⟨e1, e2⟩ | ⟨e1, e2⟩
 ·rw [if_pos e1]
  rw [e2, if_pos (show lw 97 = 97 from rfl)] at v1
  rw [e2, if_neg (show lw 98 ≠ 97 by decide)] at v2
  exact ⟨by rw [v1], by rw [v2]; exact h.2⟩
 ·rw [if_neg e1]
  rw [e2, if_neg (show lw 97 ≠ 98 by decide)] at v1
  rw [e2, if_pos (show lw 98 = 98 from rfl)] at v2
  exact ⟨by rw [v1]; exact h.1, by rw [v2]⟩
theorem sums_ok (xs : List Int) : SumOk (bookOf xs) (sumsOf xs) := by
 refine snoc_ind (P := fun xs => SumOk (bookOf xs) (sumsOf xs)) ⟨by decide, by decide⟩ ?_ xs
 intro xs x ih
 have e : sumsOf (xs ++ [x]) = stepS (sumsOf xs) x := by unfold sumsOf; rw [List.foldl_append]; rfl
 rw [book_snoc, e]
 exact sum_step (book_ok xs) ih x
noncomputable def pos (w : List Nat) : Prop := ∀ c ∈ w, c = 97 ∨ c = 98
theorem pos_wd {w : List Nat} (h : pos w) : wd w := fun c hc => by rcases h c hc with rfl | rfl <;> rfl
theorem gen_pos (p q : Nat) : ∀ m t, pos (gen p q m t)
 | 0, _ => fun c hc => by cases hc
 | m + 1, t => by
  intro c hc
  have e : gen p q (m + 1) t = if t < p then 97 :: gen p q m (t + q) else 98 :: gen p q m (t - p) := rfl
  rw [e] at hc
  split at hc
  ·rcases List.mem_cons.mp hc with h | h
   ·exact .inl h
   ·exact gen_pos p q m _ c h
  ·rcases List.mem_cons.mp hc with h | h
   ·exact .inr h
   ·exact gen_pos p q m _ c h
theorem line_pos (p q : Nat) : pos (line p q) := gen_pos p q _ _
theorem tau_line (t : Bool) {p q : Nat} (h : 0 < p + q) : sb (tau t) (line p q) = if t then line p (p + q) else line (p + q) q := by
 cases t with
 | true =>
  rw [if_pos rfl, ← line_D p q h]
  refine sb_congr (fun c hc => ?_)
  rcases line_pos p q c hc with rfl | rfl <;> rfl
 | false =>
  rw [if_neg (by decide), ← line_G p q h]
  refine sb_congr (fun c hc => ?_)
  rcases line_pos p q c hc with rfl | rfl <;> rfl
theorem pos_tau (t : Bool) {w : List Nat} (h : pos w) : pos (sb (tau t) w) := by
 intro c hc
 obtain ⟨l, hl, hc⟩ := List.mem_flatten.mp hc
 obtain ⟨d, hd, rfl⟩ := List.mem_map.mp hl
 cases t <;> rcases h d hd with rfl | rfl <;> simp [tau, phi, iv] at hc <;> lia
theorem pth_line : ∀ (ps : List Bool) {x : Nat}, x = 97 ∨ x = 98 → ∃ p q, 0 < p + q ∧ pth ps [x] = line p q
 | [], x, h => by
  rcases h with rfl | rfl
  ·exact ⟨1, 0, by decide, rfl⟩
  ·exact ⟨0, 1, by decide, rfl⟩
 | t :: ps, x, h => by
  obtain ⟨p, q, hp, e⟩ := pth_line ps h
  show ∃ p q, 0 < p + q ∧ sb (tau t) (pth ps [x]) = line p q
  rw [e, tau_line t hp]
  cases t with
  | true => exact ⟨p, p + q, by omega, rfl⟩
  | false => exact ⟨p + q, q, by omega, rfl⟩
noncomputable def kk (t : Bool) : Nat := if t then 98 else 65
theorem rev_one : ([true, false].all fun t => [97, 98].all fun c => norm (tau t c).reverse == norm (cj [kk t] (tau t c))) = true := by decide +kernel
theorem kk_wd (t : Bool) : wd [kk t] := by cases t <;> exact w1 rfl
theorem wd_rev {w : List Nat} (h : wd w) : wd w.reverse := fun c hc => h c (List.mem_reverse.mp hc)
theorem rev_tau (t : Bool) : ∀ {w : List Nat}, pos w → Eqv (sb (tau t) w).reverse (cj [kk t] (sb (tau t) w.reverse))
 | [], _ => by
  show Eqv [] ([kk t] ++ ([] ++ back [kk t]))
  exact (eqv_back (kk_wd t)).symm
 | c :: w, h => by
  have hw : pos w := fun d hd => h d (List.mem_cons_of_mem _ hd)
  have hc := h c List.mem_cons_self
  have lc : isL c = true := by rcases hc with rfl | rfl <;> rfl
  have T := tau_hom t
  have o := List.all_eq_true.mp (List.all_eq_true.mp rev_one t (by cases t <;> simp)) c (by rcases hc with rfl | rfl <;> simp)
  have o2 : Eqv (tau t c).reverse (cj [kk t] (tau t c)) := eqv_of_norm (wd_rev (T.wd c lc)) (cj_wd (kk_wd t) (T.wd c lc)) (beq_iff_eq.mp o)
  rw [sb_cons, List.reverse_append, List.reverse_cons, sb_app, sb_one]
  have wr : wd (sb (tau t) w.reverse) := sb_wd T (wd_rev (pos_wd hw))
  exact (Eqv.app (wd_rev (sb_wd T (pos_wd hw))) (rev_tau t hw) o2).trans (cj_app (kk_wd t) wr (T.wd c lc))
theorem rev_pth : ∀ (ps : List Bool) {x : Nat}, x = 97 ∨ x = 98 → pos (pth ps [x]) ∧ ∃ h, wd h ∧ Eqv (cj h (pth ps [x])) (pth ps [x]).reverse
 | [], x, hx => ⟨fun c hc => by rw [List.mem_singleton.mp hc]; exact hx, [], wd_nil, by rw [cj_nil]; exact Eqv.refl _⟩
 | t :: ps, x, hx => by
  obtain ⟨P, h, hh, e⟩ := rev_pth ps hx
  have T := tau_hom t
  refine ⟨pos_tau t P, [kk t] ++ sb (tau t) h, wd_app.mpr ⟨kk_wd t, sb_wd T hh⟩, ?_⟩
  show Eqv (cj _ (sb (tau t) (pth ps [x]))) (sb (tau t) (pth ps [x])).reverse
  rw [← cj_cj, ← cj_sb T hh]
  have wp := pos_wd P
  have e2 := sb_eqv T (cj_wd hh wp) (wd_rev wp) e
  exact (cj_eqv (kk_wd t) (sb_wd T (cj_wd hh wp)) e2).trans (rev_tau t P).symm
theorem Cj.symm {u v : List Nat} (wu : wd u) (wv : wd v) (k : Cj u v) : Cj v u := by
 obtain ⟨h, hh, e⟩ := k
 refine ⟨back h, wd_back hh, ?_⟩
 have e1 : Eqv (cj (back h) (cj h u)) (cj (back h) v) := cj_eqv (wd_back hh) (cj_wd hh wu) e
 rw [cj_cj] at e1
 refine Eqv.trans (Eqv.symm e1) ?_
 have b : Eqv (back h ++ h) [] := eqv_back' hh
 have wbh : wd (back h ++ h) := wd_app.mpr ⟨wd_back hh, hh⟩
 have c : Eqv (back (back h ++ h)) [] := by
  have := eqv_bk wbh wd_nil b
  exact this
 have := Eqv.app wbh b (Eqv.app wu (Eqv.refl u) c)
 rw [List.append_nil, List.nil_append] at this
 exact this
theorem Cj.trans {u v w : List Nat} (wu : wd u) (a : Cj u v) (b : Cj v w) : Cj u w := by
 obtain ⟨h, hh, e⟩ := a
 obtain ⟨k, hk, f⟩ := b
 refine ⟨k ++ h, wd_app.mpr ⟨hk, hh⟩, ?_⟩
 show Eqv (cj (k ++ h) u) w
 rw [← cj_cj]
 exact (cj_eqv hk (cj_wd hh wu) e).trans f
theorem Cj.sb {φ : Nat → List Nat} (H : Hom φ) {u v : List Nat} (wu : wd u) (wv : wd v) (k : Cj u v) : Cj (sb φ u) (sb φ v) := by
 obtain ⟨h, hh, e⟩ := k
 refine ⟨Mine.sb φ h, sb_wd H hh, ?_⟩
 show Eqv (cj _ _) _
 rw [← cj_sb H hh]
 exact sb_eqv H (cj_wd hh wu) wv e
theorem Cj.back {u v : List Nat} (wu : wd u) (wv : wd v) (k : Cj u v) : Cj (back u) (back v) := by
 obtain ⟨h, hh, e⟩ := k
 refine ⟨h, hh, ?_⟩
 show Eqv (cj _ _) _
 rw [← cj_back hh wu]
 exact eqv_bk (cj_wd hh wu) wv e
theorem Cj.sums {u v : List Nat} (wu : wd u) (wv : wd v) (k : Cj u v) : sa u = sa v ∧ sB u = sB v := by
 obtain ⟨h, hh, e⟩ := k
 have a := sa_eqv (cj_wd hh wu) wv e
 have b := sB_eqv (cj_wd hh wu) wv e
 rw [sa_cj hh] at a
 rw [sB_cj hh] at b
 exact ⟨a, b⟩
theorem sg_map {lo hi : Nat} : ∀ {w : List Nat}, pos w → sb (sgF lo hi) w = w.map (sg2 lo hi)
 | [], _ => rfl
 | c :: w, h => by
  rw [sb_cons, sg_map (fun d hd => h d (List.mem_cons_of_mem _ hd)), List.map_cons]
  rcases h c List.mem_cons_self with rfl | rfl <;> rfl
theorem sg_mapiv {lo hi : Nat} : ∀ {w : List Nat}, pos w → sb (sgF lo hi) (w.map iv) = w.map (sg2 (iv lo) (iv hi))
 | [], _ => rfl
 | c :: w, h => by
  rw [List.map_cons, sb_cons, sg_mapiv (fun d hd => h d (List.mem_cons_of_mem _ hd)), List.map_cons]
  rcases h c List.mem_cons_self with rfl | rfl <;> rfl
theorem back_rev (w : List Nat) : back w.reverse = w.map iv := by unfold back; rw [List.map_reverse, List.reverse_reverse]
theorem Psi_line {lo hi x : Nat} (hl : lo = 97 ∨ lo = 65) (hh : hi = 98 ∨ hi = 66) (ps : List Bool) (hx : isL x = true) :
  ∃ p q lo' hi', 0 < p + q ∧ (lo' = 97 ∨ lo' = 65) ∧ (hi' = 98 ∨ hi' = 66) ∧ Cj (Psi lo hi ps [x]) ((line p q).map (sg2 lo' hi')) := by
 have P : (x = 97 ∨ x = 98) ∨ ∃ y, (y = 97 ∨ y = 98) ∧ [x] = back [y] := by
  rcases L4 hx with rfl | rfl | rfl | rfl
  ·exact .inl (.inl rfl)
  ·exact .inl (.inr rfl)
  ·exact .inr ⟨97, .inl rfl, rfl⟩
  ·exact .inr ⟨98, .inr rfl, rfl⟩
 rcases P with h | ⟨y, hy, e⟩
 ·obtain ⟨p, q, hp, e⟩ := pth_line ps h
  refine ⟨p, q, lo, hi, hp, hl, hh, ?_⟩
  unfold Psi
  rw [e, sg_map (line_pos p q)]
  exact ⟨[], wd_nil, by show Eqv ([] ++ (_ ++ [])) _; rw [List.append_nil]; exact Eqv.refl _⟩
 ·obtain ⟨p, q, hp, e2⟩ := pth_line ps hy
  obtain ⟨l1, l2⟩ := sg_L hl hh
  have ly : isL y = true := by rcases hy with rfl | rfl <;> rfl
  obtain ⟨P, h, hw, k⟩ := rev_pth ps hy
  refine ⟨p, q, iv lo, iv hi, hp, ?_, ?_, ?_⟩
  ·rcases hl with rfl | rfl
   ·exact .inr rfl
   ·exact .inl rfl
  ·rcases hh with rfl | rfl
   ·exact .inr rfl
   ·exact .inl rfl
  ·unfold Psi
   rw [e, pth_back ps (w1 ly)]
   rw [e2] at k ⊢
   have wl := pos_wd (line_pos p q)
   have c1 : Cj (line p q) (line p q).reverse := ⟨h, hw, k⟩
   have c2 := Cj.back wl (wd_rev wl) c1
   rw [back_rev] at c2
   have c3 := Cj.sb (sgF_hom l1 l2) (wd_back wl) (by rw [← back_rev]; exact wd_back (wd_rev wl)) c2
   rw [sg_mapiv (line_pos p q)] at c3
   exact c3
theorem lh_ne {lo hi c d : Nat} (hl : lo = 97 ∨ lo = 65) (hh : hi = 98 ∨ hi = 66) (a : c = lo ∨ c = hi) (b : d = lo ∨ d = hi) : c ≠ iv d := by
 rcases hl with rfl | rfl <;> rcases hh with rfl | rfl <;> rcases a with rfl | rfl <;> rcases b with rfl | rfl <;> decide
theorem lh_L {lo hi c : Nat} (hl : lo = 97 ∨ lo = 65) (hh : hi = 98 ∨ hi = 66) (a : c = lo ∨ c = hi) : isL c = true := by
 rcases hl with rfl | rfl <;> rcases hh with rfl | rfl <;> rcases a with rfl | rfl <;> rfl
theorem lh_Rd {lo hi : Nat} (hl : lo = 97 ∨ lo = 65) (hh : hi = 98 ∨ hi = 66) : ∀ {w : List Nat}, (∀ c ∈ w, c = lo ∨ c = hi) → Rd w
 | [], _ => trivial
 | [c], h => lh_L hl hh (h c List.mem_cons_self)
 | d :: c :: v, h => ⟨lh_L hl hh (h d List.mem_cons_self), lh_ne hl hh (h d (by simp)) (h c (by simp)), lh_Rd hl hh (w := c :: v) (fun e he => h e (List.mem_cons_of_mem _ he))⟩
theorem lh_co {lo hi : Nat} (hl : lo = 97 ∨ lo = 65) (hh : hi = 98 ∨ hi = 66) {w : List Nat} (h : ∀ c ∈ w, c = lo ∨ c = hi) : co w = w := by
 rcases ends w with rfl | ⟨c, rfl⟩ | ⟨c, v, e, rfl⟩
 ·exact core_nil _
 ·exact co_one c
 ·exact co_fix v (lh_ne hl hh (h c (by simp)) (h e (by simp)))
theorem sg2_mem {lo hi : Nat} (w : List Nat) : ∀ c ∈ w.map (sg2 lo hi), c = lo ∨ c = hi := by
 intro c hc
 obtain ⟨d, _, rfl⟩ := List.mem_map.mp hc
 unfold sg2
 split
 ·exact .inl rfl
 ·exact .inr rfl
theorem sg2_sa {lo hi : Nat} (hl : lo = 97 ∨ lo = 65) (hh : hi = 98 ∨ hi = 66) : ∀ {w : List Nat}, pos w → sa (w.map (sg2 lo hi)) = (w.count 97 : Int) * la lo
 | [], _ => by show (0 : Int) = ((0 : Nat) : Int) * la lo; simp
 | c :: w, h => by
  rw [List.map_cons]
  show la (sg2 lo hi c) + sa (w.map (sg2 lo hi)) = _
  rw [sg2_sa hl hh (fun d hd => h d (List.mem_cons_of_mem _ hd))]
  rcases h c List.mem_cons_self with rfl | rfl
  ·rw [List.count_cons_self, show sg2 lo hi 97 = lo from rfl, Int.natCast_add, Int.add_mul]; simp; lia
  ·rw [List.count_cons_of_ne (by decide), show sg2 lo hi 98 = hi from rfl]
   have : la hi = 0 := by rcases hh with rfl | rfl <;> rfl
   rw [this]; lia
theorem sg2_sB {lo hi : Nat} (hl : lo = 97 ∨ lo = 65) (hh : hi = 98 ∨ hi = 66) : ∀ {w : List Nat}, pos w → sB (w.map (sg2 lo hi)) = (w.count 98 : Int) * lb hi
 | [], _ => by show (0 : Int) = ((0 : Nat) : Int) * lb hi; simp
 | c :: w, h => by
  rw [List.map_cons]
  show lb (sg2 lo hi c) + sB (w.map (sg2 lo hi)) = _
  rw [sg2_sB hl hh (fun d hd => h d (List.mem_cons_of_mem _ hd))]
  rcases h c List.mem_cons_self with rfl | rfl
  ·rw [List.count_cons_of_ne (by decide), show sg2 lo hi 97 = lo from rfl]
   have : lb lo = 0 := by rcases hl with rfl | rfl <;> rfl
   rw [this]; lia
  ·rw [List.count_cons_self, show sg2 lo hi 98 = hi from rfl, Int.natCast_add, Int.add_mul]; simp; lia
theorem lineL_is {p q lo hi : Nat} (hp : 0 < p + q) (hl : lo = 97 ∨ lo = 65) (hh : hi = 98 ∨ hi = 66) : lineL ((p : Int) * la lo) ((q : Int) * lb hi) = (line p q).map (sg2 lo hi) := by
 have a : ((p : Int) * la lo).natAbs = p := by rcases hl with rfl | rfl <;> simp [la]
 have b : ((q : Int) * lb hi).natAbs = q := by rcases hh with rfl | rfl <;> simp [lb]
 rw [lineL_line _ _ (by rw [a, b]; lia), a, b]
 obtain ⟨c1, c2⟩ := line_cnt p q hp
 apply List.map_congr_left
 intro c hc
 have k := List.count_pos_iff.mpr hc
 rcases line_pos p q c hc with rfl | rfl
 ·rw [c1] at k
  show (if 0 < (p : Int) * la lo then 97 else 65) = lo
  rcases hl with rfl | rfl
  ·rw [if_pos (by simp [la]; exact k)]
  ·rw [if_neg (by simp [la])]
 ·rw [c2] at k
  show (if 0 < (q : Int) * lb hi then 98 else 66) = hi
  rcases hh with rfl | rfl
  ·rw [if_pos (by simp [lb]; exact k)]
  ·rw [if_neg (by simp [lb])]
theorem ring_line {f : List Nat} {lo hi x : Nat} (wf : wd f) (nf : norm f = f) (hl : lo = 97 ∨ lo = 65) (hh : hi = 98 ∨ hi = 66) (ps : List Bool) (hx : isL x = true) (k : Cj f (Psi lo hi ps [x])) :
  ringB f (lineL (sa f) (sB f)) = true := by
 obtain ⟨p, q, lo', hi', hp, hl', hh', c⟩ := Psi_line hl hh ps hx
 have c2 := Cj.trans wf k c
 have R := lh_Rd hl' hh' (sg2_mem (lo := lo') (hi := hi') (line p q))
 obtain ⟨s1, s2⟩ := Cj.sums wf R.wd c2
 obtain ⟨n1, n2⟩ := line_cnt p q hp
 rw [sg2_sa hl' hh' (line_pos p q), n1] at s1
 rw [sg2_sB hl' hh' (line_pos p q), n2] at s2
 rw [s1, s2, lineL_is hp hl' hh']
 exact ringB_of (ring_of R.wd (Rd_norm R) (lh_co hl' hh' (sg2_mem _)) nf (Cj.symm wf R.wd c2))
theorem plain_r (xs : List Int) : ringB (fstW xs) (lineL (sumsOf xs).1.1 (sumsOf xs).1.2) = true ∧ ringB (sndW xs) (lineL (sumsOf xs).2.1 (sumsOf xs).2.2) = true := by
 have B := book_ok xs
 obtain ⟨s1, s2⟩ := sums_ok xs
 obtain ⟨lo, hi, ps, x, y, hl, hh, hb, h, hh2, e1, e2⟩ := shape_all xs
 obtain ⟨lx, ly⟩ := bet_L hb
 have e : sndW xs = valOf (bookOf xs) 98 := val_lw _ rfl
 rw [s1, s2, e]
 exact ⟨ring_line (valOf_ok B rfl).1 (val_norm xs 97 rfl) hl hh ps lx ⟨h, hh2, e1⟩, ring_line (valOf_ok B rfl).1 (val_norm xs 98 rfl) hl hh ps ly ⟨h, hh2, e2⟩⟩
noncomputable def rg (e : Int) : List Nat := if e = 1 then [97, 98, 65, 66] else [98, 97, 66, 65]
noncomputable def comm (x y : Nat) : List Nat := [x, y, iv x, iv y]
noncomputable def det2 (u v : List Nat) : Int := sa u * sB v - sB u * sa v
noncomputable def cjB (u v : List Nat) : Bool := hsL.any fun h => norm (cj h u) == norm v
theorem cjB_Cj {u v : List Nat} (a : wd u) (b : wd v) (h : cjB u v = true) : Cj u v := by
 obtain ⟨k, hk, e⟩ := List.any_eq_true.mp h
 exact ⟨k, hs_wd k hk, eqv_of_norm (cj_wd (hs_wd k hk) a) b (beq_iff_eq.mp e)⟩
theorem rg_wd (e : Int) : wd (rg e) := by
 unfold rg
 split
 ·exact wd_cons.mpr ⟨rfl, wd_cons.mpr ⟨rfl, wd_cons.mpr ⟨rfl, wd_cons.mpr ⟨rfl, wd_nil⟩⟩⟩⟩
 ·exact wd_cons.mpr ⟨rfl, wd_cons.mpr ⟨rfl, wd_cons.mpr ⟨rfl, wd_cons.mpr ⟨rfl, wd_nil⟩⟩⟩⟩
theorem comm_wd {x y : Nat} (hx : isL x = true) (hy : isL y = true) : wd (comm x y) := wd_cons.mpr ⟨hx, wd_cons.mpr ⟨hy, wd_cons.mpr ⟨iv_L hx, wd_cons.mpr ⟨iv_L hy, wd_nil⟩⟩⟩⟩
theorem comm0 : (betL.all fun p => (det2 [p.1] [p.2] == 1 || det2 [p.1] [p.2] == -1) && cjB (comm p.1 p.2) (rg (det2 [p.1] [p.2]))) = true := by decide +kernel
theorem comm1 : ([true, false].all fun t => [(1 : Int), -1].all fun e => cjB (sb (tau t) (rg e)) (rg e)) = true := by decide +kernel
theorem comm2 : ([97, 65].all fun lo => [98, 66].all fun hi => [(1 : Int), -1].all fun e => cjB (sb (sgF lo hi) (rg e)) (rg (e * (la lo * lb hi)))) = true := by decide +kernel
theorem tau_sa (t : Bool) {w : List Nat} (h : wd w) : sa (sb (tau t) w) = if t then sa w else sa w + sB w := by
 rw [sa_sb (tau_hom t) h]
 cases t
 ·show sa w * 1 + sB w * 1 = sa w + sB w; lia
 ·show sa w * 1 + sB w * 0 = sa w; lia
theorem tau_sB (t : Bool) {w : List Nat} (h : wd w) : sB (sb (tau t) w) = if t then sa w + sB w else sB w := by
 rw [sB_sb (tau_hom t) h]
 cases t
 ·show sa w * 0 + sB w * 1 = sB w; lia
 ·show sa w * 1 + sB w * 1 = sa w + sB w; lia
theorem tau_det (t : Bool) {u v : List Nat} (a : wd u) (b : wd v) : det2 (sb (tau t) u) (sb (tau t) v) = det2 u v := by
 unfold det2
 rw [tau_sa t a, tau_sa t b, tau_sB t a, tau_sB t b]
 cases t
 ·show (sa u + sB u) * sB v - sB u * (sa v + sB v) = _
  rw [Int.add_mul, Int.mul_add]; lia
 ·show sa u * (sa v + sB v) - (sa u + sB u) * sa v = _
  rw [Int.add_mul, Int.mul_add]; lia
theorem sg_sa {lo hi : Nat} (hl : lo = 97 ∨ lo = 65) (hh : hi = 98 ∨ hi = 66) {w : List Nat} (h : wd w) : sa (sb (sgF lo hi) w) = sa w * la lo ∧ sB (sb (sgF lo hi) w) = sB w * lb hi := by
 obtain ⟨l1, l2⟩ := sg_L hl hh
 rw [sa_sb (sgF_hom l1 l2) h, sB_sb (sgF_hom l1 l2) h]
 show sa w * (la lo + 0) + sB w * (la hi + 0) = _ ∧ sa w * (lb lo + 0) + sB w * (lb hi + 0) = _
 have a : la hi = 0 := by rcases hh with rfl | rfl <;> rfl
 have b : lb lo = 0 := by rcases hl with rfl | rfl <;> rfl
 rw [a, b]; simp
theorem pth_comm : ∀ (ps : List Bool) {x y : Nat}, (x, y) ∈ betL → (det2 (pth ps [x]) (pth ps [y]) = 1 ∨ det2 (pth ps [x]) (pth ps [y]) = -1) ∧ Cj (pth ps (comm x y)) (rg (det2 (pth ps [x]) (pth ps [y])))
  | [], x, y, h => by
    obtain ⟨lx, ly⟩ := bet_L h
    obtain ⟨a, b⟩ := Bool.and_eq_true_iff.mp (List.all_eq_true.mp comm0 _ h)
    exact ⟨by have a2 : det2 [x] [y] = 1 ∨ det2 [x] [y] = -1 := by simpa using a
              exact a2, cjB_Cj (comm_wd lx ly) (rg_wd _) b⟩
  | t :: ps, x, y, h => by
    obtain ⟨lx, ly⟩ := bet_L h
    obtain ⟨a, b⟩ := pth_comm ps h
    have T := tau_hom t
    have wx := pth_wd ps (w1 lx)
    have wy := pth_wd ps (w1 ly)
    have wc := pth_wd ps (comm_wd lx ly)
    show (det2 (sb (tau t) (pth ps [x])) (sb (tau t) (pth ps [y])) = 1 ∨ det2 (sb (tau t) (pth ps [x])) (sb (tau t) (pth ps [y])) = -1) ∧ Cj (sb (tau t) (pth ps (comm x y))) (rg (det2 (sb (tau t) (pth ps [x])) (sb (tau t) (pth ps [y]))))
    rw [tau_det t wx wy]
    refine ⟨a, ?_⟩
    generalize det2 (pth ps [x]) (pth ps [y]) = e at *
    have c1 := Cj.sb T wc (rg_wd _) b
    have o := List.all_eq_true.mp (List.all_eq_true.mp comm1 t (by cases t <;> simp)) e (by rcases a with rfl | rfl <;> simp)
    exact Cj.trans (sb_wd T wc) c1 (cjB_Cj (sb_wd T (rg_wd _)) (rg_wd _) o)
theorem Psi_comm {lo hi x y : Nat} (hl : lo = 97 ∨ lo = 65) (hh : hi = 98 ∨ hi = 66) (ps : List Bool) (h : (x, y) ∈ betL) : Cj (Psi lo hi ps (comm x y)) (rg (det2 (Psi lo hi ps [x]) (Psi lo hi ps [y]))) := by
 obtain ⟨lx, ly⟩ := bet_L h
 obtain ⟨a, b⟩ := pth_comm ps h
 obtain ⟨l1, l2⟩ := sg_L hl hh
 have S := sgF_hom l1 l2
 have wx := pth_wd ps (w1 lx)
 have wy := pth_wd ps (w1 ly)
 have wc := pth_wd ps (comm_wd lx ly)
 have e : det2 (Psi lo hi ps [x]) (Psi lo hi ps [y]) = det2 (pth ps [x]) (pth ps [y]) * (la lo * lb hi) := by
  unfold det2 Psi
  rw [(sg_sa hl hh wx).1, (sg_sa hl hh wx).2, (sg_sa hl hh wy).1, (sg_sa hl hh wy).2, Int.sub_mul]
  congr 1
  ·ac_rfl
  ·ac_rfl
 rw [e]
 clear e
 generalize det2 (pth ps [x]) (pth ps [y]) = e at *
 have c1 := Cj.sb S wc (rg_wd _) b
 have o := List.all_eq_true.mp (List.all_eq_true.mp (List.all_eq_true.mp comm2 lo (by rcases hl with rfl | rfl <;> simp)) hi (by rcases hh with rfl | rfl <;> simp)) e (by rcases a with rfl | rfl <;> simp)
 exact Cj.trans (sb_wd S wc) c1 (cjB_Cj (sb_wd S (rg_wd _)) (rg_wd _) o)
theorem Psi_det {lo hi x y : Nat} (hl : lo = 97 ∨ lo = 65) (hh : hi = 98 ∨ hi = 66) (ps : List Bool) (h : (x, y) ∈ betL) : det2 (Psi lo hi ps [x]) (Psi lo hi ps [y]) ≠ 0 := by
 obtain ⟨lx, ly⟩ := bet_L h
 obtain ⟨a, _⟩ := pth_comm ps h
 have wx := pth_wd ps (w1 lx)
 have wy := pth_wd ps (w1 ly)
 have e : det2 (Psi lo hi ps [x]) (Psi lo hi ps [y]) = det2 (pth ps [x]) (pth ps [y]) * (la lo * lb hi) := by
  unfold det2 Psi
  rw [(sg_sa hl hh wx).1, (sg_sa hl hh wx).2, (sg_sa hl hh wy).1, (sg_sa hl hh wy).2, Int.sub_mul]
  congr 1
  ·ac_rfl
  ·ac_rfl
 rw [e]
 rcases a with a | a <;> rw [a] <;> rcases hl with rfl | rfl <;> rcases hh with rfl | rfl <;> decide
theorem rg_fix (e : Int) : norm (rg e) = rg e ∧ co (rg e) = rg e := by
 unfold rg
 split
 ·exact ⟨by decide, by decide⟩
 ·exact ⟨by decide, by decide⟩
theorem det_is (xs : List Int) {lo hi x y : Nat} {ps : List Bool} (l1 : isL lo = true) (l2 : isL hi = true) (lx : isL x = true) (ly : isL y = true) (pc : PC (valOf (bookOf xs) 97) (valOf (bookOf xs) 98) (Psi lo hi ps [x]) (Psi lo hi ps [y])) :
  det2 (Psi lo hi ps [x]) (Psi lo hi ps [y]) = detS (sumsOf xs) := by
 have B := book_ok xs
 obtain ⟨s1, s2⟩ := sums_ok xs
 obtain ⟨h, hw, e1, e2⟩ := pc
 have c1 : Cj (valOf (bookOf xs) 97) (Psi lo hi ps [x]) := ⟨h, hw, e1⟩
 have c2 : Cj (valOf (bookOf xs) 98) (Psi lo hi ps [y]) := ⟨h, hw, e2⟩
 obtain ⟨a1, a2⟩ := c1.sums (valOf_ok B rfl).1 (Psi_wd l1 l2 ps (w1 lx))
 obtain ⟨b1, b2⟩ := c2.sums (valOf_ok B rfl).1 (Psi_wd l1 l2 ps (w1 ly))
 unfold det2 detS
 rw [s1, s2, ← a1, ← a2, ← b1, ← b2]
theorem sab_len : ∀ w : List Nat, (sa w).natAbs + (sB w).natAbs ≤ w.length
 | [] => Nat.le_refl _
 | c :: w => by
  have ih := sab_len w
  have k : (la c).natAbs + (lb c).natAbs ≤ 1 := by
   unfold la lb
   by_cases h : c = 97
   ·rw [h]; decide
   ·by_cases h2 : c = 65
    ·rw [h2]; decide
    ·rw [if_neg h, if_neg h2]
     split
     ·decide
     ·split <;> decide
  show (la c + sa w).natAbs + (lb c + sB w).natAbs ≤ w.length + 1
  have i := Int.natAbs_add_le (la c) (sa w)
  have j := Int.natAbs_add_le (lb c) (sB w)
  lia
theorem plain_nz {xs : List Int} (h : xs.length ≤ 7) : (sumsOf xs).1.1.natAbs + (sumsOf xs).1.2.natAbs ≠ 0 ∧ (sumsOf xs).2.1.natAbs + (sumsOf xs).2.2.natAbs ≠ 0 ∧ (sumsOf xs).1.1.natAbs + (sumsOf xs).1.2.natAbs ≤ 10000 ∧ (sumsOf xs).2.1.natAbs + (sumsOf xs).2.2.natAbs ≤ 10000 := by
 have B := book_ok xs
 have k : 2 ^ xs.length ≤ 10000 := Nat.le_trans (Nat.pow_le_pow_right (by decide) h) (by decide)
 obtain ⟨lo, hi, ps, x, y, hl, hh, hb, pc⟩ := shape_all xs
 obtain ⟨lx, ly⟩ := bet_L hb
 obtain ⟨l1, l2⟩ := sg_L hl hh
 have de := det_is xs l1 l2 lx ly pc
 have nz := Psi_det hl hh ps hb
 rw [de] at nz
 obtain ⟨s1, s2⟩ := sums_ok xs
 have z0 : ∀ {p q : Int}, p.natAbs + q.natAbs = 0 → p = 0 ∧ q = 0 := fun e => by
  obtain ⟨a, b⟩ := Nat.add_eq_zero_iff.mp e
  exact ⟨Int.natAbs_eq_zero.mp a, Int.natAbs_eq_zero.mp b⟩
 refine ⟨fun e => nz ?_, fun e => nz ?_, ?_, ?_⟩
 ·obtain ⟨a, b⟩ := z0 e
  unfold detS
  rw [a, b, Int.zero_mul, Int.zero_mul]; rfl
 ·obtain ⟨a, b⟩ := z0 e
  unfold detS
  rw [a, b, Int.mul_zero, Int.mul_zero]; rfl
 ·rw [s1]; exact Nat.le_trans (sab_len _) (Nat.le_trans (valOf_ok B rfl).2 k)
 ·rw [s2]; exact Nat.le_trans (sab_len _) (Nat.le_trans (valOf_ok B rfl).2 k)
theorem plain_d (xs : List Int) : ringB (acrW xs) (if detS (sumsOf xs) = 1 then [97, 98, 65, 66] else [98, 97, 66, 65]) = true := by
 have B := book_ok xs
 obtain ⟨s1, s2⟩ := sums_ok xs
 obtain ⟨lo, hi, ps, x, y, hl, hh, hb, h, hw, e1, e2⟩ := shape_all xs
 obtain ⟨lx, ly⟩ := bet_L hb
 obtain ⟨l1, l2⟩ := sg_L hl hh
 have e : sndW xs = valOf (bookOf xs) 98 := val_lw _ rfl
 have wf := (valOf_ok B (c := 97) rfl).1
 have wg := (valOf_ok B (c := 98) rfl).1
 have wF := Psi_wd l1 l2 ps (w1 lx)
 have wG := Psi_wd l1 l2 ps (w1 ly)
 have wc : wd ([97, 98, 65, 66] : List Nat) := rg_wd 1
 have k := pr_cj wf wg wF wG hw e1 e2 wc
 rw [Psi_pr ps l1 l2 lx ly wc] at k
 have k1 : Cj (sb (prF (valOf (bookOf xs) 97) (valOf (bookOf xs) 98)) [97, 98, 65, 66]) (Psi lo hi ps (comm x y)) := ⟨h, hw, k⟩
 have ww := sb_wd (prF_hom wf wg) wc
 have ea : acrW xs = norm (sb (prF (valOf (bookOf xs) 97) (valOf (bookOf xs) 98)) [97, 98, 65, 66]) := by
  unfold acrW
  rw [prod_norm, e]
  congr 1
  show valOf (bookOf xs) 97 ++ valOf (bookOf xs) 98 ++ back (valOf (bookOf xs) 97) ++ back (valOf (bookOf xs) 98) = valOf (bookOf xs) 97 ++ (valOf (bookOf xs) 98 ++ (back (valOf (bookOf xs) 97) ++ (back (valOf (bookOf xs) 98) ++ [])))
  simp
 have k2 : Cj (acrW xs) (sb (prF (valOf (bookOf xs) 97) (valOf (bookOf xs) 98)) [97, 98, 65, 66]) := by
  rw [ea]
  exact ⟨[], wd_nil, by show Eqv ([] ++ (_ ++ [])) _; rw [List.append_nil]; exact (eqv_norm ww).symm⟩
 have wa : wd (acrW xs) := by rw [ea]; exact norm_wd ww
 have na : norm (acrW xs) = acrW xs := by rw [ea]; exact norm_norm ww
 have c := Psi_comm hl hh ps hb
 have de := det_is xs l1 l2 lx ly ⟨h, hw, e1, e2⟩
 rw [de] at c
 have c3 := Cj.trans wa k2 (Cj.trans ww k1 c)
 obtain ⟨r1, r2⟩ := rg_fix (detS (sumsOf xs))
 exact ringB_of (ring_of (rg_wd _) r1 r2 na (Cj.symm wa (rg_wd _) c3))
theorem plain_ok {xs : List Int} (h : xs.length ≤ 7) : PlainOk xs := by
 obtain ⟨a, b, c, d⟩ := plain_nz h
 obtain ⟨r, s⟩ := plain_r xs
 exact ⟨plain_a xs, plain_b xs, plain_c xs, a, b, c, d, r, s, plain_k xs, plain_d xs⟩
end Mine
namespace Mine
open PySem PySem.Spec PySem.Calls PyProof.Rows
noncomputable def readFdK : FuncData := { (default : FuncData) with params := fArgs (stS 2), body := .stmts (fBody (stS 2)), scope := fScope (stS 2) }
noncomputable abbrev KK (prog : Program) (w : World) (h : Heap) : KX := { prog := prog, w := w, h0 := h, tb := 239, tc := 241, ok := (· = #[]), attrs := ["_headers", "lineno", "instream", "whitespace", "pushback"], readChar := 66, streamFn := default, readFd := readFdK }
noncomputable def Kcut (K : W.Frag) : W.Frag := K.filter (fun x => x.1 != 239)
theorem cut_look (K : W.Frag) : ∀ (a : Addr) (o : Obj), (Kcut K).lookup a = some o → K.lookup a = some o ∧ a ≠ 239 := by
 induction K with
 | nil => intro a o h; cases h
 | cons x K ih =>
  intro a o h
  obtain ⟨b, ob⟩ := x
  unfold Kcut at h
  rw [List.filter_cons] at h
  split at h
  ·rename_i hb
   rw [List.lookup_cons] at h ⊢
   cases hab : a == b with
   | true =>
    rw [hab] at h
    have : a = b := beq_iff_eq.mp hab
    exact ⟨h, by rw [this]; simpa using hb⟩
   | false => rw [hab] at h; exact ih a o h
  ·rename_i hb
   have hb' : b = 239 := by simpa using hb
   obtain ⟨h1, h2⟩ := ih a o h
   refine ⟨?_, h2⟩
   rw [List.lookup_cons]
   have : (a == b) = false := by rw [beq_eq_false_iff_ne, hb']; exact h2
   rw [this]; exact h1
theorem kf_of {prog : Program} {w : World} {h : Heap} {K : W.Frag} (X : K.In h) : KF (KK prog w h) (Kcut K) :=
 ⟨fun a o e => X a o (cut_look K a o e).1, fun a o e => (cut_look K a o e).2⟩
theorem ns_of {K : W.Frag} {h : Heap} {a : Addr} {m : Str → Option Value} {n : Str} {r : Option Value} (X : K.In h) (G : h.Ns a m) (e : W.nsIn K a n = some r) : m n = r := by
 obtain ⟨o, es, ep, ho, hd, _, hf⟩ := G
 unfold W.nsIn at e
 split at e
 ·rename_i c d es' n' sl q
  have := X _ _ q
  rw [ho] at this
  cases this
  cases hd
  rw [← hf]
  unfold nsFind findBy
  split at e
  ·rename_i en q2
   cases e
   rw [← Array.find?_toList, q2]; rfl
  ·rename_i q2
   split at e
   ·cases e
   ·cases e
    rw [← Array.find?_toList, q2]; rfl
 ·cases e
theorem fnok_of {K : W.Frag} {prog : Program} {w : World} {h : Heap} (X : K.In h) {st : Stmt} {a c : Addr} (fd : FuncData) {o oc : Obj} {vs : Array Value} {t : Tok} (ea : K.lookup a = some o) (ed : o.data = .func (fdOf st fd)) (ec : K.lookup c = some oc)
  (ecd : oc.data = .fields vs) (eq : vs[1]? = some (.str fd.qualname t)) (hc : fd.code = .ref c) (n1 : a ≠ 239) (n2 : c ≠ 239) (hd : fd.defaults = .none) (hk : fd.kwdefaults = .none)
  (co : (fScope st).isCoroutine = false) (gen : (fScope st).isGenerator = false) (kd : (fScope st).kind = .function) : FnOk (KK prog w h) a st :=
 ⟨fd, ⟨⟨o, X a o ea, ed⟩, n1, rfl, ⟨c, oc, vs, t, hc, X c oc ec, ecd, eq, n2⟩, rfl, rfl, rfl, co, gen, kd⟩, hd, hk⟩
noncomputable def fnOf (K : W.Frag) (a : Addr) : FuncData := match K.lookup a with | some o => (match o.data with | .func fd => fd | _ => default) | none => default
theorem fnokD_of {K : W.Frag} {prog : Program} {w : World} {h : Heap} (X : K.In h) {st : Stmt} {a c : Addr} (fd : FuncData) {o oc : Obj} {vs : Array Value} {t : Tok} {dv : Value} (ea : K.lookup a = some o) (ed : o.data = .func (fdOf st fd)) (ec : K.lookup c = some oc)
  (ecd : oc.data = .fields vs) (eq : vs[1]? = some (.str fd.qualname t)) (hc : fd.code = .ref c) (n1 : a ≠ 239) (n2 : c ≠ 239) (hd : fd.defaults = dv) (hk : fd.kwdefaults = .none)
  (co : (fScope st).isCoroutine = false) (gen : (fScope st).isGenerator = false) (kd : (fScope st).kind = .function) : FnOkD (KK prog w h) a st dv :=
 ⟨fd, ⟨⟨o, X a o ea, ed⟩, n1, rfl, ⟨c, oc, vs, t, hc, X c oc ec, ecd, eq, n2⟩, rfl, rfl, rfl, co, gen, kd⟩, hd, hk⟩
theorem read_text {prog : Program} {w : World} {h : Heap} : ReadText (KK prog w h) "size" readBody where
 bd := rfl
 form := ⟨_, _, _, _, _, _, _, _, _, _, _, rfl, rfl⟩
 co := rfl
 gen := rfl
 kd := rfl
 nc := by
  have h : (fScope (stS 2)).names.all (fun x => x.2 != .cell) = true := by decide +kernel
  intro x hx
  have := List.all_eq_true.mp h x hx
  intro e; rw [e] at this; cases this
 lf := rfl
 sz := rfl
 bind := by
  intro fd h1 h2 h3 v
  obtain ⟨n1, n2, n3, n4, n5, n6, n7, n8, n9, n10, n11, n12, n13, n14, n15⟩ := fd
  subst h1; subst h2; subst h3
  rfl
theorem well_vr {P : Params} {h : Heap} {a : Addr} {script : List Int} (W : PySem.W.Well P h (.ref a) (PySem.W.ofPy (.list (script.map PyData.int)))) : VR [] h (.d (.list (iI script))) (.ref a) := by
 have key : ∀ (xs : List Int) (vs : List Value), PySem.W.WellAll P h vs (PySem.W.ofPys (xs.map PyData.int)) → DRs h [] vs (iI xs) := by
  intro xs
  induction xs with
  | nil => intro vs w; cases w; exact .nil
  | cons x xs ih =>
   intro vs w
   cases w with
   | cons a b =>
    refine .cons ?_ (ih _ b)
    cases a
    exact .int _ _
 cases W with
 | list e w => exact DR.list (n := 0) e (by simp [mu]) (by simpa using key script _ w)
noncomputable def fragOf {K : W.Frag} {h : Heap} (X : K.In h) : W.Frag := K
theorem okCaller : OkA 10 callerA := ⟨rfl, by decide, by decide⟩
theorem S3.toFree {K : KX} {Kf : W.Frag} {mg mb : Str → Option Value} (N : S3 K Kf mg mb) : S3 K.free Kf mg mb := by
 have fo : ∀ {a : Addr} {st : Stmt}, FnOk K a st → FnOk K.free a st := fun ⟨fd, X, r⟩ => ⟨fd, ⟨X.ob, X.tb, X.bd, X.code, X.clo, X.gl, X.bi, X.co, X.gen, X.kd⟩, r⟩
 have fD : ∀ {a : Addr} {st : Stmt} {v : Value}, FnOkD K a st v → FnOkD K.free a st v := fun ⟨fd, X, r⟩ => ⟨fd, ⟨X.ob, X.tb, X.bd, X.code, X.clo, X.gl, X.bi, X.co, X.gen, X.kd⟩, r⟩
 have rr : ∀ {p : Addr}, ReAt K p → ReAt K.free p := fun R => ⟨R.ob, R.tb⟩
 exact {
  G := ⟨N.G.g, N.G.g', N.G.b, N.G.b', N.G.lim, N.G.lim'⟩
  X := ⟨N.X.inn, N.X.ntb⟩
  attrs := N.attrs
  x_Headers___str__ := fo N.x_Headers___str__
  m_Headers___str__ := N.m_Headers___str__
  x_Headers__convert_string_type := fo N.x_Headers__convert_string_type
  m_Headers__convert_string_type := N.m_Headers__convert_string_type
  x_Headers_add_header := fo N.x_Headers_add_header
  m_Headers_add_header := N.m_Headers_add_header
  x_Headers_get := fD N.x_Headers_get
  bd_Headers_get := N.bd_Headers_get
  m_Headers_get := N.m_Headers_get
  x_Headers_keys := fo N.x_Headers_keys
  m_Headers_keys := N.m_Headers_keys
  x__law_back := fo N.x__law_back
  g__law_back := N.g__law_back
  x__law_moves := fo N.x__law_moves
  g__law_moves := N.g__law_moves
  x__law_written := fo N.x__law_written
  g__law_written := N.g__law_written
  x__netrclex___init__ := fo N.x__netrclex___init__
  m__netrclex___init__ := N.m__netrclex___init__
  x__netrclex__read_char := fo N.x__netrclex__read_char
  m__netrclex__read_char := N.m__netrclex__read_char
  x__netrclex_get_token := fo N.x__netrclex_get_token
  m__netrclex_get_token := N.m__netrclex_get_token
  x_Headers___init__ := fD N.x_Headers___init__
  bd_Headers___init__ := N.bd_Headers___init__
  m_Headers___init__ := N.m_Headers___init__
  x_Headers___delitem__ := fo N.x_Headers___delitem__
  m_Headers___delitem__ := N.m_Headers___delitem__
  x_Headers___setitem__ := fo N.x_Headers___setitem__
  m_Headers___setitem__ := N.m_Headers___setitem__
  x__law_product := fo N.x__law_product
  g__law_product := N.g__law_product
  x__law_book := fo N.x__law_book
  g__law_book := N.g__law_book
  x_replace := fo N.x_replace
  g_replace := N.g_replace
  x__law_struck := fo N.x__law_struck
  g__law_struck := N.g__law_struck
  x__law_put_in := fo N.x__law_put_in
  g__law_put_in := N.g__law_put_in
  x__law_sums := fo N.x__law_sums
  g__law_sums := N.g__law_sums
  x__law_is_ring := fo N.x__law_is_ring
  g__law_is_ring := N.g__law_is_ring
  x__law_line := fo N.x__law_line
  g__law_line := N.g__law_line
  x__law_names := fo N.x__law_names
  g__law_names := N.g__law_names
  g_Headers := N.g_Headers
  c_Headers := N.c_Headers
  f_Headers__headers := N.f_Headers__headers
  g__netrclex := N.g__netrclex
  c__netrclex := N.c__netrclex
  f__netrclex_lineno := N.f__netrclex_lineno
  f__netrclex_instream := N.f__netrclex_instream
  f__netrclex_whitespace := N.f__netrclex_whitespace
  f__netrclex_pushback := N.f__netrclex_pushback
  g__name_disallowed_re := N.g__name_disallowed_re
  g__value_disallowed_re := N.g__value_disallowed_re
  abs0 := N.abs0
  abs1 := N.abs1
  iter0 := N.iter0
  iter1 := N.iter1
  len0 := N.len0
  len1 := N.len1
  list0 := N.list0
  list1 := N.list1
  range0 := N.range0
  range1 := N.range1
  str0 := N.str0
  str1 := N.str1
  type0 := N.type0
  type1 := N.type1
  bd0_Headers___init__ := N.bd0_Headers___init__
  sm := N.sm
  rc := N.rc
  rcm := N.rcm
  rc1 := N.rc1
  rc2 := N.rc2
  rt := ⟨N.rt.bd, N.rt.form, N.rt.co, N.rt.gen, N.rt.kd, N.rt.nc, N.rt.lf, N.rt.sz, N.rt.bind⟩
  re := fun p hp => ⟨rr (N.re p hp).1, (N.re p hp).2⟩ }
theorem law1_end {prog : Program} {w : World} {s : Shared} {mg mb : Str → Option Value} {fr : W.Frag} {script : List Int} (X : fr.In s.heap) (N : S3 (KK prog w s.heap) (Kcut fr) mg mb)
  (SF : StreamFacts (KK prog w s.heap) mg mb (stAt 13) 242 241) (hgs : mg "_law_stream" = some (.ref 242)) (FX : FnOk (KK prog w s.heap) 316 (stAt 25)) (H : HRel (KK prog w s.heap) [] [] s.heap)
  (it : isCodeTable s.heap 239) (et : s.heap.get? 239 = some { cls := .none, data := .fields #[] }) (hz : script.length ≤ 2 ^ 20) (hv : VR [] s.heap (.d (.list (iI script))) (.ref 317)) {E : Value → Shared → Prop} :
  wpAny (model prog w) callerA (call (.ref 316) [.ref 317]) (fun v s' => v = .bool true ∧ OldK s.heap s'.heap ∧ s'.os = s.os ∧ s'.gens = s.gens) E s := by
 refine wpAny_call ?_
 refine codeAny_mono (law_call (E := E) N N.toFree SF hgs rfl rfl rfl rfl rfl FX okCaller hz (plain_ok (nums_len script)) H hv) ?_
 intro r s' h
 cases r with
 | error e => exact h
 | ok fl =>
  cases fl with
  | ret v =>
   obtain ⟨hp', ρ', h', t', rfl, rfl, H', S'⟩ := h
   refine ⟨rfl, ⟨fun b o e => ?_, fun b o e => S'.dom b o e⟩, rfl, rfl⟩
   by_cases hb : b = 239
   ·subst hb
    rw [et] at e
    cases e
    obtain ⟨ps, _, e'⟩ := H'.tab
    refine .inr (.inl ⟨it, rfl, #[], ps, rfl, ?_⟩)
    rw [Array.empty_append]
    exact e'
   ·exact .inl (S'.keep b o e hb (by simp [mu]))
  | _ => exact h
end Mine
namespace Mine
open PySem PySem.Spec PySem.W PySem.W.X PyProof.Rows
noncomputable abbrev en (P : Params) (k : Str) (t : Tok) (v : Value) : DictEntry := ⟨PyData.keyHash P k, .str k t, v⟩
noncomputable def fdT (st : Stmt) (fd : FuncData) : FuncData := { fdOf st fd with globals := 0 }
noncomputable abbrev eb (P : Params) (k : String) (t : Tok) : DictEntry := en P (Str.ofString k) t (.builtin k)
noncomputable def oT (c : String) (d : Data) : Obj := { cls := .type c, dict := none, data := d, slots := #[] }
noncomputable def oN (d : Data) : Obj := { cls := .none, dict := none, data := d, slots := #[] }
noncomputable def i0 : Value := .int 0 0
noncomputable def fO (n q : Str) (d m c : Value) : FuncData := { name := n, qualname := q, params := default, body := .stmts [], scope := default, globals := 3, closure := [], defaults := d, kwdefaults := .none, doc := .none, pyModule := m, annotations := none, code := c, closureTuple := .none, builtins := 0 }
noncomputable def o0 (P : Params) : Obj := oT "dict" (.dict #[en P "__name__" 1 (.str "builtins" 160), en P "__doc__" 2 (.builtin "builtins.__doc__:str#opaque"), en P "__package__" 3 (.builtin "builtins.__package__:str#opaque"), en P "__loader__" 4 (.builtin "builtins.__loader__:shared#opaque"), en P "__spec__" 5 (.builtin "builtins.__spec__#opaque"), eb P "__build_class__" 6, en P ⟨⟨[95, 95, 105, 109, 112, 111, 114, 116, 95, 95]⟩⟩ 7 (.builtin "__import__"), eb P "abs" 8, eb P "all" 9, eb P "any" 10, eb P "ascii" 11, eb P "bin" 12, eb P "breakpoint" 13, eb P "callable" 14, eb P "chr" 15, eb P "compile" 16, eb P "delattr" 17, eb P "dir" 18, eb P "divmod" 19, eb P "eval" 20, eb P "exec" 21, eb P "format" 22, eb P "getattr" 23, eb P "globals" 24, eb P "hasattr" 25, eb P "hash" 26, eb P "hex" 27, eb P "id" 28, eb P "input" 29, eb P "isinstance" 30, eb P "issubclass" 31, eb P "iter" 32, eb P "aiter" 33, eb P "len" 34, eb P "locals" 35, eb P "max" 36, eb P "min" 37, eb P "next" 38, eb P "anext" 39, eb P "oct" 40, eb P "ord" 41, eb P "pow" 42, eb P "print" 43, eb P "repr" 44, eb P "round" 45, eb P "setattr" 46, eb P "sorted" 47, eb P "sum" 48, eb P "vars" 49, en P "None" 50 .none, en P "Ellipsis" 51 (.ellipsis), en P "NotImplemented" 52 (.notImplemented), en P "False" 53 (.bool false), en P "True" 54 (.bool true), en P "bool" 55 (.type "bool"), en P "memoryview" 56 (.type "memoryview"), en P "bytearray" 57 (.type "bytearray"), en P "bytes" 58 (.type "bytes"), en P "classmethod" 59 (.type "classmethod"), en P "complex" 60 (.type "complex"), en P "dict" 61 (.type "dict"), en P "enumerate" 62 (.type "enumerate"), en P "filter" 63 (.type "filter"), en P "float" 64 (.type "float"), en P "frozenset" 65 (.type "frozenset"), en P "property" 66 (.type "property"), en P "int" 67 (.type "int"), en P "list" 68 (.type "list"), en P "map" 69 (.type "map"), en P "object" 70 (.type "object"), en P "range" 71 (.type "range"), en P "reversed" 72 (.type "reversed"), en P "set" 73 (.type "set"), en P "slice" 74 (.type "slice"), en P "staticmethod" 75 (.type "staticmethod"), en P "str" 76 (.type "str"), en P "super" 77 (.type "super"), en P "tuple" 78 (.type "tuple"), en P "type" 79 (.type "type"), en P "zip" 80 (.type "zip"), en P "__debug__" 81 (.bool true), en P "BaseException" 82 (.type "BaseException"), en P "BaseExceptionGroup" 83 (.type "BaseExceptionGroup"), en P "Exception" 84 (.type "Exception"), en P "GeneratorExit" 85 (.type "GeneratorExit"), en P "KeyboardInterrupt" 86 (.type "KeyboardInterrupt"), en P "SystemExit" 87 (.type "SystemExit"), en P "ArithmeticError" 88 (.type "ArithmeticError"), en P "AssertionError" 89 (.type "AssertionError"), en P "AttributeError" 90 (.type "AttributeError"), en P "BufferError" 91 (.type "BufferError"), en P "EOFError" 92 (.type "EOFError"), en P "ImportError" 93 (.type "ImportError"), en P "LookupError" 94 (.type "LookupError"), en P "MemoryError" 95 (.type "MemoryError"), en P "NameError" 96 (.type "NameError"), en P "OSError" 97 (.type "OSError"), en P "ReferenceError" 98 (.type "ReferenceError"), en P "RuntimeError" 99 (.type "RuntimeError"), en P "StopAsyncIteration" 100 (.type "StopAsyncIteration"), en P "StopIteration" 101 (.type "StopIteration"), en P "SyntaxError" 102 (.type "SyntaxError"), en P "SystemError" 103 (.type "SystemError"), en P "TypeError" 104 (.type "TypeError"), en P "ValueError" 105 (.type "ValueError"), en P "Warning" 106 (.type "Warning"), en P "FloatingPointError" 107 (.type "FloatingPointError"), en P "OverflowError" 108 (.type "OverflowError"), en P "ZeroDivisionError" 109 (.type "ZeroDivisionError"), en P "BytesWarning" 110 (.type "BytesWarning"), en P "DeprecationWarning" 111 (.type "DeprecationWarning"), en P "EncodingWarning" 112 (.type "EncodingWarning"), en P "FutureWarning" 113 (.type "FutureWarning"), en P "ImportWarning" 114 (.type "ImportWarning"), en P "PendingDeprecationWarning" 115 (.type "PendingDeprecationWarning"), en P "ResourceWarning" 116 (.type "ResourceWarning"), en P "RuntimeWarning" 117 (.type "RuntimeWarning"), en P "SyntaxWarning" 118 (.type "SyntaxWarning"), en P "UnicodeWarning" 119 (.type "UnicodeWarning"), en P "UserWarning" 120 (.type "UserWarning"), en P "BlockingIOError" 121 (.type "BlockingIOError"), en P "ChildProcessError" 122 (.type "ChildProcessError"), en P "ConnectionError" 123 (.type "ConnectionError"), en P "FileExistsError" 124 (.type "FileExistsError"), en P "FileNotFoundError" 125 (.type "FileNotFoundError"), en P "InterruptedError" 126 (.type "InterruptedError"), en P "IsADirectoryError" 127 (.type "IsADirectoryError"), en P "NotADirectoryError" 128 (.type "NotADirectoryError"), en P "PermissionError" 129 (.type "PermissionError"), en P "ProcessLookupError" 130 (.type "ProcessLookupError"), en P "TimeoutError" 131 (.type "TimeoutError"), en P "IndentationError" 132 (.type "IndentationError"), en P "_IncompleteInputError" 133 (.type "_IncompleteInputError"), en P "IndexError" 134 (.type "IndexError"), en P "KeyError" 135 (.type "KeyError"), en P "ModuleNotFoundError" 136 (.type "ModuleNotFoundError"), en P "NotImplementedError" 137 (.type "NotImplementedError"), en P "PythonFinalizationError" 138 (.type "PythonFinalizationError"), en P "RecursionError" 139 (.type "RecursionError"), en P "UnboundLocalError" 140 (.type "UnboundLocalError"), en P "UnicodeError" 141 (.type "UnicodeError"), en P "BrokenPipeError" 142 (.type "BrokenPipeError"), en P "ConnectionAbortedError" 143 (.type "ConnectionAbortedError"), en P "ConnectionRefusedError" 144 (.type "ConnectionRefusedError"), en P "ConnectionResetError" 145 (.type "ConnectionResetError"), en P "TabError" 146 (.type "TabError"), en P "UnicodeDecodeError" 147 (.type "UnicodeDecodeError"), en P "UnicodeEncodeError" 148 (.type "UnicodeEncodeError"), en P "UnicodeTranslateError" 149 (.type "UnicodeTranslateError"), en P "ExceptionGroup" 150 (.type "ExceptionGroup"), en P "EnvironmentError" 151 (.type "OSError"), en P "IOError" 152 (.type "OSError"), eb P "open" 153, en P "quit" 154 (.builtin "builtins.quit#opaque"), en P "exit" 155 (.builtin "builtins.exit#opaque"), en P "copyright" 156 (.builtin "builtins.copyright#opaque"), en P "credits" 157 (.builtin "builtins.credits#opaque"), en P "license" 158 (.builtin "builtins.license#opaque"), en P "help" 159 (.builtin "builtins.help#opaque")] 159)
noncomputable def o1 (P : Params) : Obj := oT "dict" (.dict #[en P "builtins" 162 (.ref 4), en P "__main__" 163 (.ref 5), en P "_sre" 244 (.ref 12)] 3)
noncomputable def o2 (P : Params) : Obj := oN (.dict #[en P ⟨⟨[105, 109, 112, 111, 114, 116, 46, 108, 111, 97, 100, 101, 100, 46, 95, 115, 114, 101]⟩⟩ 183 (.bool true), en P ⟨⟨[99, 108, 97, 115, 115, 46, 95, 102, 114, 111, 122, 101, 110, 95, 105, 109, 112, 111, 114, 116, 108, 105, 98, 46, 66, 117, 105, 108, 116, 105, 110, 73, 109, 112, 111, 114, 116, 101, 114]⟩⟩ 185 (.ref 14), en P ⟨⟨[119, 97, 116, 99, 104, 101, 100, 46, 105, 109, 112, 111, 114, 116]⟩⟩ 206 (.ref 18), en P ⟨⟨[99, 108, 97, 115, 115, 46, 95, 102, 114, 111, 122, 101, 110, 95, 105, 109, 112, 111, 114, 116, 108, 105, 98, 46, 77, 111, 100, 117, 108, 101, 83, 112, 101, 99]⟩⟩ 216 (.ref 22), en P "sys.modules.booked-epoch" 245 (.int 3 0), en P ⟨⟨[105, 109, 112, 111, 114, 116, 46, 108, 97, 116, 101, 114, 45, 108, 97, 105, 100, 46, 95, 115, 114, 101]⟩⟩ 270 (.bool true), en P "watched.library" 272 (.ref 27), en P "watched.library-objects" 0 (.str ⟨⟨[12]⟩⟩ 0), en P "watched.library-deep._sre" 273 (.str ⟨⟨[4, 0, 0, 11, 4, 0, 0, 11, 4, 0, 0, 3, 4, 0, 0, 11, 8, 4, 100, 105, 99, 116, 2]⟩⟩ 0)] 9)
noncomputable def o3 (P : Params) : Obj := oT "dict" (.dict #[en P "__name__" 165 (.str "__main__" 164), en P "__doc__" 166 .none, en P "__package__" 167 .none, en P "__loader__" 168 (.builtin "__main__.__loader__#opaque"), en P "__spec__" 169 .none, en P "__annotations__" 170 (.ref 6), en P "__builtins__" 171 (.ref 4), en P "__file__" 173 (.str "/claim/cut.py" 172), en P "__cached__" 174 .none, en P "_sre" 275 (.ref 12)] 10)
noncomputable def o4 : Obj := { cls := .type "module", dict := some (0), data := .plain, slots := #[] }
noncomputable def o5 : Obj := { cls := .type "module", dict := some (3), data := .plain, slots := #[] }
noncomputable def o6 : Obj := oT "dict" (.dict #[] 0)
noncomputable def o7 : Obj := oT "tuple" (.seq #[] 0)
noncomputable def o8 : Obj := oN (.fields #[])
noncomputable def o9 : Obj := oT "code" (.fields #[.str "<module>" 176, .str "<module>" 177, .str "/claim/cut.py" 178, .int 1 0, i0, i0, i0, i0, .ref 7, .bool false, .int 175 0, .ref 8, .none, .none, .none, .none, .int 179 0, .int 1 0, .str "/claim/cut.py" 180])
noncomputable def o10 : Obj := { cls := .type "frame", dict := none, data := .plain, slots := #[some (.ref 9), some (.ref 3), some (.ref 3), none, some (.str "__main__" 164), none, some (.ref 0)] }
noncomputable def o11 (P : Params) : Obj := oT "dict" (.dict #[en P "__name__" 247 (.str "_sre" 246), en P "__doc__" 248 .none, en P "__package__" 250 (.str "" 249), en P "__loader__" 251 (.builtin "off-the-table:_sre.__loader__:shared#opaque"), en P "__spec__" 252 (.builtin "off-the-table:_sre.__spec__:shared#opaque"), en P "compile" 253 (.builtin "_sre.compile"), en P "template" 254 (.builtin "off-the-table:_sre.template:shared#opaque"), en P "getcodesize" 255 (.builtin "off-the-table:_sre.getcodesize:shared#opaque"), en P "ascii_iscased" 256 (.builtin "off-the-table:_sre.ascii_iscased:shared#opaque"), en P "unicode_iscased" 257 (.builtin "off-the-table:_sre.unicode_iscased:shared#opaque"), en P "ascii_tolower" 258 (.builtin "off-the-table:_sre.ascii_tolower:shared#opaque"), en P "unicode_tolower" 259 (.builtin "off-the-table:_sre.unicode_tolower:shared#opaque"), en P "MAGIC" 261 (.int 20230612 260), en P "CODESIZE" 263 (.int 4 262), en P "MAXREPEAT" 265 (.int 4294967295 264), en P "MAXGROUPS" 267 (.int 1073741823 266), en P "copyright" 269 (.str " SRE 2.2.2 Copyright (c) 1997-2002 by Secret Labs AB " 268)] 17)
noncomputable def o12 : Obj := { cls := .type "module", dict := some (11), data := .plain, slots := #[] }
noncomputable def o13 (P : Params) : Obj := oT "dict" (.dict #[en P "__module__" 189 (.str ⟨⟨[95, 102, 114, 111, 122, 101, 110, 95, 105, 109, 112, 111, 114, 116, 108, 105, 98]⟩⟩ 186), en P "__firstlineno__" 190 (.int 971 187), en P "__doc__" 191 (.builtin "_frozen_importlib.BuiltinImporter.__doc__:str#opaque"), en P "_ORIGIN" 192 (.str "built-in" 188), en P "find_spec" 193 (.builtin "_frozen_importlib.BuiltinImporter.find_spec#opaque"), en P "create_module" 194 (.builtin "_frozen_importlib.BuiltinImporter.create_module#opaque"), en P "exec_module" 195 (.builtin "_frozen_importlib.BuiltinImporter.exec_module#opaque"), en P "get_code" 196 (.builtin "_frozen_importlib.BuiltinImporter.get_code#opaque"), en P "get_source" 197 (.builtin "_frozen_importlib.BuiltinImporter.get_source#opaque"), en P "is_package" 198 (.builtin "_frozen_importlib.BuiltinImporter.is_package#opaque"), en P "load_module" 199 (.builtin "_frozen_importlib.BuiltinImporter.load_module#opaque"), en P "__static_attributes__" 200 (.ref 15), en P "__dict__" 202 (.ref 16), en P "__weakref__" 204 (.ref 17)] 14)
noncomputable def o14 : Obj := oT "type" (.cls { name := "BuiltinImporter", bases := [.type "object"], mro := [.ref 14, .type "object"], ns := 13, qualname := "BuiltinImporter", hasDict := true, slotNames := [], subclasses := [], abstract := false, hasDel := false })
noncomputable def o16 : Obj := oT "getset_descriptor" (.fields #[.str "__dict__" 201, .ref 14, .builtin "function.__dict__", .builtin "function.__dict__#set"])
noncomputable def o17 : Obj := oT "getset_descriptor" (.fields #[.str "__weakref__" 203, .ref 14, .builtin "ExceptionGroup.__weakref__", .none])
noncomputable def o18 : Obj := oN (.seq #[.int 13 0, .str ⟨⟨[6, 189, 10, 95, 95, 109, 111, 100, 117, 108, 101, 95, 95, 6, 186, 17, 95, 102, 114, 111, 122, 101, 110, 95, 105, 109, 112, 111, 114, 116, 108, 105, 98, 6, 190, 15, 95, 95, 102, 105, 114, 115, 116, 108, 105, 110, 101, 110, 111, 95, 95, 4, 187, 0, 971, 6, 191, 7, 95, 95, 100, 111, 99, 95, 95, 9, 52, 95, 102, 114, 111, 122, 101, 110, 95, 105, 109, 112, 111, 114, 116, 108, 105, 98, 46, 66, 117, 105, 108, 116, 105, 110, 73, 109, 112, 111, 114, 116, 101, 114, 46, 95, 95, 100, 111, 99, 95, 95, 58, 115, 116, 114, 35, 111, 112, 97, 113, 117, 101, 6, 192, 7, 95, 79, 82, 73, 71, 73, 78, 6, 188, 8, 98, 117, 105, 108, 116, 45, 105, 110, 6, 193, 9, 102, 105, 110, 100, 95, 115, 112, 101, 99, 9, 50, 95, 102, 114, 111, 122, 101, 110, 95, 105, 109, 112, 111, 114, 116, 108, 105, 98, 46, 66, 117, 105, 108, 116, 105, 110, 73, 109, 112, 111, 114, 116, 101, 114, 46, 102, 105, 110, 100, 95, 115, 112, 101, 99, 35, 111, 112, 97, 113, 117, 101, 6, 194, 13, 99, 114, 101, 97, 116, 101, 95, 109, 111, 100, 117, 108, 101, 9, 54, 95, 102, 114, 111, 122, 101, 110, 95, 105, 109, 112, 111, 114, 116, 108, 105, 98, 46, 66, 117, 105, 108, 116, 105, 110, 73, 109, 112, 111, 114, 116, 101, 114, 46, 99, 114, 101, 97, 116, 101, 95, 109, 111, 100, 117, 108, 101, 35, 111, 112, 97, 113, 117, 101, 6, 195, 11, 101, 120, 101, 99, 95, 109, 111, 100, 117, 108, 101, 9, 52, 95, 102, 114, 111, 122, 101, 110, 95, 105, 109, 112, 111, 114, 116, 108, 105, 98, 46, 66, 117, 105, 108, 116, 105, 110, 73, 109, 112, 111, 114, 116, 101, 114, 46, 101, 120, 101, 99, 95, 109, 111, 100, 117, 108, 101, 35, 111, 112, 97, 113, 117, 101, 6, 196, 8, 103, 101, 116, 95, 99, 111, 100, 101, 9, 49, 95, 102, 114, 111, 122, 101, 110, 95, 105, 109, 112, 111, 114, 116, 108, 105, 98, 46, 66, 117, 105, 108, 116, 105, 110, 73, 109, 112, 111, 114, 116, 101, 114, 46, 103, 101, 116, 95, 99, 111, 100, 101, 35, 111, 112, 97, 113, 117, 101, 6, 197, 10, 103, 101, 116, 95, 115, 111, 117, 114, 99, 101, 9, 51, 95, 102, 114, 111, 122, 101, 110, 95, 105, 109, 112, 111, 114, 116, 108, 105, 98, 46, 66, 117, 105, 108, 116, 105, 110, 73, 109, 112, 111, 114, 116, 101, 114, 46, 103, 101, 116, 95, 115, 111, 117, 114, 99, 101, 35, 111, 112, 97, 113, 117, 101, 6, 198, 10, 105, 115, 95, 112, 97, 99, 107, 97, 103, 101, 9, 51, 95, 102, 114, 111, 122, 101, 110, 95, 105, 109, 112, 111, 114, 116, 108, 105, 98, 46, 66, 117, 105, 108, 116, 105, 110, 73, 109, 112, 111, 114, 116, 101, 114, 46, 105, 115, 95, 112, 97, 99, 107, 97, 103, 101, 35, 111, 112, 97, 113, 117, 101, 6, 199, 11, 108, 111, 97, 100, 95, 109, 111, 100, 117, 108, 101, 9, 52, 95, 102, 114, 111, 122, 101, 110, 95, 105, 109, 112, 111, 114, 116, 108, 105, 98, 46, 66, 117, 105, 108, 116, 105, 110, 73, 109, 112, 111, 114, 116, 101, 114, 46, 108, 111, 97, 100, 95, 109, 111, 100, 117, 108, 101, 35, 111, 112, 97, 113, 117, 101, 6, 200, 21, 95, 95, 115, 116, 97, 116, 105, 99, 95, 97, 116, 116, 114, 105, 98, 117, 116, 101, 115, 95, 95, 4, 0, 0, 15, 6, 202, 8, 95, 95, 100, 105, 99, 116, 95, 95, 4, 0, 0, 16, 6, 204, 11, 95, 95, 119, 101, 97, 107, 114, 101, 102, 95, 95, 4, 0, 0, 17]⟩⟩ 0, .bool true, .bool true, .str "" 205, .int 21 0, .str ⟨⟨[6, 227, 10, 95, 95, 109, 111, 100, 117, 108, 101, 95, 95, 6, 217, 17, 95, 102, 114, 111, 122, 101, 110, 95, 105, 109, 112, 111, 114, 116, 108, 105, 98, 6, 228, 15, 95, 95, 102, 105, 114, 115, 116, 108, 105, 110, 101, 110, 111, 95, 95, 4, 218, 0, 562, 6, 229, 7, 95, 95, 100, 111, 99, 95, 95, 9, 47, 95, 102, 114, 111, 122, 101, 110, 95, 105, 109, 112, 111, 114, 116, 108, 105, 98, 46, 77, 111, 100, 117, 108, 101, 83, 112, 101, 99, 46, 95, 95, 100, 111, 99, 95, 95, 58, 115, 116, 114, 35, 111, 112, 97, 113, 117, 101, 6, 230, 8, 95, 95, 105, 110, 105, 116, 95, 95, 9, 44, 95, 102, 114, 111, 122, 101, 110, 95, 105, 109, 112, 111, 114, 116, 108, 105, 98, 46, 77, 111, 100, 117, 108, 101, 83, 112, 101, 99, 46, 95, 95, 105, 110, 105, 116, 95, 95, 35, 111, 112, 97, 113, 117, 101, 6, 231, 8, 95, 95, 114, 101, 112, 114, 95, 95, 9, 44, 95, 102, 114, 111, 122, 101, 110, 95, 105, 109, 112, 111, 114, 116, 108, 105, 98, 46, 77, 111, 100, 117, 108, 101, 83, 112, 101, 99, 46, 95, 95, 114, 101, 112, 114, 95, 95, 35, 111, 112, 97, 113, 117, 101, 6, 232, 6, 95, 95, 101, 113, 95, 95, 9, 42, 95, 102, 114, 111, 122, 101, 110, 95, 105, 109, 112, 111, 114, 116, 108, 105, 98, 46, 77, 111, 100, 117, 108, 101, 83, 112, 101, 99, 46, 95, 95, 101, 113, 95, 95, 35, 111, 112, 97, 113, 117, 101, 6, 233, 6, 99, 97, 99, 104, 101, 100, 9, 42, 95, 102, 114, 111, 122, 101, 110, 95, 105, 109, 112, 111, 114, 116, 108, 105, 98, 46, 77, 111, 100, 117, 108, 101, 83, 112, 101, 99, 46, 99, 97, 99, 104, 101, 100, 35, 111, 112, 97, 113, 117, 101, 6, 234, 6, 112, 97, 114, 101, 110, 116, 9, 42, 95, 102, 114, 111, 122, 101, 110, 95, 105, 109, 112, 111, 114, 116, 108, 105, 98, 46, 77, 111, 100, 117, 108, 101, 83, 112, 101, 99, 46, 112, 97, 114, 101, 110, 116, 35, 111, 112, 97, 113, 117, 101, 6, 235, 12, 104, 97, 115, 95, 108, 111, 99, 97, 116, 105, 111, 110, 9, 48, 95, 102, 114, 111, 122, 101, 110, 95, 105, 109, 112, 111, 114, 116, 108, 105, 98, 46, 77, 111, 100, 117, 108, 101, 83, 112, 101, 99, 46, 104, 97, 115, 95, 108, 111, 99, 97, 116, 105, 111, 110, 35, 111, 112, 97, 113, 117, 101, 6, 236, 21, 95, 95, 115, 116, 97, 116, 105, 99, 95, 97, 116, 116, 114, 105, 98, 117, 116, 101, 115, 95, 95, 4, 0, 0, 23, 6, 238, 8, 95, 95, 100, 105, 99, 116, 95, 95, 4, 0, 0, 24, 6, 240, 11, 95, 95, 119, 101, 97, 107, 114, 101, 102, 95, 95, 4, 0, 0, 25, 6, 241, 8, 95, 95, 104, 97, 115, 104, 95, 95, 0]⟩⟩ 0, .bool true, .bool true, .str "" 242] 1)
noncomputable def o19 : Obj := oT "list" (.seq #[] 0)
noncomputable def o20 (P : Params) : Obj := oT "dict" (.dict #[en P "name" 208 (.str "_sre" 207), en P "loader" 209 (.ref 14), en P "origin" 210 (.str "built-in" 184), en P "loader_state" 211 .none, en P "submodule_search_locations" 212 .none, en P "_uninitialized_submodules" 213 (.ref 19), en P "_set_fileattr" 214 (.bool false), en P "_cached" 215 .none, en P "_initializing" 243 (.bool false)] 9)
noncomputable def o21 (P : Params) : Obj := oT "dict" (.dict #[en P "__module__" 227 (.str ⟨⟨[95, 102, 114, 111, 122, 101, 110, 95, 105, 109, 112, 111, 114, 116, 108, 105, 98]⟩⟩ 217), en P "__firstlineno__" 228 (.int 562 218), en P "__doc__" 229 (.builtin "_frozen_importlib.ModuleSpec.__doc__:str#opaque"), en P "__init__" 230 (.builtin "_frozen_importlib.ModuleSpec.__init__#opaque"), en P "__repr__" 231 (.builtin "_frozen_importlib.ModuleSpec.__repr__#opaque"), en P "__eq__" 232 (.builtin "_frozen_importlib.ModuleSpec.__eq__#opaque"), en P "cached" 233 (.builtin "_frozen_importlib.ModuleSpec.cached#opaque"), en P "parent" 234 (.builtin "_frozen_importlib.ModuleSpec.parent#opaque"), en P "has_location" 235 (.builtin "_frozen_importlib.ModuleSpec.has_location#opaque"), en P "__static_attributes__" 236 (.ref 23), en P "__dict__" 238 (.ref 24), en P "__weakref__" 240 (.ref 25), en P "__hash__" 241 .none] 13)
noncomputable def o22 : Obj := oT "type" (.cls { name := "ModuleSpec", bases := [.type "object"], mro := [.ref 22, .type "object"], ns := 21, qualname := "ModuleSpec", hasDict := true, slotNames := [], subclasses := [], abstract := false, hasDel := false })
noncomputable def o23 : Obj := oT "tuple" (.seq #[.str "_cached" 219, .str "_set_fileattr" 220, .str "_uninitialized_submodules" 221, .str "loader" 222, .str "loader_state" 223, .str "name" 224, .str "origin" 225, .str "submodule_search_locations" 226] 0)
noncomputable def o24 : Obj := oT "getset_descriptor" (.fields #[.str "__dict__" 237, .ref 22, .builtin "function.__dict__", .builtin "function.__dict__#set"])
noncomputable def o25 : Obj := oT "getset_descriptor" (.fields #[.str "__weakref__" 239, .ref 22, .builtin "ExceptionGroup.__weakref__", .none])
noncomputable def o26 : Obj := { cls := .ref 22, dict := some (20), data := .plain, slots := #[] }
noncomputable def o27 : Obj := oN (.seq #[.int 11 0, .str ⟨⟨[6, 247, 8, 95, 95, 110, 97, 109, 101, 95, 95, 6, 246, 4, 95, 115, 114, 101, 6, 248, 7, 95, 95, 100, 111, 99, 95, 95, 0, 6, 250, 11, 95, 95, 112, 97, 99, 107, 97, 103, 101, 95, 95, 6, 249, 0, 6, 251, 10, 95, 95, 108, 111, 97, 100, 101, 114, 95, 95, 4, 0, 0, 14, 6, 252, 8, 95, 95, 115, 112, 101, 99, 95, 95, 4, 0, 0, 26, 6, 253, 7, 99, 111, 109, 112, 105, 108, 101, 9, 12, 95, 115, 114, 101, 46, 99, 111, 109, 112, 105, 108, 101, 6, 254, 8, 116, 101, 109, 112, 108, 97, 116, 101, 9, 13, 95, 115, 114, 101, 46, 116, 101, 109, 112, 108, 97, 116, 101, 6, 255, 11, 103, 101, 116, 99, 111, 100, 101, 115, 105, 122, 101, 9, 16, 95, 115, 114, 101, 46, 103, 101, 116, 99, 111, 100, 101, 115, 105, 122, 101, 6, 256, 13, 97, 115, 99, 105, 105, 95, 105, 115, 99, 97, 115, 101, 100, 9, 18, 95, 115, 114, 101, 46, 97, 115, 99, 105, 105, 95, 105, 115, 99, 97, 115, 101, 100, 6, 257, 15, 117, 110, 105, 99, 111, 100, 101, 95, 105, 115, 99, 97, 115, 101, 100, 9, 20, 95, 115, 114, 101, 46, 117, 110, 105, 99, 111, 100, 101, 95, 105, 115, 99, 97, 115, 101, 100, 6, 258, 13, 97, 115, 99, 105, 105, 95, 116, 111, 108, 111, 119, 101, 114, 9, 18, 95, 115, 114, 101, 46, 97, 115, 99, 105, 105, 95, 116, 111, 108, 111, 119, 101, 114, 6, 259, 15, 117, 110, 105, 99, 111, 100, 101, 95, 116, 111, 108, 111, 119, 101, 114, 9, 20, 95, 115, 114, 101, 46, 117, 110, 105, 99, 111, 100, 101, 95, 116, 111, 108, 111, 119, 101, 114, 6, 261, 5, 77, 65, 71, 73, 67, 4, 260, 0, 20230612, 6, 263, 8, 67, 79, 68, 69, 83, 73, 90, 69, 4, 262, 0, 4, 6, 265, 9, 77, 65, 88, 82, 69, 80, 69, 65, 84, 4, 264, 0, 4294967295, 6, 267, 9, 77, 65, 88, 71, 82, 79, 85, 80, 83, 4, 266, 0, 1073741823, 6, 269, 9, 99, 111, 112, 121, 114, 105, 103, 104, 116, 6, 268, 53, 32, 83, 82, 69, 32, 50, 46, 50, 46, 50, 32, 67, 111, 112, 121, 114, 105, 103, 104, 116, 32, 40, 99, 41, 32, 49, 57, 57, 55, 45, 50, 48, 48, 50, 32, 98, 121, 32, 83, 101, 99, 114, 101, 116, 32, 76, 97, 98, 115, 32, 65, 66, 32]⟩⟩ 0, .bool true, .bool false, .str "_sre" 271] 0)
noncomputable def obheap_a (P : Params) : Heap := { objs := #[o0 P, o1 P, o2 P, o3 P, o4, o5, o6, o7, o8, o9, o10, o11 P, o12, o13 P, o14, o7, o16, o17, o18, o19, o20 P, o21 P, o22, o23, o24, o25, o26, o27], life := { registered := [], finalised := [], alive := [], known := 0, ids := [], orphanDicts := [], counting := false, cnt := #[] } }
noncomputable def o30 : Obj := oT "code" (.fields #[.str "<module>" 277, .str "<module>" 278, .str "/claim/cut.py" 279, .int 1 0, i0, i0, i0, i0, .ref 28, .bool false, .int 276 0, .ref 29, .none, .none, .none, .none, .int 280 0, .int 1 0, .str "/claim/cut.py" 281])
noncomputable def o31 : Obj := { cls := .type "frame", dict := none, data := .plain, slots := #[some (.ref 30), some (.ref 3), some (.ref 3), none, some (.str "__main__" 164), none, some (.ref 0)] }
noncomputable def obheap_b (P : Params) : Heap := { objs := #[o0 P, o1 P, o2 P, o3 P, o4, o5, o6, o7, o8, o9, o10, o11 P, o12, o13 P, o14, o7, o16, o17, o18, o19, o20 P, o21 P, o22, o23, o24, o25, o26, o27, o7, o8, o30, o31], life := { registered := [], finalised := [], alive := [], known := 0, ids := [], orphanDicts := [], counting := false, cnt := #[] } }
noncomputable def od33 (P : Params) : Obj := oT "dict" (.dict #[en P "__name__" 165 (.str "cpy313.netrc" 299), en P "__doc__" 166 .none, en P "__package__" 167 .none, en P "__loader__" 168 (.builtin "__main__.__loader__#opaque"), en P "__spec__" 169 .none, en P "__annotations__" 170 (.ref 6), en P "__builtins__" 171 (.ref 4), en P "__file__" 173 (.str "/claim/cut.py" 172), en P "__cached__" 174 .none, en P "_sre" 275 (.ref 12), en P "_wall" 288 (.ref 38), en P "replace" 298 (.ref 45)] 12)
noncomputable def od329 : Obj := oN (.fields #[.int 2 0, i0, .ref 37, .int 6 0, i0, .ref 44])
noncomputable def o34 : Obj := oT "tuple" (.seq #[.str "k" 285] 0)
noncomputable def o36 : Obj := oN (.func (fdT (stAt 1) (fO "_wall" "_wall" .none .none .none)))
noncomputable def o37 : Obj := oT "code" (.fields #[.str "_wall" 282, .str "_wall" 283, .str "/claim/cut.py" 284, .int 2 0, .int 1 0, i0, i0, .int 3 0, .ref 32, .bool true, .int 276 0, .ref 33, .none, .ref 34, .ref 35, .ref 36, .int 286 0, .int 2 0, .str "/claim/cut.py" 287])
noncomputable def o38 : Obj := oT "function" (.func (fdOf (stAt 1) (fO "_wall" "_wall" .none (.str "__main__" 164) (.ref 37))))
noncomputable def o41 : Obj := oT "tuple" (.seq #[.str "text" 294, .str "pairs" 295] 0)
noncomputable def o43 : Obj := oN (.func (fdT (stAt 3) (fO "replace" "replace" .none .none .none)))
noncomputable def o44 : Obj := oT "code" (.fields #[.str "replace" 291, .str "replace" 292, .str "/claim/cut.py" 293, .int 6 0, .int 1 0, i0, i0, .int 7 0, .ref 39, .bool true, .int 276 0, .ref 40, .none, .ref 41, .ref 42, .ref 43, .int 296 0, .int 6 0, .str "/claim/cut.py" 297])
noncomputable def o45 : Obj := oT "function" (.func (fdOf (stAt 3) (fO "replace" "replace" .none (.str "cpy313.pydoc" 289) (.ref 44))))
noncomputable def obheap_d3 (P : Params) : Heap := { objs := #[o0 P, o1 P, o2 P, od33 P, o4, o5, o6, o7, o8, o9, o10, o11 P, o12, o13 P, o14, o7, o16, o17, o18, o19, o20 P, o21 P, o22, o23, o24, o25, o26, o27, o7, od329, o30, o31, o7, o8, o34, o7, o36, o37, o38, o7, o8, o41, o7, o43, o44, o45], life := { registered := [], finalised := [], alive := [], known := 0, ids := [], orphanDicts := [], counting := false, cnt := #[] } }
noncomputable def od43 (P : Params) : Obj := oT "dict" (.dict #[en P "__name__" 165 (.str "cpy313.netrc" 299), en P "__doc__" 166 .none, en P "__package__" 167 .none, en P "__loader__" 168 (.builtin "__main__.__loader__#opaque"), en P "__spec__" 169 .none, en P "__annotations__" 170 (.ref 6), en P "__builtins__" 171 (.ref 4), en P "__file__" 173 (.str "/claim/cut.py" 172), en P "__cached__" 174 .none, en P "_sre" 275 (.ref 12), en P "_wall" 288 (.ref 38), en P "replace" 298 (.ref 45), en P "_netrclex" 358 (.ref 83)] 13)
noncomputable def od429 : Obj := oN (.fields #[.int 2 0, i0, .ref 37, .int 6 0, i0, .ref 44, .int 12 0, i0, .ref 51])
noncomputable def o47 : Obj := oT "builtin_function_or_method" (.fields #[.builtin "type.__prepare__", .type "type"])
noncomputable def o48 (P : Params) : Obj := oT "dict" (.dict #[en P "__module__" 308 (.str "cpy313.netrc" 299), en P "__qualname__" 310 (.str "_netrclex" 309), en P "__firstlineno__" 312 (.int 12 311), en P "__init__" 320 (.ref 59), en P "_read_char" 328 (.ref 66), en P "get_token" 338 (.ref 73), en P "push_token" 346 (.ref 80), en P "__static_attributes__" 351 (.ref 81)] 8)
noncomputable def o50 : Obj := oN (.fields #[.int 14 0, .int 4 0, .ref 58, .int 20 0, .int 4 0, .ref 65, .int 26 0, .int 4 0, .ref 72, .int 53 0, .int 4 0, .ref 79])
noncomputable def o51 : Obj := oT "code" (.fields #[.str "_netrclex" 303, .str "_netrclex" 304, .str "/claim/cut.py" 305, .int 12 0, i0, i0, i0, i0, .ref 49, .bool false, .int 276 0, .ref 50, .none, .none, .none, .none, .int 306 0, .int 12 0, .str "/claim/cut.py" 307])
noncomputable def o52 : Obj := { cls := .type "frame", dict := none, data := .plain, slots := #[some (.ref 51), some (.ref 3), some (.ref 48), none, some (.str "cpy313.netrc" 299), none, some (.ref 0)] }
noncomputable def o55 : Obj := oT "tuple" (.seq #[.str "self" 316, .str "fp" 317] 0)
noncomputable def o57 : Obj := oN (.func (fdT (clAt 5 0) (fO "__init__" "_netrclex.__init__" .none .none .none)))
noncomputable def o58 : Obj := oT "code" (.fields #[.str "__init__" 313, .str "_netrclex.__init__" 314, .str "/claim/cut.py" 315, .int 14 0, .int 2 0, i0, i0, .int 3 0, .ref 53, .bool true, .int 276 0, .ref 54, .none, .ref 55, .ref 56, .ref 57, .int 318 0, .int 14 0, .str "/claim/cut.py" 319])
noncomputable def o59 : Obj := oT "function" (.func (fdOf (clAt 5 0) (fO "__init__" "_netrclex.__init__" .none (.str "cpy313.netrc" 299) (.ref 58))))
noncomputable def o62 : Obj := oT "tuple" (.seq #[.str "self" 324, .str "ch" 325] 0)
noncomputable def o64 : Obj := oN (.func (fdT (clAt 5 1) (fO "_read_char" "_netrclex._read_char" .none .none .none)))
noncomputable def o65 : Obj := oT "code" (.fields #[.str "_read_char" 321, .str "_netrclex._read_char" 322, .str "/claim/cut.py" 323, .int 20 0, .int 1 0, i0, i0, .int 3 0, .ref 60, .bool true, .int 276 0, .ref 61, .none, .ref 62, .ref 63, .ref 64, .int 326 0, .int 20 0, .str "/claim/cut.py" 327])
noncomputable def o66 : Obj := oT "function" (.func (fdOf (clAt 5 1) (fO "_read_char" "_netrclex._read_char" .none (.str "cpy313.netrc" 299) (.ref 65))))
noncomputable def o69 : Obj := oT "tuple" (.seq #[.str "self" 332, .str "token" 333, .str "fiter" 334, .str "ch" 335] 0)
noncomputable def o71 : Obj := oN (.func (fdT (clAt 5 2) (fO "get_token" "_netrclex.get_token" .none .none .none)))
noncomputable def o72 : Obj := oT "code" (.fields #[.str "get_token" 329, .str "_netrclex.get_token" 330, .str "/claim/cut.py" 331, .int 26 0, .int 1 0, i0, i0, .int 3 0, .ref 67, .bool true, .int 276 0, .ref 68, .none, .ref 69, .ref 70, .ref 71, .int 336 0, .int 26 0, .str "/claim/cut.py" 337])
noncomputable def o73 : Obj := oT "function" (.func (fdOf (clAt 5 2) (fO "get_token" "_netrclex.get_token" .none (.str "cpy313.netrc" 299) (.ref 72))))
noncomputable def o76 : Obj := oT "tuple" (.seq #[.str "self" 342, .str "token" 343] 0)
noncomputable def o78 : Obj := oN (.func (fdT (clAt 5 3) (fO "push_token" "_netrclex.push_token" .none .none .none)))
noncomputable def o79 : Obj := oT "code" (.fields #[.str "push_token" 339, .str "_netrclex.push_token" 340, .str "/claim/cut.py" 341, .int 53 0, .int 2 0, i0, i0, .int 3 0, .ref 74, .bool true, .int 276 0, .ref 75, .none, .ref 76, .ref 77, .ref 78, .int 344 0, .int 53 0, .str "/claim/cut.py" 345])
noncomputable def o80 : Obj := oT "function" (.func (fdOf (clAt 5 3) (fO "push_token" "_netrclex.push_token" .none (.str "cpy313.netrc" 299) (.ref 79))))
noncomputable def o81 : Obj := oT "tuple" (.seq #[.str "instream" 347, .str "lineno" 348, .str "pushback" 349, .str "whitespace" 350] 0)
noncomputable def o82 (P : Params) : Obj := oT "dict" (.dict #[en P "__module__" 308 (.str "cpy313.netrc" 299), en P "__firstlineno__" 312 (.int 12 311), en P "__init__" 320 (.ref 59), en P "_read_char" 328 (.ref 66), en P "get_token" 338 (.ref 73), en P "push_token" 346 (.ref 80), en P "__static_attributes__" 351 (.ref 81), en P "__dict__" 353 (.ref 84), en P "__weakref__" 355 (.ref 85), en P "__doc__" 356 .none] 4)
noncomputable def o83 : Obj := { cls := .type "type", dict := none, data := .cls { name := "_netrclex", bases := [.type "object"], mro := [.ref 83, .type "object"], ns := 82, qualname := "_netrclex", hasDict := true, slotNames := [], subclasses := [], abstract := false, hasDel := false }, slots := #[none, none, some (.str "_netrclex" 301), some (.str "_netrclex" 309), some (.builtin "object.__new__"), some (.bool true)] }
noncomputable def o84 : Obj := oT "getset_descriptor" (.fields #[.str "__dict__" 352, .ref 83, .builtin "function.__dict__", .builtin "function.__dict__#set"])
noncomputable def o85 : Obj := oT "getset_descriptor" (.fields #[.str "__weakref__" 354, .ref 83, .builtin "ExceptionGroup.__weakref__", .none])
noncomputable def o86 : Obj := oT "super" (.fields #[.ref 83, .ref 83, .ref 83])
noncomputable def o87 : Obj := oT "builtin_function_or_method" (.fields #[.builtin "object.__init_subclass__", .ref 83])
noncomputable def obheap_d4 (P : Params) : Heap := { objs := #[o0 P, o1 P, o2 P, od43 P, o4, o5, o6, o7, o8, o9, o10, o11 P, o12, o13 P, o14, o7, o16, o17, o18, o19, o20 P, o21 P, o22, o23, o24, o25, o26, o27, o7, od429, o30, o31, o7, o8, o34, o7, o36, o37, o38, o7, o8, o41, o7, o43, o44, o45, o7, o47, o48 P, o7, o50, o51, o52, o7, o8, o55, o7, o57, o58, o59, o7, o8, o62, o7, o64, o65, o66, o7, o8, o69, o7, o71, o72, o73, o7, o8, o76, o7, o78, o79, o80, o81, o82 P, o83, o84, o85, o86, o87], life := { registered := [], finalised := [], alive := [], known := 0, ids := [], orphanDicts := [], counting := false, cnt := #[] } }
noncomputable def od93 (P : Params) : Obj := oT "dict" (.dict #[en P "__name__" 165 (.str "cpy313.wsgiref.headers" 359), en P "__doc__" 166 .none, en P "__package__" 167 .none, en P "__loader__" 168 (.builtin "__main__.__loader__#opaque"), en P "__spec__" 169 .none, en P "__annotations__" 170 (.ref 6), en P "__builtins__" 171 (.ref 4), en P "__file__" 173 (.str "/claim/cut.py" 172), en P "__cached__" 174 .none, en P "_sre" 275 (.ref 12), en P "_wall" 288 (.ref 38), en P "replace" 298 (.ref 45), en P "_netrclex" 358 (.ref 83), en P "tspecials" 394 (.ref 92), en P "_name_disallowed_re" 420 (.ref 97), en P "_value_disallowed_re" 454 (.ref 102), en P "_formatparam" 464 (.ref 110)] 17)
noncomputable def od929 : Obj := oN (.fields #[.int 2 0, i0, .ref 37, .int 6 0, i0, .ref 44, .int 12 0, i0, .ref 51, .int 59 0, i0, .ref 109])
noncomputable def o88 : Obj := oT "list" (.seq #[.int 14 364, .int 14 365, .int 4 366, .int 1 367, .int 1 368, .int 9 369, .int 0 370, .int 4227896069 371, .int 939524097 372, .int 0 373, .int 0 374, .int 0 375, .int 0 376, .int 0 377, .int 0 378, .int 13 379, .int 11 380, .int 9 381, .int 0 382, .int 4227896069 383, .int 939524097 384, .int 0 385, .int 0 386, .int 0 387, .int 0 388, .int 0 389, .int 0 390, .int 1 391] 0)
noncomputable def o90 : Obj := oT "tuple" (.seq #[.none] 0)
noncomputable def o91 : Obj := oT "tuple" (.seq #[.int 14 0, .int 14 0, .int 4 0, .int 1 0, .int 1 0, .int 9 0, i0, .int 4227896069 0, .int 939524097 0, i0, i0, i0, i0, i0, i0, .int 13 0, .int 11 0, .int 9 0, i0, .int 4227896069 0, .int 939524097 0, i0, i0, i0, i0, i0, i0, .int 1 0] 0)
noncomputable def o92 : Obj := oT "re.Pattern" (.fields #[.str "[ \\(\\)<>@,;:\\\\\"/\\[\\]\\?=]" 362, .int 32 393, i0, .none, .none, .ref 91, i0])
noncomputable def o93 : Obj := oT "list" (.seq #[.int 14 398, .int 10 399, .int 4 400, .int 1 401, .int 1 402, .int 22 403, .int 0 404, .int 31 405, .int 16 406, .int 127 407, .int 0 408, .int 13 409, .int 7 410, .int 22 411, .int 0 412, .int 31 413, .int 16 414, .int 127 415, .int 0 416, .int 1 417] 0)
noncomputable def o96 : Obj := oT "tuple" (.seq #[.int 14 0, .int 10 0, .int 4 0, .int 1 0, .int 1 0, .int 22 0, i0, .int 31 0, .int 16 0, .int 127 0, i0, .int 13 0, .int 7 0, .int 22 0, i0, .int 31 0, .int 16 0, .int 127 0, i0, .int 1 0] 0)
noncomputable def o97 : Obj := oT "re.Pattern" (.fields #[.str "[\\x00-\\x1F\\x7F]" 396, .int 32 419, i0, .none, .none, .ref 96, i0])
noncomputable def o98 : Obj := oT "list" (.seq #[.int 14 424, .int 14 425, .int 4 426, .int 1 427, .int 1 428, .int 9 429, .int 4294966783 430, .int 0 431, .int 0 432, .int 2147483648 433, .int 0 434, .int 0 435, .int 0 436, .int 0 437, .int 0 438, .int 13 439, .int 11 440, .int 9 441, .int 4294966783 442, .int 0 443, .int 0 444, .int 2147483648 445, .int 0 446, .int 0 447, .int 0 448, .int 0 449, .int 0 450, .int 1 451] 0)
noncomputable def o101 : Obj := oT "tuple" (.seq #[.int 14 0, .int 14 0, .int 4 0, .int 1 0, .int 1 0, .int 9 0, .int 4294966783 0, i0, i0, .int 2147483648 0, i0, i0, i0, i0, i0, .int 13 0, .int 11 0, .int 9 0, .int 4294966783 0, i0, i0, .int 2147483648 0, i0, i0, i0, i0, i0, .int 1 0] 0)
noncomputable def o102 : Obj := oT "re.Pattern" (.fields #[.str "[\\x00-\\x08\\x0A-\\x1F\\x7F]" 422, .int 32 453, i0, .none, .none, .ref 101, i0])
noncomputable def o103 : Obj := oT "tuple" (.seq #[.none, .int 1 455] 0)
noncomputable def o106 : Obj := oT "tuple" (.seq #[.str "param" 459, .str "value" 460, .str "quote" 461] 0)
noncomputable def o108 : Obj := oN (.func (fdT (stAt 10) (fO "_formatparam" "_formatparam" .none .none .none)))
noncomputable def o109 : Obj := oT "code" (.fields #[.str "_formatparam" 456, .str "_formatparam" 457, .str "/claim/cut.py" 458, .int 59 0, .int 3 0, i0, i0, .int 3 0, .ref 104, .bool true, .int 276 0, .ref 105, .none, .ref 106, .ref 107, .ref 108, .int 462 0, .int 59 0, .str "/claim/cut.py" 463])
noncomputable def o110 : Obj := oT "function" (.func (fdOf (stAt 10) (fO "_formatparam" "_formatparam" (.ref 103) (.str "cpy313.wsgiref.headers" 359) (.ref 109))))
noncomputable def obheap_d9 (P : Params) : Heap := { objs := #[o0 P, o1 P, o2 P, od93 P, o4, o5, o6, o7, o8, o9, o10, o11 P, o12, o13 P, o14, o7, o16, o17, o18, o19, o20 P, o21 P, o22, o23, o24, o25, o26, o27, o7, od929, o30, o31, o7, o8, o34, o7, o36, o37, o38, o7, o8, o41, o7, o43, o44, o45, o7, o47, o48 P, o7, o50, o51, o52, o7, o8, o55, o7, o57, o58, o59, o7, o8, o62, o7, o64, o65, o66, o7, o8, o69, o7, o71, o72, o73, o7, o8, o76, o7, o78, o79, o80, o81, o82 P, o83, o84, o85, o86, o87, o88, o6, o90, o91, o92, o93, o6, o90, o96, o97, o98, o6, o90, o101, o102, o103, o7, o8, o106, o7, o108, o109, o110], life := { registered := [], finalised := [], alive := [], known := 0, ids := [], orphanDicts := [], counting := false, cnt := #[] } }
noncomputable def od103 (P : Params) : Obj := oT "dict" (.dict #[en P "__name__" 165 (.str "cpy313.wsgiref.headers" 359), en P "__doc__" 166 .none, en P "__package__" 167 .none, en P "__loader__" 168 (.builtin "__main__.__loader__#opaque"), en P "__spec__" 169 .none, en P "__annotations__" 170 (.ref 6), en P "__builtins__" 171 (.ref 4), en P "__file__" 173 (.str "/claim/cut.py" 172), en P "__cached__" 174 .none, en P "_sre" 275 (.ref 12), en P "_wall" 288 (.ref 38), en P "replace" 298 (.ref 45), en P "_netrclex" 358 (.ref 83), en P "tspecials" 394 (.ref 92), en P "_name_disallowed_re" 420 (.ref 97), en P "_value_disallowed_re" 454 (.ref 102), en P "_formatparam" 464 (.ref 110), en P "Headers" 623 (.ref 233)] 18)
noncomputable def od1029 : Obj := oN (.fields #[.int 2 0, i0, .ref 37, .int 6 0, i0, .ref 44, .int 12 0, i0, .ref 51, .int 59 0, i0, .ref 109, .int 68 0, i0, .ref 116])
noncomputable def o113 (P : Params) : Obj := oT "dict" (.dict #[en P "__module__" 472 (.str "cpy313.wsgiref.headers" 359), en P "__qualname__" 474 (.str "Headers" 473), en P "__firstlineno__" 476 (.int 68 475), en P "__init__" 486 (.ref 125), en P "_convert_string_type" 496 (.ref 132), en P "__len__" 503 (.ref 139), en P "__setitem__" 512 (.ref 146), en P "__delitem__" 518 (.ref 151), en P "__getitem__" 526 (.ref 158), en P "__contains__" 534 (.ref 165), en P "get_all" 542 (.ref 172), en P "get" 553 (.ref 180), en P "keys" 559 (.ref 185), en P "values" 565 (.ref 190), en P "items" 572 (.ref 197), en P "__repr__" 579 (.ref 204), en P "__str__" 585 (.ref 209), en P "__bytes__" 592 (.ref 216), en P "setdefault" 601 (.ref 223), en P "add_header" 614 (.ref 230), en P "__static_attributes__" 616 (.ref 231)] 21)
noncomputable def o115 : Obj := oN (.fields #[.int 70 0, .int 4 0, .ref 124, .int 80 0, .int 4 0, .ref 131, .int 88 0, .int 4 0, .ref 138, .int 91 0, .int 4 0, .ref 145, .int 95 0, .int 4 0, .ref 150, .int 99 0, .int 4 0, .ref 157, .int 102 0, .int 4 0, .ref 164, .int 105 0, .int 4 0, .ref 171, .int 108 0, .int 4 0, .ref 179, .int 115 0, .int 4 0, .ref 184, .int 118 0, .int 4 0, .ref 189, .int 121 0, .int 4 0, .ref 196, .int 124 0, .int 4 0, .ref 203, .int 127 0, .int 4 0, .ref 208, .int 130 0, .int 4 0, .ref 215, .int 133 0, .int 4 0, .ref 222, .int 136 0, .int 4 0, .ref 229])
noncomputable def o116 : Obj := oT "code" (.fields #[.str "Headers" 467, .str "Headers" 468, .str "/claim/cut.py" 469, .int 68 0, i0, i0, i0, i0, .ref 114, .bool false, .int 276 0, .ref 115, .none, .none, .none, .none, .int 470 0, .int 68 0, .str "/claim/cut.py" 471])
noncomputable def o117 : Obj := { cls := .type "frame", dict := none, data := .plain, slots := #[some (.ref 116), some (.ref 3), some (.ref 113), none, some (.str "cpy313.wsgiref.headers" 359), none, some (.ref 0)] }
noncomputable def o121 : Obj := oT "tuple" (.seq #[.str "self" 480, .str "headers" 481, .str "k" 482, .str "v" 483] 0)
noncomputable def o123 : Obj := oN (.func (fdT (clAt 11 0) (fO "__init__" "Headers.__init__" .none .none .none)))
noncomputable def o124 : Obj := oT "code" (.fields #[.str "__init__" 477, .str "Headers.__init__" 478, .str "/claim/cut.py" 479, .int 70 0, .int 2 0, i0, i0, .int 3 0, .ref 119, .bool true, .int 276 0, .ref 120, .none, .ref 121, .ref 122, .ref 123, .int 484 0, .int 70 0, .str "/claim/cut.py" 485])
noncomputable def o125 : Obj := oT "function" (.func (fdOf (clAt 11 0) (fO "__init__" "Headers.__init__" (.ref 118) (.str "cpy313.wsgiref.headers" 359) (.ref 124))))
noncomputable def o128 : Obj := oT "tuple" (.seq #[.str "self" 490, .str "value" 491, .str "name" 492, .str "regex" 493] 0)
noncomputable def o130 : Obj := oN (.func (fdT (clAt 11 1) (fO "_convert_string_type" "Headers._convert_string_type" .none .none .none)))
noncomputable def o131 : Obj := oT "code" (.fields #[.str "_convert_string_type" 487, .str "Headers._convert_string_type" 488, .str "/claim/cut.py" 489, .int 80 0, .int 2 0, i0, .int 1 0, .int 3 0, .ref 126, .bool true, .int 276 0, .ref 127, .none, .ref 128, .ref 129, .ref 130, .int 494 0, .int 80 0, .str "/claim/cut.py" 495])
noncomputable def o132 : Obj := oT "function" (.func (fdOf (clAt 11 1) (fO "_convert_string_type" "Headers._convert_string_type" .none (.str "cpy313.wsgiref.headers" 359) (.ref 131))))
noncomputable def o135 : Obj := oT "tuple" (.seq #[.str "self" 500] 0)
noncomputable def o137 : Obj := oN (.func (fdT (clAt 11 2) (fO "__len__" "Headers.__len__" .none .none .none)))
noncomputable def o138 : Obj := oT "code" (.fields #[.str "__len__" 497, .str "Headers.__len__" 498, .str "/claim/cut.py" 499, .int 88 0, .int 1 0, i0, i0, .int 3 0, .ref 133, .bool true, .int 276 0, .ref 134, .none, .ref 135, .ref 136, .ref 137, .int 501 0, .int 88 0, .str "/claim/cut.py" 502])
noncomputable def o139 : Obj := oT "function" (.func (fdOf (clAt 11 2) (fO "__len__" "Headers.__len__" .none (.str "cpy313.wsgiref.headers" 359) (.ref 138))))
noncomputable def o142 : Obj := oT "tuple" (.seq #[.str "self" 507, .str "name" 508, .str "val" 509] 0)
noncomputable def o144 : Obj := oN (.func (fdT (clAt 11 3) (fO "__setitem__" "Headers.__setitem__" .none .none .none)))
noncomputable def o145 : Obj := oT "code" (.fields #[.str "__setitem__" 504, .str "Headers.__setitem__" 505, .str "/claim/cut.py" 506, .int 91 0, .int 3 0, i0, i0, .int 3 0, .ref 140, .bool true, .int 276 0, .ref 141, .none, .ref 142, .ref 143, .ref 144, .int 510 0, .int 91 0, .str "/claim/cut.py" 511])
noncomputable def o146 : Obj := oT "function" (.func (fdOf (clAt 11 3) (fO "__setitem__" "Headers.__setitem__" .none (.str "cpy313.wsgiref.headers" 359) (.ref 145))))
noncomputable def o149 : Obj := oN (.func (fdT (clAt 11 4) (fO "__delitem__" "Headers.__delitem__" .none .none .none)))
noncomputable def o150 : Obj := oT "code" (.fields #[.str "__delitem__" 513, .str "Headers.__delitem__" 514, .str "/claim/cut.py" 515, .int 95 0, .int 2 0, i0, i0, .int 3 0, .ref 147, .bool true, .int 276 0, .ref 148, .none, .none, .none, .ref 149, .int 516 0, .int 95 0, .str "/claim/cut.py" 517])
noncomputable def o151 : Obj := oT "function" (.func (fdOf (clAt 11 4) (fO "__delitem__" "Headers.__delitem__" .none (.str "cpy313.wsgiref.headers" 359) (.ref 150))))
noncomputable def o154 : Obj := oT "tuple" (.seq #[.str "self" 522, .str "name" 523] 0)
noncomputable def o156 : Obj := oN (.func (fdT (clAt 11 5) (fO "__getitem__" "Headers.__getitem__" .none .none .none)))
noncomputable def o157 : Obj := oT "code" (.fields #[.str "__getitem__" 519, .str "Headers.__getitem__" 520, .str "/claim/cut.py" 521, .int 99 0, .int 2 0, i0, i0, .int 3 0, .ref 152, .bool true, .int 276 0, .ref 153, .none, .ref 154, .ref 155, .ref 156, .int 524 0, .int 99 0, .str "/claim/cut.py" 525])
noncomputable def o158 : Obj := oT "function" (.func (fdOf (clAt 11 5) (fO "__getitem__" "Headers.__getitem__" .none (.str "cpy313.wsgiref.headers" 359) (.ref 157))))
noncomputable def o161 : Obj := oT "tuple" (.seq #[.str "self" 530, .str "name" 531] 0)
noncomputable def o163 : Obj := oN (.func (fdT (clAt 11 6) (fO "__contains__" "Headers.__contains__" .none .none .none)))
noncomputable def o164 : Obj := oT "code" (.fields #[.str "__contains__" 527, .str "Headers.__contains__" 528, .str "/claim/cut.py" 529, .int 102 0, .int 2 0, i0, i0, .int 3 0, .ref 159, .bool true, .int 276 0, .ref 160, .none, .ref 161, .ref 162, .ref 163, .int 532 0, .int 102 0, .str "/claim/cut.py" 533])
noncomputable def o165 : Obj := oT "function" (.func (fdOf (clAt 11 6) (fO "__contains__" "Headers.__contains__" .none (.str "cpy313.wsgiref.headers" 359) (.ref 164))))
noncomputable def o168 : Obj := oT "tuple" (.seq #[.str "self" 538, .str "name" 539] 0)
noncomputable def o170 : Obj := oN (.func (fdT (clAt 11 7) (fO "get_all" "Headers.get_all" .none .none .none)))
noncomputable def o171 : Obj := oT "code" (.fields #[.str "get_all" 535, .str "Headers.get_all" 536, .str "/claim/cut.py" 537, .int 105 0, .int 2 0, i0, i0, .int 3 0, .ref 166, .bool true, .int 276 0, .ref 167, .none, .ref 168, .ref 169, .ref 170, .int 540 0, .int 105 0, .str "/claim/cut.py" 541])
noncomputable def o172 : Obj := oT "function" (.func (fdOf (clAt 11 7) (fO "get_all" "Headers.get_all" .none (.str "cpy313.wsgiref.headers" 359) (.ref 171))))
noncomputable def o176 : Obj := oT "tuple" (.seq #[.str "self" 546, .str "name" 547, .str "default" 548, .str "k" 549, .str "v" 550] 0)
noncomputable def o178 : Obj := oN (.func (fdT (clAt 11 8) (fO "get" "Headers.get" .none .none .none)))
noncomputable def o179 : Obj := oT "code" (.fields #[.str "get" 543, .str "Headers.get" 544, .str "/claim/cut.py" 545, .int 108 0, .int 3 0, i0, i0, .int 3 0, .ref 174, .bool true, .int 276 0, .ref 175, .none, .ref 176, .ref 177, .ref 178, .int 551 0, .int 108 0, .str "/claim/cut.py" 552])
noncomputable def o180 : Obj := oT "function" (.func (fdOf (clAt 11 8) (fO "get" "Headers.get" (.ref 173) (.str "cpy313.wsgiref.headers" 359) (.ref 179))))
noncomputable def o183 : Obj := oN (.func (fdT (clAt 11 9) (fO "keys" "Headers.keys" .none .none .none)))
noncomputable def o184 : Obj := oT "code" (.fields #[.str "keys" 554, .str "Headers.keys" 555, .str "/claim/cut.py" 556, .int 115 0, .int 1 0, i0, i0, .int 3 0, .ref 181, .bool true, .int 276 0, .ref 182, .none, .none, .none, .ref 183, .int 557 0, .int 115 0, .str "/claim/cut.py" 558])
noncomputable def o185 : Obj := oT "function" (.func (fdOf (clAt 11 9) (fO "keys" "Headers.keys" .none (.str "cpy313.wsgiref.headers" 359) (.ref 184))))
noncomputable def o188 : Obj := oN (.func (fdT (clAt 11 10) (fO "values" "Headers.values" .none .none .none)))
noncomputable def o189 : Obj := oT "code" (.fields #[.str "values" 560, .str "Headers.values" 561, .str "/claim/cut.py" 562, .int 118 0, .int 1 0, i0, i0, .int 3 0, .ref 186, .bool true, .int 276 0, .ref 187, .none, .none, .none, .ref 188, .int 563 0, .int 118 0, .str "/claim/cut.py" 564])
noncomputable def o190 : Obj := oT "function" (.func (fdOf (clAt 11 10) (fO "values" "Headers.values" .none (.str "cpy313.wsgiref.headers" 359) (.ref 189))))
noncomputable def o193 : Obj := oT "tuple" (.seq #[.str "self" 569] 0)
noncomputable def o195 : Obj := oN (.func (fdT (clAt 11 11) (fO "items" "Headers.items" .none .none .none)))
noncomputable def o196 : Obj := oT "code" (.fields #[.str "items" 566, .str "Headers.items" 567, .str "/claim/cut.py" 568, .int 121 0, .int 1 0, i0, i0, .int 3 0, .ref 191, .bool true, .int 276 0, .ref 192, .none, .ref 193, .ref 194, .ref 195, .int 570 0, .int 121 0, .str "/claim/cut.py" 571])
noncomputable def o197 : Obj := oT "function" (.func (fdOf (clAt 11 11) (fO "items" "Headers.items" .none (.str "cpy313.wsgiref.headers" 359) (.ref 196))))
noncomputable def o200 : Obj := oT "tuple" (.seq #[.str "self" 576] 0)
noncomputable def o202 : Obj := oN (.func (fdT (clAt 11 12) (fO "__repr__" "Headers.__repr__" .none .none .none)))
noncomputable def o203 : Obj := oT "code" (.fields #[.str "__repr__" 573, .str "Headers.__repr__" 574, .str "/claim/cut.py" 575, .int 124 0, .int 1 0, i0, i0, .int 3 0, .ref 198, .bool true, .int 276 0, .ref 199, .none, .ref 200, .ref 201, .ref 202, .int 577 0, .int 124 0, .str "/claim/cut.py" 578])
noncomputable def o204 : Obj := oT "function" (.func (fdOf (clAt 11 12) (fO "__repr__" "Headers.__repr__" .none (.str "cpy313.wsgiref.headers" 359) (.ref 203))))
noncomputable def o207 : Obj := oN (.func (fdT (clAt 11 13) (fO "__str__" "Headers.__str__" .none .none .none)))
noncomputable def o208 : Obj := oT "code" (.fields #[.str "__str__" 580, .str "Headers.__str__" 581, .str "/claim/cut.py" 582, .int 127 0, .int 1 0, i0, i0, .int 3 0, .ref 205, .bool true, .int 276 0, .ref 206, .none, .none, .none, .ref 207, .int 583 0, .int 127 0, .str "/claim/cut.py" 584])
noncomputable def o209 : Obj := oT "function" (.func (fdOf (clAt 11 13) (fO "__str__" "Headers.__str__" .none (.str "cpy313.wsgiref.headers" 359) (.ref 208))))
noncomputable def o212 : Obj := oT "tuple" (.seq #[.str "self" 589] 0)
noncomputable def o214 : Obj := oN (.func (fdT (clAt 11 14) (fO "__bytes__" "Headers.__bytes__" .none .none .none)))
noncomputable def o215 : Obj := oT "code" (.fields #[.str "__bytes__" 586, .str "Headers.__bytes__" 587, .str "/claim/cut.py" 588, .int 130 0, .int 1 0, i0, i0, .int 3 0, .ref 210, .bool true, .int 276 0, .ref 211, .none, .ref 212, .ref 213, .ref 214, .int 590 0, .int 130 0, .str "/claim/cut.py" 591])
noncomputable def o216 : Obj := oT "function" (.func (fdOf (clAt 11 14) (fO "__bytes__" "Headers.__bytes__" .none (.str "cpy313.wsgiref.headers" 359) (.ref 215))))
noncomputable def o219 : Obj := oT "tuple" (.seq #[.str "self" 596, .str "name" 597, .str "value" 598] 0)
noncomputable def o221 : Obj := oN (.func (fdT (clAt 11 15) (fO "setdefault" "Headers.setdefault" .none .none .none)))
noncomputable def o222 : Obj := oT "code" (.fields #[.str "setdefault" 593, .str "Headers.setdefault" 594, .str "/claim/cut.py" 595, .int 133 0, .int 3 0, i0, i0, .int 3 0, .ref 217, .bool true, .int 276 0, .ref 218, .none, .ref 219, .ref 220, .ref 221, .int 599 0, .int 133 0, .str "/claim/cut.py" 600])
noncomputable def o223 : Obj := oT "function" (.func (fdOf (clAt 11 15) (fO "setdefault" "Headers.setdefault" .none (.str "cpy313.wsgiref.headers" 359) (.ref 222))))
noncomputable def o226 : Obj := oT "tuple" (.seq #[.str "self" 605, .str "_name" 606, .str "_value" 607, .str "_params" 608, .str "parts" 609, .str "k" 610, .str "v" 611] 0)
noncomputable def o228 : Obj := oN (.func (fdT (clAt 11 16) (fO "add_header" "Headers.add_header" .none .none .none)))
noncomputable def o229 : Obj := oT "code" (.fields #[.str "add_header" 602, .str "Headers.add_header" 603, .str "/claim/cut.py" 604, .int 136 0, .int 3 0, i0, i0, .int 11 0, .ref 224, .bool true, .int 276 0, .ref 225, .none, .ref 226, .ref 227, .ref 228, .int 612 0, .int 136 0, .str "/claim/cut.py" 613])
noncomputable def o230 : Obj := oT "function" (.func (fdOf (clAt 11 16) (fO "add_header" "Headers.add_header" .none (.str "cpy313.wsgiref.headers" 359) (.ref 229))))
noncomputable def o231 : Obj := oT "tuple" (.seq #[.str "_headers" 615] 0)
noncomputable def o232 (P : Params) : Obj := oT "dict" (.dict #[en P "__module__" 472 (.str "cpy313.wsgiref.headers" 359), en P "__firstlineno__" 476 (.int 68 475), en P "__init__" 486 (.ref 125), en P "_convert_string_type" 496 (.ref 132), en P "__len__" 503 (.ref 139), en P "__setitem__" 512 (.ref 146), en P "__delitem__" 518 (.ref 151), en P "__getitem__" 526 (.ref 158), en P "__contains__" 534 (.ref 165), en P "get_all" 542 (.ref 172), en P "get" 553 (.ref 180), en P "keys" 559 (.ref 185), en P "values" 565 (.ref 190), en P "items" 572 (.ref 197), en P "__repr__" 579 (.ref 204), en P "__str__" 585 (.ref 209), en P "__bytes__" 592 (.ref 216), en P "setdefault" 601 (.ref 223), en P "add_header" 614 (.ref 230), en P "__static_attributes__" 616 (.ref 231), en P "__dict__" 618 (.ref 234), en P "__weakref__" 620 (.ref 235), en P "__doc__" 621 .none] 4)
noncomputable def o233 : Obj := { cls := .type "type", dict := none, data := .cls { name := "Headers", bases := [.type "object"], mro := [.ref 233, .type "object"], ns := 232, qualname := "Headers", hasDict := true, slotNames := [], subclasses := [], abstract := false, hasDel := false }, slots := #[none, none, some (.str "Headers" 465), some (.str "Headers" 473), some (.builtin "object.__new__"), some (.bool true)] }
noncomputable def o234 : Obj := oT "getset_descriptor" (.fields #[.str "__dict__" 617, .ref 233, .builtin "function.__dict__", .builtin "function.__dict__#set"])
noncomputable def o235 : Obj := oT "getset_descriptor" (.fields #[.str "__weakref__" 619, .ref 233, .builtin "ExceptionGroup.__weakref__", .none])
noncomputable def o236 : Obj := oT "super" (.fields #[.ref 233, .ref 233, .ref 233])
noncomputable def o237 : Obj := oT "builtin_function_or_method" (.fields #[.builtin "object.__init_subclass__", .ref 233])
noncomputable def obheap_d10 (P : Params) : Heap := { objs := #[o0 P, o1 P, o2 P, od103 P, o4, o5, o6, o7, o8, o9, o10, o11 P, o12, o13 P, o14, o7, o16, o17, o18, o19, o20 P, o21 P, o22, o23, o24, o25, o26, o27, o7, od1029, o30, o31, o7, o8, o34, o7, o36, o37, o38, o7, o8, o41, o7, o43, o44, o45, o7, o47, o48 P, o7, o50, o51, o52, o7, o8, o55, o7, o57, o58, o59, o7, o8, o62, o7, o64, o65, o66, o7, o8, o69, o7, o71, o72, o73, o7, o8, o76, o7, o78, o79, o80, o81, o82 P, o83, o84, o85, o86, o87, o88, o6, o90, o91, o92, o93, o6, o90, o96, o97, o98, o6, o90, o101, o102, o103, o7, o8, o106, o7, o108, o109, o110, o7, o47, o113 P, o7, o115, o116, o117, o90, o7, o8, o121, o7, o123, o124, o125, o7, o8, o128, o7, o130, o131, o132, o7, o8, o135, o7, o137, o138, o139, o7, o8, o142, o7, o144, o145, o146, o7, o8, o149, o150, o151, o7, o8, o154, o7, o156, o157, o158, o7, o8, o161, o7, o163, o164, o165, o7, o8, o168, o7, o170, o171, o172, o90, o7, o8, o176, o7, o178, o179, o180, o7, o8, o183, o184, o185, o7, o8, o188, o189, o190, o7, o8, o193, o7, o195, o196, o197, o7, o8, o200, o7, o202, o203, o204, o7, o8, o207, o208, o209, o7, o8, o212, o7, o214, o215, o216, o7, o8, o219, o7, o221, o222, o223, o7, o8, o226, o7, o228, o229, o230, o231, o232 P, o233, o234, o235, o236, o237], life := { registered := [], finalised := [], alive := [], known := 0, ids := [], orphanDicts := [], counting := false, cnt := #[] } }
noncomputable def oe3 (P : Params) : Obj := oT "dict" (.dict #[en P "__name__" 165 (.str "law_pu0047_01" 624), en P "__doc__" 166 .none, en P "__package__" 167 .none, en P "__loader__" 168 (.builtin "__main__.__loader__#opaque"), en P "__spec__" 169 .none, en P "__annotations__" 170 (.ref 6), en P "__builtins__" 171 (.ref 4), en P "__file__" 173 (.str "/claim/cut.py" 172), en P "__cached__" 174 .none, en P "_sre" 275 (.ref 12), en P "_wall" 288 (.ref 38), en P "replace" 298 (.ref 45), en P "_netrclex" 358 (.ref 83), en P "tspecials" 394 (.ref 92), en P "_name_disallowed_re" 420 (.ref 97), en P "_value_disallowed_re" 454 (.ref 102), en P "_formatparam" 464 (.ref 110), en P "Headers" 623 (.ref 233), en P "_law_stream" 631 (.ref 242), en P "_law_back" 640 (.ref 249), en P "_law_moves" 653 (.ref 256), en P "_law_written" 659 (.ref 261), en P "_law_product" 669 (.ref 268), en P "_law_book" 675 (.ref 273), en P "_law_names" 681 (.ref 278), en P "_law_struck" 689 (.ref 285), en P "_law_put_in" 700 (.ref 292), en P "_law_sums" 715 (.ref 299), en P "_law_line" 721 (.ref 304), en P "_law_is_ring" 729 (.ref 311), en P "law" 735 (.ref 316)] 31)
noncomputable def oe29 : Obj := oN (.fields #[.int 2 0, i0, .ref 37, .int 6 0, i0, .ref 44, .int 12 0, i0, .ref 51, .int 59 0, i0, .ref 109, .int 68 0, i0, .ref 116, .int 150 0, i0, .ref 241, .int 161 0, i0, .ref 248, .int 166 0, i0, .ref 255, .int 175 0, i0, .ref 260, .int 181 0, i0, .ref 267, .int 190 0, i0, .ref 272, .int 196 0, i0, .ref 277, .int 201 0, i0, .ref 284, .int 207 0, i0, .ref 291, .int 214 0, i0, .ref 298, .int 224 0, i0, .ref 303, .int 229 0, i0, .ref 310, .int 233 0, i0, .ref 315])
noncomputable def o240 : Obj := oN (.func (fdT (stAt 13) (fO "_law_stream" "_law_stream" .none .none .none)))
noncomputable def o241 : Obj := oT "code" (.fields #[.str "_law_stream" 626, .str "_law_stream" 627, .str "/claim/cut.py" 628, .int 150 0, .int 1 0, i0, i0, .int 3 0, .ref 238, .bool true, .int 276 0, .ref 239, .none, .none, .none, .ref 240, .int 629 0, .int 150 0, .str "/claim/cut.py" 630])
noncomputable def o242 : Obj := oT "function" (.func (fdOf (stAt 13) (fO "_law_stream" "_law_stream" .none (.str "law_pu0047_01" 624) (.ref 241))))
noncomputable def o245 : Obj := oT "tuple" (.seq #[.str "word" 635, .str "back" 636, .str "sign" 637] 0)
noncomputable def o247 : Obj := oN (.func (fdT (stAt 14) (fO "_law_back" "_law_back" .none .none .none)))
noncomputable def o248 : Obj := oT "code" (.fields #[.str "_law_back" 632, .str "_law_back" 633, .str "/claim/cut.py" 634, .int 161 0, .int 1 0, i0, i0, .int 3 0, .ref 243, .bool true, .int 276 0, .ref 244, .none, .ref 245, .ref 246, .ref 247, .int 638 0, .int 161 0, .str "/claim/cut.py" 639])
noncomputable def o249 : Obj := oT "function" (.func (fdOf (stAt 14) (fO "_law_back" "_law_back" .none (.str "law_pu0047_01" 624) (.ref 248))))
noncomputable def o252 : Obj := oT "tuple" (.seq #[.str "script" 644, .str "moves" 645, .str "x" 646, .str "letter" 647, .str "other" 648, .str "undone" 649, .str "images" 650] 0)
noncomputable def o254 : Obj := oN (.func (fdT (stAt 15) (fO "_law_moves" "_law_moves" .none .none .none)))
noncomputable def o255 : Obj := oT "code" (.fields #[.str "_law_moves" 641, .str "_law_moves" 642, .str "/claim/cut.py" 643, .int 166 0, .int 1 0, i0, i0, .int 3 0, .ref 250, .bool true, .int 276 0, .ref 251, .none, .ref 252, .ref 253, .ref 254, .int 651 0, .int 166 0, .str "/claim/cut.py" 652])
noncomputable def o256 : Obj := oT "function" (.func (fdOf (stAt 15) (fO "_law_moves" "_law_moves" .none (.str "law_pu0047_01" 624) (.ref 255))))
noncomputable def o259 : Obj := oN (.func (fdT (stAt 16) (fO "_law_written" "_law_written" .none .none .none)))
noncomputable def o260 : Obj := oT "code" (.fields #[.str "_law_written" 654, .str "_law_written" 655, .str "/claim/cut.py" 656, .int 175 0, .int 2 0, i0, i0, .int 3 0, .ref 257, .bool true, .int 276 0, .ref 258, .none, .none, .none, .ref 259, .int 657 0, .int 175 0, .str "/claim/cut.py" 658])
noncomputable def o261 : Obj := oT "function" (.func (fdOf (stAt 16) (fO "_law_written" "_law_written" .none (.str "law_pu0047_01" 624) (.ref 260))))
noncomputable def o264 : Obj := oT "tuple" (.seq #[.str "words" 663, .str "out" 664, .str "word" 665, .str "sign" 666] 0)
noncomputable def o266 : Obj := oN (.func (fdT (stAt 17) (fO "_law_product" "_law_product" .none .none .none)))
noncomputable def o267 : Obj := oT "code" (.fields #[.str "_law_product" 660, .str "_law_product" 661, .str "/claim/cut.py" 662, .int 181 0, .int 1 0, i0, i0, .int 3 0, .ref 262, .bool true, .int 276 0, .ref 263, .none, .ref 264, .ref 265, .ref 266, .int 667 0, .int 181 0, .str "/claim/cut.py" 668])
noncomputable def o268 : Obj := oT "function" (.func (fdOf (stAt 17) (fO "_law_product" "_law_product" .none (.str "law_pu0047_01" 624) (.ref 267))))
noncomputable def o271 : Obj := oN (.func (fdT (stAt 18) (fO "_law_book" "_law_book" .none .none .none)))
noncomputable def o272 : Obj := oT "code" (.fields #[.str "_law_book" 670, .str "_law_book" 671, .str "/claim/cut.py" 672, .int 190 0, .int 1 0, i0, i0, .int 3 0, .ref 269, .bool true, .int 276 0, .ref 270, .none, .none, .none, .ref 271, .int 673 0, .int 190 0, .str "/claim/cut.py" 674])
noncomputable def o273 : Obj := oT "function" (.func (fdOf (stAt 18) (fO "_law_book" "_law_book" .none (.str "law_pu0047_01" 624) (.ref 272))))
noncomputable def o276 : Obj := oN (.func (fdT (stAt 19) (fO "_law_names" "_law_names" .none .none .none)))
noncomputable def o277 : Obj := oT "code" (.fields #[.str "_law_names" 676, .str "_law_names" 677, .str "/claim/cut.py" 678, .int 196 0, .int 1 0, i0, i0, .int 3 0, .ref 274, .bool true, .int 276 0, .ref 275, .none, .none, .none, .ref 276, .int 679 0, .int 196 0, .str "/claim/cut.py" 680])
noncomputable def o278 : Obj := oT "function" (.func (fdOf (stAt 19) (fO "_law_names" "_law_names" .none (.str "law_pu0047_01" 624) (.ref 277))))
noncomputable def o281 : Obj := oT "tuple" (.seq #[.str "word" 685, .str "less" 686] 0)
noncomputable def o283 : Obj := oN (.func (fdT (stAt 20) (fO "_law_struck" "_law_struck" .none .none .none)))
noncomputable def o284 : Obj := oT "code" (.fields #[.str "_law_struck" 682, .str "_law_struck" 683, .str "/claim/cut.py" 684, .int 201 0, .int 1 0, i0, i0, .int 3 0, .ref 279, .bool true, .int 276 0, .ref 280, .none, .ref 281, .ref 282, .ref 283, .int 687 0, .int 201 0, .str "/claim/cut.py" 688])
noncomputable def o285 : Obj := oT "function" (.func (fdOf (stAt 20) (fO "_law_struck" "_law_struck" .none (.str "law_pu0047_01" 624) (.ref 284))))
noncomputable def o288 : Obj := oT "tuple" (.seq #[.str "text" 693, .str "words" 694, .str "k" 695, .str "letter" 696, .str "image" 697] 0)
noncomputable def o290 : Obj := oN (.func (fdT (stAt 21) (fO "_law_put_in" "_law_put_in" .none .none .none)))
noncomputable def o291 : Obj := oT "code" (.fields #[.str "_law_put_in" 690, .str "_law_put_in" 691, .str "/claim/cut.py" 692, .int 207 0, .int 2 0, i0, i0, .int 3 0, .ref 286, .bool true, .int 276 0, .ref 287, .none, .ref 288, .ref 289, .ref 290, .int 698 0, .int 207 0, .str "/claim/cut.py" 699])
noncomputable def o292 : Obj := oT "function" (.func (fdOf (stAt 21) (fO "_law_put_in" "_law_put_in" .none (.str "law_pu0047_01" 624) (.ref 291))))
noncomputable def o295 : Obj := oT "tuple" (.seq #[.str "moves" 704, .str "sums" 705, .str "letter" 706, .str "image" 707, .str "way" 708, .str "new" 709, .str "sign" 710, .str "ways" 711, .str "row" 712] 0)
noncomputable def o297 : Obj := oN (.func (fdT (stAt 22) (fO "_law_sums" "_law_sums" .none .none .none)))
noncomputable def o298 : Obj := oT "code" (.fields #[.str "_law_sums" 701, .str "_law_sums" 702, .str "/claim/cut.py" 703, .int 214 0, .int 1 0, i0, i0, .int 3 0, .ref 293, .bool true, .int 276 0, .ref 294, .none, .ref 295, .ref 296, .ref 297, .int 713 0, .int 214 0, .str "/claim/cut.py" 714])
noncomputable def o299 : Obj := oT "function" (.func (fdOf (stAt 22) (fO "_law_sums" "_law_sums" .none (.str "law_pu0047_01" 624) (.ref 298))))
noncomputable def o302 : Obj := oN (.func (fdT (stAt 23) (fO "_law_line" "_law_line" .none .none .none)))
noncomputable def o303 : Obj := oT "code" (.fields #[.str "_law_line" 716, .str "_law_line" 717, .str "/claim/cut.py" 718, .int 224 0, .int 2 0, i0, i0, .int 3 0, .ref 300, .bool true, .int 276 0, .ref 301, .none, .none, .none, .ref 302, .int 719 0, .int 224 0, .str "/claim/cut.py" 720])
noncomputable def o304 : Obj := oT "function" (.func (fdOf (stAt 23) (fO "_law_line" "_law_line" .none (.str "law_pu0047_01" 624) (.ref 303))))
noncomputable def o307 : Obj := oT "tuple" (.seq #[.str "word" 725, .str "due" 726] 0)
noncomputable def o309 : Obj := oN (.func (fdT (stAt 24) (fO "_law_is_ring" "_law_is_ring" .none .none .none)))
noncomputable def o310 : Obj := oT "code" (.fields #[.str "_law_is_ring" 722, .str "_law_is_ring" 723, .str "/claim/cut.py" 724, .int 229 0, .int 2 0, i0, i0, .int 3 0, .ref 305, .bool true, .int 276 0, .ref 306, .none, .ref 307, .ref 308, .ref 309, .int 727 0, .int 229 0, .str "/claim/cut.py" 728])
noncomputable def o311 : Obj := oT "function" (.func (fdOf (stAt 24) (fO "_law_is_ring" "_law_is_ring" .none (.str "law_pu0047_01" 624) (.ref 310))))
noncomputable def o314 : Obj := oN (.func (fdT (stAt 25) (fO "law" "law" .none .none .none)))
noncomputable def o315 : Obj := oT "code" (.fields #[.str "law" 730, .str "law" 731, .str "/claim/cut.py" 732, .int 233 0, .int 1 0, i0, i0, .int 3 0, .ref 312, .bool true, .int 276 0, .ref 313, .none, .none, .none, .ref 314, .int 733 0, .int 233 0, .str "/claim/cut.py" 734])
noncomputable def o316 : Obj := oT "function" (.func (fdOf (stAt 25) (fO "law" "law" .none (.str "law_pu0047_01" 624) (.ref 315))))
noncomputable def obheap_e (P : Params) : Heap := { objs := #[o0 P, o1 P, o2 P, oe3 P, o4, o5, o6, o7, o8, o9, o10, o11 P, o12, o13 P, o14, o7, o16, o17, o18, o19, o20 P, o21 P, o22, o23, o24, o25, o26, o27, o7, oe29, o30, o31, o7, o8, o34, o7, o36, o37, o38, o7, o8, o41, o7, o43, o44, o45, o7, o47, o48 P, o7, o50, o51, o52, o7, o8, o55, o7, o57, o58, o59, o7, o8, o62, o7, o64, o65, o66, o7, o8, o69, o7, o71, o72, o73, o7, o8, o76, o7, o78, o79, o80, o81, o82 P, o83, o84, o85, o86, o87, o88, o6, o90, o91, o92, o93, o6, o90, o96, o97, o98, o6, o90, o101, o102, o103, o7, o8, o106, o7, o108, o109, o110, o7, o47, o113 P, o7, o115, o116, o117, o90, o7, o8, o121, o7, o123, o124, o125, o7, o8, o128, o7, o130, o131, o132, o7, o8, o135, o7, o137, o138, o139, o7, o8, o142, o7, o144, o145, o146, o7, o8, o149, o150, o151, o7, o8, o154, o7, o156, o157, o158, o7, o8, o161, o7, o163, o164, o165, o7, o8, o168, o7, o170, o171, o172, o90, o7, o8, o176, o7, o178, o179, o180, o7, o8, o183, o184, o185, o7, o8, o188, o189, o190, o7, o8, o193, o7, o195, o196, o197, o7, o8, o200, o7, o202, o203, o204, o7, o8, o207, o208, o209, o7, o8, o212, o7, o214, o215, o216, o7, o8, o219, o7, o221, o222, o223, o7, o8, o226, o7, o228, o229, o230, o231, o232 P, o233, o234, o235, o236, o237, o7, o8, o240, o241, o242, o7, o8, o245, o7, o247, o248, o249, o7, o8, o252, o7, o254, o255, o256, o7, o8, o259, o260, o261, o7, o8, o264, o7, o266, o267, o268, o7, o8, o271, o272, o273, o7, o8, o276, o277, o278, o7, o8, o281, o7, o283, o284, o285, o7, o8, o288, o7, o290, o291, o292, o7, o8, o295, o7, o297, o298, o299, o7, o8, o302, o303, o304, o7, o8, o307, o7, o309, o310, o311, o7, o8, o314, o315, o316], life := { registered := [], finalised := [], alive := [], known := 0, ids := [], orphanDicts := [], counting := false, cnt := #[] } }
noncomputable def frag (P : Params) : W.Frag := [(0, o0 P), (1, o1 P), (3, oe3 P), (4, o4), (44, o44), (45, o45), (58, o58), (59, o59), (65, o65), (66, o66), (72, o72), (73, o73), (82, o82 P), (83, o83), (96, o96), (97, o97), (101, o101), (102, o102), (118, o90), (124, o124), (125, o125), (131, o131), (132, o132), (145, o145), (146, o146), (150, o150), (151, o151), (173, o90), (179, o179), (180, o180), (184, o184), (185, o185), (208, o208), (209, o209), (229, o229), (230, o230), (232, o232 P), (233, o233), (239, o8), (241, o241), (242, o242), (248, o248), (249, o249), (255, o255), (256, o256), (260, o260), (261, o261), (267, o267), (268, o268), (272, o272), (273, o273), (277, o277), (278, o278), (284, o284), (285, o285), (291, o291), (292, o292), (298, o298), (299, o299), (303, o303), (304, o304), (310, o310), (311, o311), (315, o315), (316, o316)]
noncomputable def ads : List Addr := [0, 1, 3, 4, 44, 45, 58, 59, 65, 66, 72, 73, 82, 83, 96, 97, 101, 102, 118, 124, 125, 131, 132, 145, 146, 150, 151, 173, 179, 180, 184, 185, 208, 209, 229, 230, 232, 233, 239, 241, 242, 248, 249, 255, 256, 260, 261, 267, 268, 272, 273, 277, 278, 284, 285, 291, 292, 298, 299, 303, 304, 310, 311, 315, 316]
noncomputable def keep : List Nat := [0, 1, 3, 5, 7, 8, 9, 11, 13, 14, 15, 16, 17, 18, 19, 20, 21, 22, 23, 24, 25]
noncomputable def loose : List Str := ["tspecials", "_name_disallowed_re", "_value_disallowed_re", "_formatparam"]
noncomputable def vw : Program := PySem.W.view Challenge.pw_pu0047_01 keep
noncomputable abbrev xt : Shared → Bool := fun s => xlAt vw [] s && recOk (RowW.records (OpenRow.toRowW Challenge.rw_pu0047_01.row)) s
noncomputable def tenv : Env := { scope := Challenge.pw_pu0047_01.main.scope, locals := mainNs, globals := mainNs, cells := [], code := .ref 30, frame := some 31 }
noncomputable def bd : List Stmt := behindTheImports Challenge.pw_pu0047_01
noncomputable def cbd : Code := .body bd tenv
noncomputable abbrev sh (h : Params → Heap) (k : Nat) (w : World) (os : OsState) : Shared := ⟨h w.params, #[], {}, k, os⟩
noncomputable abbrev tf : List Frame := [topFrame { line := 0, col := 0, endLine := 0, endCol := 0 }]
theorem hd_open (w : World) : (fencedOpening treeTable Challenge.pw_pu0047_01 w 3702).map (fun s => (s.heap, s.gens, s.drawn, s.toks)) = some (obheap_a w.params, #[], {}, 276) := by kernel_rfl
theorem hd_size (w : World) : ((obheap_a w.params).isNs mainGlobals && (#[] : Array GenState).size == 0, (obheap_a w.params).objs.size, (obheap_a w.params).nsMap mainGlobals "__annotations__") = (true, 28, some (.ref 6)) := by kernel_rfl
theorem hd_pre (w : World) (os : OsState) : topGo treeTable Challenge.pw_pu0047_01 w 28 (some (.ref 6)) 12 (sh obheap_a 276 w os) (topStub Challenge.pw_pu0047_01) = some ((sh obheap_b 282 w os), ⟨denote treeTable cbd, cbd, { line := 0, col := 0, endLine := 0, endCol := 0 }, tf⟩) := by kernel_rfl
theorem hd_block (w : World) (os : OsState) : segRun treeTable Challenge.pw_pu0047_01 w 28 (some (.ref 6)) 1 1 (sh obheap_b 282 w os) (blockOf bd tenv cbd { line := 0, col := 0, endLine := 0, endCol := 0 } tf) = some (.next, (sh obheap_b 282 w os), cbd, { line := 0, col := 0, endLine := 0, endCol := 0 }) := by kernel_rfl
theorem hd_p0 (w : World) (os : OsState) : segRun treeTable Challenge.pw_pu0047_01 w 28 (some (.ref 6)) 1 78 (sh obheap_b 282 w os) (piecesOf ((bd.drop 0).take 4) tenv cbd { line := 0, col := 0, endLine := 0, endCol := 0 } tf) = some (.next, (sh obheap_d3 301 w os), cbd, { line := 11, col := 0, endLine := 11, endCol := 8 }) := by kernel_rfl
theorem hd_p1 (w : World) (os : OsState) : segRun treeTable Challenge.pw_pu0047_01 w 28 (some (.ref 6)) 1 324 (sh obheap_d3 301 w os) (piecesOf ((bd.drop 4).take 1) tenv cbd { line := 11, col := 0, endLine := 11, endCol := 8 } tf) = some (.next, (sh obheap_d4 359 w os), cbd, { line := 12, col := 0, endLine := 54, endCol := 16 }) := by kernel_rfl
theorem hd_p2 (w : World) (os : OsState) : segRun treeTable Challenge.pw_pu0047_01 w 28 (some (.ref 6)) 1 266 (sh obheap_d4 359 w os) (piecesOf ((bd.drop 5).take 5) tenv cbd { line := 12, col := 0, endLine := 54, endCol := 16 } tf) = some (.next, (sh obheap_d9 465 w os), cbd, { line := 59, col := 0, endLine := 67, endCol := 20 }) := by kernel_rfl
theorem hd_p3 (w : World) (os : OsState) : segRun treeTable Challenge.pw_pu0047_01 w 28 (some (.ref 6)) 1 731 (sh obheap_d9 465 w os) (piecesOf ((bd.drop 10).take 1) tenv cbd { line := 59, col := 0, endLine := 67, endCol := 20 } tf) = some (.next, (sh obheap_d10 624 w os), cbd, { line := 68, col := 0, endLine := 148, endCol := 93 }) := by kernel_rfl
theorem hd_p4 (w : World) (os : OsState) : segRun treeTable Challenge.pw_pu0047_01 w 28 (some (.ref 6)) 1 394 (sh obheap_d10 624 w os) (piecesOf ((bd.drop 11).take 14) tenv cbd { line := 68, col := 0, endLine := 148, endCol := 93 } tf) = some (.next, (sh obheap_e 736 w os), cbd, { line := 233, col := 0, endLine := 253, endCol := 110 }) := by kernel_rfl
theorem hd_body : bd = (((bd.drop 0).take 4) ++ (((bd.drop 4).take 1) ++ (((bd.drop 5).take 5) ++ (((bd.drop 10).take 1) ++ (((bd.drop 11).take 14) ++ []))))) := by kernel_rfl
theorem hd_fin (w : World) (os : OsState) : topRun treeTable Challenge.pw_pu0047_01 w 28 (some (.ref 6)) 2 (sh obheap_e 736 w os) ⟨doneF .next, cbd, { line := 233, col := 0, endLine := 253, endCol := 110 }, tf⟩ = some (sh obheap_e 736 w os) := by kernel_rfl
theorem hd_rest (w : World) (os : OsState) : topRun treeTable Challenge.pw_pu0047_01 w 28 (some (.ref 6)) (78 + (324 + (266 + (731 + (394 + 2))))) (sh obheap_b 282 w os) (restOf bd tenv cbd { line := 0, col := 0, endLine := 0, endCol := 0 } tf) = some (sh obheap_e 736 w os) := by
 have h := piece_app (hd_p0 w os) (piece_app (hd_p1 w os) (piece_app (hd_p2 w os) (piece_app (hd_p3 w os) (piece_app (hd_p4 w os) (piece_nil (hd_fin w os))))))
 rw [← hd_body] at h
 exact h
theorem hd_run (w : World) (os : OsState) : topRun treeTable Challenge.pw_pu0047_01 w 28 (some (.ref 6)) (12 + (1 + (78 + (324 + (266 + (731 + (394 + 2))))))) (sh obheap_a 276 w os) (topStub Challenge.pw_pu0047_01) = some (sh obheap_e 736 w os) := go_top (hd_pre w os) (piece_block (hd_block w os) (hd_rest w os))
theorem hd_looks (w : World) : (fun os => ((staticsOk (importedModules Challenge.pw_pu0047_01.main.body) (obheap_a w.params) (obheap_e w.params) && namesBound Challenge.pw_pu0047_01 (obheap_e w.params) && gensDone (sh obheap_e 736 w os) && laidKept (obheap_a w.params) (obheap_e w.params)),
  openSeen vw loose (importedModules Challenge.pw_pu0047_01.main.body) xt true (sh obheap_e 736 w os), obsZ ads (sh obheap_e 736 w os))) = fun _ => (true, openGood vw loose, valZ frag 317 736 w) := by kernel_rfl
theorem hd_left : LeftO Challenge.pw_pu0047_01 vw loose xt (obsZ ads) (valZ frag 317 736) 3702 := LeftO.of_pieces hd_open hd_size hd_run (by decide) hd_looks
theorem hd_keys (P : Params) : ads = (frag P).map (·.1) := rfl
theorem hd_said : Challenge.rw_pu0047_01.wellSaid = true := by decide +kernel
end Mine
open PySem PySem.W PySem.W.X PySem.W.ZRun PyProof.Rows
theorem PySem.Challenge.cw_pu0047_01_holds : PySem.Challenge.rw_pu0047_01.Holds := by
  w_on
  refine holds_law Mine.hd_said fun said => ?_
  refine holds_openX (q := Mine.vw) (loose := Mine.loose) (Xt := Mine.xt) (XP := XL Mine.vw []) (Yf := obsZ Mine.ads) (Ya := valZ Mine.frag 317 736) (N := 3702) Mine.hd_left (fun s e => xl_of s (Bool.and_eq_true_iff.mp e).1) XL.keeps (by rfl) (by rfl) (by rfl) (fun s e => recFacts_of (Bool.and_eq_true_iff.mp e).2) (by rfl) said (by decide +kernel) ⟨rfl, rfl, rfl, rfl, rfl, by decide +kernel⟩ ?hw ?hc
  case hw => w_witness2
  intro w s₀ s₁ mg mb G y fa o pm cd doc dV kV ho hd hcd hD hmg hg args vals as L hpre hlay hrd hwl hlo
  obtain ⟨ZA, ZI, ZN, ZT⟩ := z_facts Mine.hd_keys y
  have KX : (Mine.frag w.params).In s₁.heap := InK.keeps w s₀.heap s₁.heap ZI (Laid.keeps L)
  refine Ground.open G ?_
  intro T B D TE TW
  wrow_args hpre hlay hrd hwl hlo
  obtain ⟨hat, hsz⟩ := script_at L
  rw [ZN] at hat hsz
  subst hat
  x_fa T KX hmg
  all_lens
  rename_i w1' r0' hi9 hb9
  clear hd hcd hD
  have G3 : s₁.heap.Ns 3 mg := T.g
  have G0 : s₁.heap.Ns 0 mb := T.b
  have reP : ∀ p ∈ ([97, 102] : List Addr), Mine.ReAt (Mine.KK Challenge.rw_pu0047_01.row.prog w s₁.heap) p ∧ ∀ o, (Mine.KK Challenge.rw_pu0047_01.row.prog w s₁.heap).h0.get? p = some o → o.dict = none := by
    intro p hp
    simp only [List.mem_cons, List.not_mem_nil, or_false] at hp
    rcases hp with rfl | rfl
    · refine ⟨⟨⟨_, _, 96, _, _, _, KX 97 _ rfl, rfl, rfl, rfl, rfl, rfl, KX 96 _ rfl, rfl, rfl, .inl (by kernel_rfl), (show (96 : Addr) ≠ 239 by decide)⟩, (show (97 : Addr) ≠ 239 by decide)⟩, fun o e => ?_⟩
      have e' := KX 97 _ rfl
      rw [e'] at e; cases e; rfl
    · refine ⟨⟨⟨_, _, 101, _, _, _, KX 102 _ rfl, rfl, rfl, rfl, rfl, rfl, KX 101 _ rfl, rfl, rfl, .inr (by kernel_rfl), (show (101 : Addr) ≠ 239 by decide)⟩, (show (102 : Addr) ≠ 239 by decide)⟩, fun o e => ?_⟩
      have e' := KX 102 _ rfl
      rw [e'] at e; cases e; rfl
  have N : Mine.S3 (Mine.KK Challenge.rw_pu0047_01.row.prog w s₁.heap) (Mine.Kcut (Mine.fragOf KX)) mg mb :=
    {
      G := ⟨G3, (show (3 : Addr) ≠ 239 by decide), G0, (show (0 : Addr) ≠ 239 by decide), T.nolimit, (show cStatics ≠ 239 by decide)⟩
      X := Mine.kf_of KX
      attrs := rfl
      x_Headers___str__ := Mine.fnok_of KX (c := 208) (Mine.fnOf (Mine.fragOf KX) 209) rfl rfl rfl rfl rfl rfl (by decide) (by decide) rfl rfl rfl rfl rfl
      m_Headers___str__ := by kernel_rfl
      x_Headers__convert_string_type := Mine.fnok_of KX (c := 131) (Mine.fnOf (Mine.fragOf KX) 132) rfl rfl rfl rfl rfl rfl (by decide) (by decide) rfl rfl rfl rfl rfl
      m_Headers__convert_string_type := by kernel_rfl
      x_Headers_add_header := Mine.fnok_of KX (c := 229) (Mine.fnOf (Mine.fragOf KX) 230) rfl rfl rfl rfl rfl rfl (by decide) (by decide) rfl rfl rfl rfl rfl
      m_Headers_add_header := by kernel_rfl
      x_Headers_get := Mine.fnokD_of KX (c := 179) (Mine.fnOf (Mine.fragOf KX) 180) rfl rfl rfl rfl rfl rfl (by decide) (by decide) rfl rfl rfl rfl rfl
      bd_Headers_get := (by
        intro fd S a0 a1 hd hk
        obtain ⟨n1, n2, n3, n4, n5, n6, n7, n8, n9, n10, n11, n12, n13, n14, n15⟩ := fd
        subst hd; subst hk
        kernel_rfl)
      m_Headers_get := by kernel_rfl
      x_Headers_keys := Mine.fnok_of KX (c := 184) (Mine.fnOf (Mine.fragOf KX) 185) rfl rfl rfl rfl rfl rfl (by decide) (by decide) rfl rfl rfl rfl rfl
      m_Headers_keys := by kernel_rfl
      x__law_back := Mine.fnok_of KX (c := 248) (Mine.fnOf (Mine.fragOf KX) 249) rfl rfl rfl rfl rfl rfl (by decide) (by decide) rfl rfl rfl rfl rfl
      g__law_back := Mine.ns_of KX G3 (by kernel_rfl)
      x__law_moves := Mine.fnok_of KX (c := 255) (Mine.fnOf (Mine.fragOf KX) 256) rfl rfl rfl rfl rfl rfl (by decide) (by decide) rfl rfl rfl rfl rfl
      g__law_moves := Mine.ns_of KX G3 (by kernel_rfl)
      x__law_written := Mine.fnok_of KX (c := 260) (Mine.fnOf (Mine.fragOf KX) 261) rfl rfl rfl rfl rfl rfl (by decide) (by decide) rfl rfl rfl rfl rfl
      g__law_written := Mine.ns_of KX G3 (by kernel_rfl)
      x__netrclex___init__ := Mine.fnok_of KX (c := 58) (Mine.fnOf (Mine.fragOf KX) 59) rfl rfl rfl rfl rfl rfl (by decide) (by decide) rfl rfl rfl rfl rfl
      m__netrclex___init__ := by kernel_rfl
      x__netrclex__read_char := Mine.fnok_of KX (c := 65) (Mine.fnOf (Mine.fragOf KX) 66) rfl rfl rfl rfl rfl rfl (by decide) (by decide) rfl rfl rfl rfl rfl
      m__netrclex__read_char := by kernel_rfl
      x__netrclex_get_token := Mine.fnok_of KX (c := 72) (Mine.fnOf (Mine.fragOf KX) 73) rfl rfl rfl rfl rfl rfl (by decide) (by decide) rfl rfl rfl rfl rfl
      m__netrclex_get_token := by kernel_rfl
      x_Headers___init__ := Mine.fnokD_of KX (c := 124) (Mine.fnOf (Mine.fragOf KX) 125) rfl rfl rfl rfl rfl rfl (by decide) (by decide) rfl rfl rfl rfl rfl
      bd_Headers___init__ := (by
        intro fd S a0 a1 hd hk
        obtain ⟨n1, n2, n3, n4, n5, n6, n7, n8, n9, n10, n11, n12, n13, n14, n15⟩ := fd
        subst hd; subst hk
        kernel_rfl)
      m_Headers___init__ := by kernel_rfl
      x_Headers___delitem__ := Mine.fnok_of KX (c := 150) (Mine.fnOf (Mine.fragOf KX) 151) rfl rfl rfl rfl rfl rfl (by decide) (by decide) rfl rfl rfl rfl rfl
      m_Headers___delitem__ := by kernel_rfl
      x_Headers___setitem__ := Mine.fnok_of KX (c := 145) (Mine.fnOf (Mine.fragOf KX) 146) rfl rfl rfl rfl rfl rfl (by decide) (by decide) rfl rfl rfl rfl rfl
      m_Headers___setitem__ := by kernel_rfl
      x__law_product := Mine.fnok_of KX (c := 267) (Mine.fnOf (Mine.fragOf KX) 268) rfl rfl rfl rfl rfl rfl (by decide) (by decide) rfl rfl rfl rfl rfl
      g__law_product := Mine.ns_of KX G3 (by kernel_rfl)
      x__law_book := Mine.fnok_of KX (c := 272) (Mine.fnOf (Mine.fragOf KX) 273) rfl rfl rfl rfl rfl rfl (by decide) (by decide) rfl rfl rfl rfl rfl
      g__law_book := Mine.ns_of KX G3 (by kernel_rfl)
      x_replace := Mine.fnok_of KX (c := 44) (Mine.fnOf (Mine.fragOf KX) 45) rfl rfl rfl rfl rfl rfl (by decide) (by decide) rfl rfl rfl rfl rfl
      g_replace := Mine.ns_of KX G3 (by kernel_rfl)
      x__law_struck := Mine.fnok_of KX (c := 284) (Mine.fnOf (Mine.fragOf KX) 285) rfl rfl rfl rfl rfl rfl (by decide) (by decide) rfl rfl rfl rfl rfl
      g__law_struck := Mine.ns_of KX G3 (by kernel_rfl)
      x__law_put_in := Mine.fnok_of KX (c := 291) (Mine.fnOf (Mine.fragOf KX) 292) rfl rfl rfl rfl rfl rfl (by decide) (by decide) rfl rfl rfl rfl rfl
      g__law_put_in := Mine.ns_of KX G3 (by kernel_rfl)
      x__law_sums := Mine.fnok_of KX (c := 298) (Mine.fnOf (Mine.fragOf KX) 299) rfl rfl rfl rfl rfl rfl (by decide) (by decide) rfl rfl rfl rfl rfl
      g__law_sums := Mine.ns_of KX G3 (by kernel_rfl)
      x__law_is_ring := Mine.fnok_of KX (c := 310) (Mine.fnOf (Mine.fragOf KX) 311) rfl rfl rfl rfl rfl rfl (by decide) (by decide) rfl rfl rfl rfl rfl
      g__law_is_ring := Mine.ns_of KX G3 (by kernel_rfl)
      x__law_line := Mine.fnok_of KX (c := 303) (Mine.fnOf (Mine.fragOf KX) 304) rfl rfl rfl rfl rfl rfl (by decide) (by decide) rfl rfl rfl rfl rfl
      g__law_line := Mine.ns_of KX G3 (by kernel_rfl)
      x__law_names := Mine.fnok_of KX (c := 277) (Mine.fnOf (Mine.fragOf KX) 278) rfl rfl rfl rfl rfl rfl (by decide) (by decide) rfl rfl rfl rfl rfl
      g__law_names := Mine.ns_of KX G3 (by kernel_rfl)
      g_Headers := Mine.ns_of KX G3 (by kernel_rfl)
      c_Headers := by kernel_rfl
      f_Headers__headers := by kernel_rfl
      g__netrclex := Mine.ns_of KX G3 (by kernel_rfl)
      c__netrclex := by kernel_rfl
      f__netrclex_lineno := by kernel_rfl
      f__netrclex_instream := by kernel_rfl
      f__netrclex_whitespace := by kernel_rfl
      f__netrclex_pushback := by kernel_rfl
      g__name_disallowed_re := Mine.ns_of KX G3 (by kernel_rfl)
      g__value_disallowed_re := Mine.ns_of KX G3 (by kernel_rfl)
      abs0 := Mine.ns_of KX G3 (by kernel_rfl)
      abs1 := Mine.ns_of KX G0 (by kernel_rfl)
      iter0 := Mine.ns_of KX G3 (by kernel_rfl)
      iter1 := Mine.ns_of KX G0 (by kernel_rfl)
      len0 := Mine.ns_of KX G3 (by kernel_rfl)
      len1 := Mine.ns_of KX G0 (by kernel_rfl)
      list0 := Mine.ns_of KX G3 (by kernel_rfl)
      list1 := Mine.ns_of KX G0 (by kernel_rfl)
      range0 := Mine.ns_of KX G3 (by kernel_rfl)
      range1 := Mine.ns_of KX G0 (by kernel_rfl)
      str0 := Mine.ns_of KX G3 (by kernel_rfl)
      str1 := Mine.ns_of KX G0 (by kernel_rfl)
      type0 := Mine.ns_of KX G3 (by kernel_rfl)
      type1 := Mine.ns_of KX G0 (by kernel_rfl)
      bd0_Headers___init__ := (by
        intro fd S a0 hd hk
        obtain ⟨n1, n2, n3, n4, n5, n6, n7, n8, n9, n10, n11, n12, n13, n14, n15⟩ := fd
        subst hd; subst hk
        kernel_rfl)
      sm := ⟨_, KX 1 _ rfl⟩
      rc := rfl
      rcm := by kernel_rfl
      rc1 := by kernel_rfl
      rc2 := by kernel_rfl
      rt := Mine.read_text
      re := reP
    }
  have SF : Mine.StreamFacts (Mine.KK Challenge.rw_pu0047_01.row.prog w s₁.heap) mg mb (Mine.stAt 13) 242 241 :=
    { G := N.G
      fn := ⟨Mine.fnOf (Mine.fragOf KX) 242, ⟨⟨_, KX 242 _ rfl, rfl⟩, (show (242 : Addr) ≠ 239 by decide), rfl, ⟨241, _, _, _, rfl, KX 241 _ rfl, rfl, rfl, (show (241 : Addr) ≠ 239 by decide)⟩, rfl, rfl, rfl, rfl, rfl, rfl⟩, rfl, rfl, rfl⟩
      hd := ⟨_, _, _, _, _, _, _, _, _, KX 241 _ rfl, rfl, rfl, rfl, rfl, rfl, rfl, rfl, rfl, (show (241 : Addr) ≠ 239 by decide)⟩
      bl := ⟨4, _, Mine.ns_of KX G3 (by kernel_rfl), by decide, by decide, (show (4 : Addr) ≠ 239 by decide), KX 4 _ rfl, rfl, rfl, rfl⟩
      emp := fun ps e => e }
  have eTB := KX 239 _ rfl
  have H0 : Mine.HRel (Mine.KK Challenge.rw_pu0047_01.row.prog w s₁.heap) [] [] s₁.heap :=
    ⟨⟨_, eTB⟩, fun _ _ e _ => e, ⟨#[], rfl, eTB⟩, rfl, List.nodup_nil, (fun _ h => by cases h), (fun _ h => by cases h), (fun _ h => by cases h), (fun _ _ _ h => by cases h)⟩
  have FX : Mine.FnOk (Mine.KK Challenge.rw_pu0047_01.row.prog w s₁.heap) 316 (Mine.stAt 25) :=
    Mine.fnok_of KX (c := 315) (Mine.fnOf (Mine.fragOf KX) 316) rfl rfl rfl rfl rfl rfl (by decide) (by decide) rfl rfl rfl rfl rfl
  have hv := Mine.well_vr (by assumption)
  refine wpAny_mono (Mine.law1_end KX N SF (Mine.ns_of KX G3 (by kernel_rfl)) FX H0 ⟨241, _, _, KX 241 _ rfl, rfl, rfl, rfl⟩ eTB hb9.2 hv) ?_ (fun _ _ x => x)
  rintro v s' ⟨rfl, a, b, c⟩
  exact ⟨.inl ⟨.bool true, .bool true, [], rfl, (fun _ => rfl), .bool true, (by kernel_rfl), fun _ => ⟨List.nodup_nil, fun _ h => by cases h⟩⟩, a, b, AllBare.of_eq (c.trans hg)⟩
