import PyProof.Rows.All
import Wide.All
import OpenK.AllK
import Wide.FinOn
import PyProof.Rows.Range3
import KE.KxPercentT
import PyProof.DictItemsLoops
import PyProof.StrLawsChain
import KE.KStar
import PyProof.StrCalls6
import PyProof.ToksMono
import PyProof.Rows.ZipGen
import PyProof.ListNew
import KE.KItemsList
import PyProof.DictDisplay
import PyProof.FString5
import KE.KLam
import PyProof.StrLawsReplace
import PySem.Challenge.RW_pu0047_02
set_option tactic.hygienic false
set_option linter.all false
set_option bootstrap.genMatcherCode false
set_option Elab.async false
set_option autoImplicit false
set_option maxRecDepth 100000
set_option maxHeartbeats 0
namespace Mine
theorem Lq{a c:Nat}(k:Nat.ble a c=true:=by rfl):a≤c:=Nat.le_of_ble_eq_true k
theorem Lb{a b c:Nat}(h:a≤b)(k:Nat.ble b c=true:=by rfl):a≤c:=Nat.le_trans h (Nat.le_of_ble_eq_true k)
theorem Bl{a b c:Nat}(h:b≤c)(k:Nat.ble a b=true:=by rfl):a≤c:=Nat.le_trans (Nat.le_of_ble_eq_true k) h
theorem Ls{a b:Nat}(h:a+1≤b+1):a≤b:=Nat.le_of_succ_le_succ h
theorem LS{a b:Nat}(h:a≤b):a+1≤b+1:=Nat.succ_le_succ h
theorem Ll{a b:Nat}(h:a<b):a≤b:=Nat.le_of_lt h
theorem Nl{a b:Nat}(h:a<b):a≠b:=Nat.ne_of_lt h
theorem Ng{a b:Nat}(h:a<b):b≠a:=Nat.ne_of_gt h
theorem Tt{a b c:Nat}(h:a≤b)(k:b≤c):a≤c:=Nat.le_trans h k
theorem Tl{a b c:Nat}(h:a<b)(k:b<c):a<c:=Nat.lt_trans h k
theorem Tu{a b c:Nat}(h:a≤b)(k:b<c):a<c:=Nat.lt_of_le_of_lt h k
theorem T3{a b c d:Nat}(h:a<b)(k:b<c)(l:c<d):a<d:=Nat.lt_trans h (Nat.lt_trans k l)
theorem T4{a b c d e:Nat}(h:a<b)(k:b<c)(l:c<d)(m:d<e):a<e:=Nat.lt_trans h (T3 k l m)
theorem Lr{a b:Nat}:a≤a+b:=Nat.le_add_right a b
theorem Lf{a b:Nat}:a≤b+a:=Nat.le_add_left a b
theorem Qe{a b:Nat}(h:a=b):a≤b:=Nat.le_of_eq h
theorem Qr{a b:Nat}(h:a=b):b≤a:=Nat.le_of_eq h.symm
open PySem
inductive V where
 | d (x:PyData)
 | r (i:Nat)
 | rng (a b c:Int)
 | g (v:Value)
inductive O where
 | lst (l:List PyData)
 | inst (c:Addr) (fs:List (Nat×V))
 | stream (l:List Nat)
 | citer (o:Option Nat)
 | edict
 | own
 | dict1 (x y:Str)
structure KX where
 prog:Program
 w:World
 h0:Heap
 hg:Addr→Option Obj
 sub:∀ b o,h0.get? b=some o→hg b=some o
 tb:Addr
 tc:Addr
 ok:Array Value→Prop
 attrs:List Str
 readChar:Addr
 streamFn:FuncData
 readFd:FuncData
theorem viaP{B:Prop}(h:∀ P:Prop,(B→P)→P):B:=h B id
structure P where
 a:Addr
 m:Addr
 f:List Addr
abbrev Rho:=List P
noncomputable abbrev mu(ρ:Rho):List Addr:=ρ.map (·.m)
abbrev IsT(h:Heap)(l:Addr)(items:Array Value)(n:Nat):Prop:=h.get? l=some { cls:=.type "tuple", dict:=none,data:=.seq items n,slots:=#[] }
mutual
inductive DR(h:Heap)(μ:List Addr):Value→PyData→Prop
 | none:DR h μ .none .none
 | bool (b:Bool):DR h μ (.bool b) (.bool b)
 | int (i:Int) (t:Tok):DR h μ (.int i t) (.int i)
 | str (x:Str) (t:Tok):DR h μ (.str x t) (.str x)
 | list {a:Addr} {vs:Array Value} {n:Nat} {xs:List PyData}:IsL h a vs n→a ∉ μ→DRs h μ vs.toList xs→DR h μ (.ref a) (.list xs)
 | tuple {a:Addr} {vs:Array Value} {n:Nat} {xs:List PyData}:IsT h a vs n→a ∉ μ→DRs h μ vs.toList xs→DR h μ (.ref a) (.tuple xs)
inductive DRs(h:Heap)(μ:List Addr):List Value→List PyData→Prop
 | nil:DRs h μ [] []
 | cons {v:Value} {vs:List Value} {x:PyData} {xs:List PyData}:DR h μ v x→DRs h μ vs xs→DRs h μ (v::vs) (x::xs)
end
theorem DR.mono{h h':Heap}{μ μ':List Addr}(hk:∀ a o vs n,h.get? a=some o→o.data = .seq vs n→a ∉ μ→h'.get? a=some o∧a ∉ μ'){v:Value}{x:PyData}(r:DR h μ v x):DR h' μ' v x :=
 DR.rec (motive_1:=fun v x z=>DR h' μ' v x) (motive_2:=fun vs xs z=>DRs h' μ' vs xs) .none .bool .int .str (fun h1 h4 z q=>.list (hk _ _ _ _ h1 rfl h4).1 (hk _ _ _ _ h1 rfl h4).2 q) (fun h1 h4 z q=>.tuple (hk _ _ _ _ h1 rfl h4).1 (hk _ _ _ _ h1 rfl h4).2 q) .nil (fun z z a b=>.cons a b) r
theorem DRs.mono{h h':Heap}{μ μ':List Addr}(hk:∀ a o vs n,h.get? a=some o→o.data = .seq vs n→a ∉ μ→h'.get? a=some o∧a ∉ μ'){vs:List Value}{xs:List PyData}(r:DRs h μ vs xs):DRs h' μ' vs xs:=by
 induction vs generalizing xs with
 | nil=>cases r;exact .nil
 | cons v vs ih=>cases r with | cons a b=>exact .cons (DR.mono hk a) (ih b)
theorem DR.reads{h:Heap}{μ:List Addr}{v:Value}{x:PyData}(r:DR h μ v x):∃ as,Reads h v x as :=
 DR.rec (motive_1:=fun v x z=>∃ as,Reads h v x as) (motive_2:=fun vs xs z=>∃ as,ReadsAll h vs xs as) ⟨_,.none⟩ (fun b=>⟨_,.bool b⟩) (fun i t=>⟨_,.int i t⟩) (fun x t=>⟨_,.str x t⟩) (fun h1 z z q=>q.elim fun z r=>⟨_,.list h1 rfl rfl r⟩) (fun h1 z z q=>q.elim fun z r=>⟨_,.tuple h1 rfl rfl r⟩) ⟨_,.nil⟩ (fun z z a b=>a.elim fun z p=>b.elim fun z q=>⟨_,.cons p q⟩) r
theorem DRs.reads{h:Heap}{μ:List Addr}{vs:List Value}{xs:List PyData}(r:DRs h μ vs xs):∃ as,ReadsAll h vs xs as:=by
 induction vs generalizing xs with
 | nil=>cases r;exact⟨_,.nil⟩
 | cons v vs ih=>cases r with | cons a b=>obtain⟨_,p⟩:=a.reads;obtain⟨_,q⟩:=ih b;exact⟨_,.cons p q⟩
theorem DRs.length{h:Heap}{μ:List Addr}{vs:List Value}{xs:List PyData}(r:DRs h μ vs xs):vs.length=xs.length:=by
 induction vs generalizing xs with
 | nil=>cases r;rfl
 | cons v vs ih=>cases r with | cons _ r=>simp[ih r]
theorem DRs.append{h:Heap}{μ:List Addr}{vs ws:List Value}{xs ys:List PyData}(r:DRs h μ vs xs)(q:DRs h μ ws ys):DRs h μ (vs++ws) (xs++ys):=by
 induction vs generalizing xs with
 | nil=>cases r;exact q
 | cons v vs ih=>cases r with | cons h r=>exact .cons h (ih r)
theorem DRs.get{h:Heap}{μ:List Addr}{vs:List Value}{xs:List PyData}(r:DRs h μ vs xs){k:Nat}{x:PyData}(e:xs[k]?=some x):∃ v,vs[k]?=some v∧DR h μ v x:=by
 induction vs generalizing xs k with
 | nil=>cases r;simp at e
 | cons v vs ih =>
  cases r with
  | cons h r =>
   cases k with
   | zero=>simp at e;subst e;exact⟨v,by simp,h⟩
   | succ k=>simp at e;obtain⟨w,hw,q⟩:=ih r e;exact⟨w,by simpa using hw,q⟩
theorem DRs.get'{h:Heap}{μ:List Addr}{vs:List Value}{xs:List PyData}(r:DRs h μ vs xs){k:Nat}{v:Value}(e:vs[k]?=some v):∃ x,xs[k]?=some x∧DR h μ v x:=by
 induction vs generalizing xs k with
 | nil=>simp at e
 | cons w vs ih =>
  cases r with
  | cons h r =>
   cases k with
   | zero=>simp at e;subst e;exact⟨_,by simp,h⟩
   | succ k=>simp at e;obtain⟨w,hw,q⟩:=ih r e;exact⟨w,by simpa using hw,q⟩
theorem DRs.take{h:Heap}{μ:List Addr}{vs:List Value}{xs:List PyData}(r:DRs h μ vs xs)(k:Nat):DRs h μ (vs.take k) (xs.take k):=by
 induction vs generalizing xs k with
 | nil=>cases r;simp;exact .nil
 | cons v vs ih=>cases r with | cons h r=>cases k with
  | zero=>exact .nil
  | succ k=>exact .cons h (ih r k)
theorem DRs.drop{h:Heap}{μ:List Addr}{vs:List Value}{xs:List PyData}(r:DRs h μ vs xs)(k:Nat):DRs h μ (vs.drop k) (xs.drop k):=by
 induction vs generalizing xs k with
 | nil=>cases r;simp;exact .nil
 | cons v vs ih=>cases r with | cons h r=>cases k with
  | zero=>exact .cons h r
  | succ k=>exact ih r k
theorem DRs.set{h:Heap}{μ:List Addr}{vs:List Value}{xs:List PyData}(r:DRs h μ vs xs)(k:Nat){v:Value}{x:PyData}(e:DR h μ v x):DRs h μ (vs.set k v) (xs.set k x):=by
 induction vs generalizing xs k with
 | nil=>cases r;simp;exact .nil
 | cons w vs ih=>cases r with | cons h r=>cases k with
  | zero=>exact .cons e r
  | succ k=>exact .cons h (ih r k)
theorem DRs.reverse{h:Heap}{μ:List Addr}{vs:List Value}{xs:List PyData}(r:DRs h μ vs xs):DRs h μ vs.reverse xs.reverse:=by
 induction vs generalizing xs with
 | nil=>cases r;exact .nil
 | cons w vs ih=>cases r with | cons h r=>simp only[List.reverse_cons];exact(ih r).append (.cons h .nil)
def isG:Value→Prop
 | .ref _=>True
 | .type _=>True
 | _=>False
inductive PlaceR(ρ:Rho)(i:Nat)(v:Value):Prop
 | mk (p:P) (e:ρ[i]?=some p) (ev:v = .ref p.a)
inductive RngR(ρ:Rho)(h:Heap)(a b c:Int)(v:Value):Prop
 | mk (q:Addr) (t u w:Tok) (ev:v = .ref q) (e:h.get? q=some { cls:=.type "range", data:=.fields #[.int a t,.int b u,.int c w] }) (hm:q ∉ mu ρ)
def VR(ρ:Rho)(h:Heap):V→Value→Prop
 | .d x,v=>DR h (mu ρ) v x
 | .r i,v=>PlaceR ρ i v
 | .rng a b c,v=>RngR ρ h a b c v
 | .g v,w=>w=v∧isG v
inductive Held(ρ:Rho)(h:Heap)(o:Option Value)(v:V):Prop
 | mk (rv:Value) (e:o=some rv) (r:VR ρ h v rv)
end Mine
namespace Mine
open PySem
abbrev KX.New(K:KX)(a:Addr):Prop:=K.hg a=none
theorem AA{h:Heap}{a:Addr}(ha:h.objs.size≤a):h.get? a=none:=by
 cases e:h.get? a with
 | none=>rfl
 | some o=>exact absurd (Heap.lt_size e) (Nat.not_lt.mpr ha)
theorem AP{h:Heap}{a b:Addr}{o:Obj}(ha:h.get? a=none)(hb:h.get? b=some o):b≠a:=by
 rintro rfl;rw[ha] at hb;cases hb
theorem KX.ne{K:KX}{a b:Addr}{o:Obj}(ha:K.New a)(hb:K.hg b=some o):b≠a:=by
 rintro rfl;rw[show K.hg b=none from ha] at hb;cases hb
structure SD where
 oF:Obj
 fd:FuncData
 D:Addr
 od:Obj
 m:Str→Option Value
 R:Addr
 oR:Obj
 rfd:FuncData
 c:Addr
 oc:Obj
 vs:Array Value
 n:Nat
 cc:Addr
 oc':Obj
 cvs:Array Value
 t:Tok
structure SA(hg:Addr→Option Obj)(tb:Addr)(rf:FuncData)(h:Heap)(p:P)(d:SD):Prop where
 a1:h.get? p.a=some d.oF
 a2:d.oF.cls = .type "function"
 a3:d.oF.dict=some d.D
 a4:d.oF.data = .func d.fd
 a5:p.a∈p.f
 b1:h.get? d.D=some d.od
 b3:h.Ns d.D d.m
 b4:d.D∈p.f
 b6:d.m "read" = some (.ref d.R)
 b7:∀ x,x≠("read" : Str)→d.m x=none
 c1:h.get? d.R=some d.oR
 c2:d.oR.cls = .type "function"
 c3:d.oR.dict=none
 c4:d.oR.data = .func d.rfd
 c5:d.R∈p.f
 c7:d.rfd.params=rf.params
 c8:d.rfd.body=rf.body
 c9:d.rfd.scope=rf.scope
 c10:d.rfd.globals=3
 c11:d.rfd.closure=[(("left" : Str),d.c)]
 c12:d.rfd.defaults = .none
 c13:d.rfd.kwdefaults = .none
 c14:d.rfd.builtins=0
 d1:d.rfd.code = .ref d.cc
 d2:(h.get? d.cc=some d.oc'∧d.cc∈p.f)∨(hg d.cc=some d.oc'∧d.cc≠tb)
 d3:d.oc'.data = .fields d.cvs
 d4:d.cvs[1]?=some (.str d.rfd.qualname d.t)
 e1:h.get? d.c=some d.oc
 e2:d.oc.data = .cell (some (.ref p.m))
 e3:d.c∈p.f
theorem SA.keeps{hg:Addr→Option Obj}{tb:Addr}{rf:FuncData}{h h':Heap}{p:P}{d:SD}(X:SA hg tb rf h p d)(hk:∀ b o,h.get? b=some o→b∈p.f→h'.get? b=some o):SA hg tb rf h' p d where
 a1:=hk _ _ X.a1 X.a5
 a2:=X.a2
 a3:=X.a3
 a4:=X.a4
 a5:=X.a5
 b1:=hk _ _ X.b1 X.b4
 b3:=by obtain⟨o,es,ep,e,q⟩:=X.b3;exact⟨o,es,ep,hk _ _ e X.b4,q⟩
 b4:=X.b4
 b6:=X.b6
 b7:=X.b7
 c1:=hk _ _ X.c1 X.c5
 c2:=X.c2
 c3:=X.c3
 c4:=X.c4
 c5:=X.c5
 c7:=X.c7
 c8:=X.c8
 c9:=X.c9
 c10:=X.c10
 c11:=X.c11
 c12:=X.c12
 c13:=X.c13
 c14:=X.c14
 d1:=X.d1
 d2:=X.d2.imp (fun q=>⟨hk _ _ q.1 q.2,q.2⟩) id
 d3:=X.d3
 d4:=X.d4
 e1:=hk _ _ X.e1 X.e3
 e2:=X.e2
 e3:=X.e3
theorem SA.vs{hg:Addr→Option Obj}{tb:Addr}{rf:FuncData}{h:Heap}{p:P}{d:SD}(X:SA hg tb rf h p d)(vs:Array Value)(n:Nat):SA hg tb rf h p { d with vs:=vs,n:=n }:=⟨X.a1,X.a2,X.a3,X.a4,X.a5,X.b1,X.b3,X.b4,X.b6,X.b7,X.c1,X.c2,X.c3,X.c4,X.c5,X.c7,X.c8,X.c9,X.c10,X.c11,X.c12,X.c13,X.c14,X.d1,X.d2,X.d3,X.d4,X.e1,X.e2,X.e3⟩
def StreamAt(K:KX)(ρ:Rho)(h:Heap)(p:P)(l:List Nat):Prop :=
 ∃ d:SD,SA K.hg K.tb K.readFd h p d∧IsL h p.m d.vs d.n∧DRs h (mu ρ) d.vs.toList (l.reverse.map fun c=>.str ⟨#[c]⟩)
def isField:V→Prop
 | .rng ..=>False
 | .g _=>False
 | _=>True
inductive OLst(ρ:Rho)(h:Heap)(p:P)(l:List PyData):Prop
 | mk (ea:p.a=p.m) (vs:Array Value) (n:Nat) (hl:IsL h p.m vs n) (d:DRs h (mu ρ) vs.toList l)
inductive OInst(at':List Str)(ρ:Rho)(h:Heap)(i:Nat)(p:P)(c:Addr)(fs:List (Nat×V)):Prop
 | mk (o od:Obj) (m:Str→Option Value) (h1:h.get? p.a=some o) (h2:o.cls = .ref c) (h3:o.dict=some p.m) (h4:o.data = .plain) (h5:p.a∈p.f)
   (h7:h.get? p.m=some od) (h8:od.cls = .type "dict") (h9:h.Ns1 p.m m)
   (h10:∀ k x,at'[k]?=some x→match fs.lookup k with
    | some v=>Held ρ h (m x) v∧(∀ j,v = .r j→j<i)∧isField v
    | none=>m x=none) (h11:∀ x,x ∉ at'→m x=none)
inductive OCit(rc:Addr)(ρ:Rho)(h:Heap)(i:Nat)(p:P)(c:Option Nat):Prop
 | mk (ea:p.a=p.m) (o:Obj) (vs:Array Value) (h1:h.get? p.m=some o) (h2:o.cls = .type "callable_iterator") (h3:o.data = .fields vs)
   (h4:match c with
   | none=>vs = #[.none,.none,.bool true]
   | some j=>j<i∧∃ M t q,vs = #[.ref M,.str ⟨#[]⟩ t,.bool false]∧h.get? M=some (W.methodObj (.ref rc) (.ref q.a))∧M∈p.f∧ρ[j]?=some q)
def OR(K:KX)(ρ:Rho)(h:Heap)(i:Nat)(p:P):O→Prop
 | .lst l=>OLst ρ h p l
 | .inst c fs=>OInst K.attrs ρ h i p c fs
 | .stream l=>StreamAt K ρ h p l
 | .edict=>p.a=p.m∧h.get? p.m=some { cls:=.type "dict", data:=.dict #[] }
 | .own=>p.a=p.m∧∃ a b:Value,h.get? p.m=some { cls:=.type "tuple", data:=.seq #[a,b] }
 | .dict1 x y=>p.a=p.m∧∃ (t ty:Tok),h.get? p.m=some { cls:=.type "dict", dict:=none,data:=.dict #[⟨hashStr K.w x,.str x t,.str y ty⟩] 1,slots:=#[] }
 | .citer c=>OCit K.readChar ρ h i p c
inductive TabOk(K:KX)(h:Heap):Prop
 | mk (ps:Array Value) (okp:K.ok ps) (e:h.get? K.tb=some { cls:=.none,data:=.fields ps })
structure HRel(K:KX)(ρ:Rho)(hp:List O)(h:Heap):Prop where
 tbd:∃ o,K.hg K.tb=some o
 keepG:∀ b o,K.hg b=some o→b≠K.tb→h.get? b=some o
 tab:TabOk K h
 len:ρ.length=hp.length
 nd:(mu ρ).Nodup
 hi:∀ p∈ρ,K.New p.m
 fx:∀ p∈ρ,∀ a∈p.f,a ∉ mu ρ∧K.New a
 lt:∀ p∈ρ,(∃ o,h.get? p.m=some o)∧∀ a∈p.f,∃ o,h.get? a=some o
 ob:∀ i o p,hp[i]?=some o→ρ[i]?=some p→OR K ρ h i p o
theorem HRel.keep{K:KX}{ρ:Rho}{hp:List O}{h:Heap}(H:HRel K ρ hp h)(b:Addr)(o:Obj)(e:K.h0.get? b=some o)(hb:b≠K.tb):h.get? b=some o:=H.keepG b o (K.sub b o e) hb
structure Step(K:KX)(ρ:Rho)(h:Heap)(ρ':Rho)(h':Heap):Prop where
 pre:ρ <+: ρ'
 new:∀ p∈ρ',p∈ρ∨(h.get? p.m=none∧∀ a∈p.f,h.get? a=none)
 keep:∀ b o,h.get? b=some o→b≠K.tb→b ∉ mu ρ→h'.get? b=some o
 dom:∀ b o,h.get? b=some o→∃ o',h'.get? b=some o'
theorem AJ{h h':Heap}(hd:∀ b o,h.get? b=some o→∃ o',h'.get? b=some o'){a:Addr}(e:h'.get? a=none):h.get? a=none:=by
 cases q:h.get? a with
 | none=>rfl
 | some o=>obtain⟨o',q'⟩:=hd a o q;rw[e] at q';cases q'
theorem Step.refl(K:KX)(ρ:Rho)(h:Heap):Step K ρ h ρ h:=⟨List.prefix_refl _,fun z hp=>.inl hp,fun z z e z z=>e,fun z o e=>⟨o,e⟩⟩
theorem Step.grow{K:KX}{ρ:Rho}{h h':Heap}(hk:∀ b o,h.get? b=some o→h'.get? b=some o):Step K ρ h ρ h' :=
 ⟨List.prefix_refl _,fun z hp=>.inl hp,fun z z e z z=>hk _ _ e,fun z o e=>⟨o,hk _ _ e⟩⟩
theorem Step.notMu{K:KX}{ρ ρ':Rho}{h h':Heap}(S:Step K ρ h ρ' h'){b:Addr}{o:Obj}(hb:h.get? b=some o)(hn:b ∉ mu ρ):b ∉ mu ρ':=by
 intro hm
 obtain⟨p,hp,rfl⟩:=List.mem_map.mp hm
 rcases S.new p hp with q | q
 ·exact hn (List.mem_map.mpr ⟨p,q,rfl⟩)
 ·rw[q.1] at hb;cases hb
theorem Step.trans{K:KX}{ρ ρ₁ ρ₂:Rho}{h h₁ h₂:Heap}(a:Step K ρ h ρ₁ h₁)(b:Step K ρ₁ h₁ ρ₂ h₂):Step K ρ h ρ₂ h₂ :=
 ⟨a.pre.trans b.pre,fun p hp=>(b.new p hp).elim (fun q=>a.new p q) fun q=>.inr ⟨AJ a.dom q.1,fun x hx=>AJ a.dom (q.2 x hx)⟩,
  fun x o e h1 h2=>b.keep x o (a.keep x o e h1 h2) h1 (a.notMu e h2),fun x o e=>let ⟨o',e'⟩:=a.dom x o e;b.dom x o' e'⟩
theorem BD{ρ ρ':Rho}(hpre:ρ <+: ρ'){i:Nat}{p:P}(e:ρ[i]?=some p):ρ'[i]?=some p:=by
 obtain⟨t,rfl⟩:=hpre
 rw[List.getElem?_append_left (List.getElem?_eq_some_iff.mp e).1];exact e
theorem Step.get{K:KX}{ρ ρ':Rho}{h h':Heap}(S:Step K ρ h ρ' h'){i:Nat}{p:P}(e:ρ[i]?=some p):ρ'[i]?=some p:=BD S.pre e
section
variable{K:KX}{ρ ρ':Rho}{hp hp':List O}{h h':Heap}
theorem HRel.tbObj(H:HRel K ρ hp h){a:Addr}{o:Obj}(e:h.get? a=some o)(hc:o.cls≠.none):a≠K.tb:=by
 rintro rfl
 obtain⟨_,_,e'⟩:=H.tab
 rw[e'] at e;cases e;exact hc rfl
theorem HRel.seqTb(H:HRel K ρ hp h){a:Addr}{o:Obj}{vs:Array Value}{n:Nat}(e:h.get? a=some o)(hd:o.data = .seq vs n):a≠K.tb:=by
 rintro rfl
 obtain⟨_,_,e'⟩:=H.tab
 rw[e'] at e;cases e;cases hd
theorem HRel.newTb(H:HRel K ρ hp h){b:Addr}(q:K.New b):b≠K.tb:=by
 rintro rfl
 obtain⟨o,e⟩:=H.tbd
 rw[q] at e;cases e
theorem HRel.fresh(H:HRel K ρ hp h){a:Addr}(q:h.get? a=none):K.New a:=by
 cases e:K.hg a with
 | none=>exact e
 | some o =>
  by_cases ha:a=K.tb
  ·subst ha;obtain⟨_,_,e'⟩:=H.tab;rw[q] at e';cases e'
  ·rw[H.keepG a o e ha] at q;cases q
theorem DR.step(S:Step K ρ h ρ' h')(H:HRel K ρ hp h){v:Value}{x:PyData}(d:DR h (mu ρ) v x):DR h' (mu ρ') v x :=
 d.mono fun a o vs n e hd hm=>⟨S.keep a o e (H.seqTb e hd) hm,S.notMu e hm⟩
theorem DRs.step(S:Step K ρ h ρ' h')(H:HRel K ρ hp h){v:List Value}{x:List PyData}(d:DRs h (mu ρ) v x):DRs h' (mu ρ') v x :=
 d.mono fun a o vs n e hd hm=>⟨S.keep a o e (H.seqTb e hd) hm,S.notMu e hm⟩
theorem VR.step(S:Step K ρ h ρ' h')(H:HRel K ρ hp h){v:V}{rv:Value}(d:VR ρ h v rv):VR ρ' h' v rv:=by
 cases v with
 | d x=>exact DR.step S H d
 | r i=>obtain⟨p,e,rfl⟩:=d;exact⟨p,S.get e,rfl⟩
 | rng a b c =>
  obtain⟨q,t,u,v,rfl,e,hm⟩:=d
  exact⟨q,t,u,v,rfl,S.keep _ _ e (H.tbObj e (by simp)) hm,S.notMu e hm⟩
 | g v=>exact d
theorem OR.keeps(H:HRel K ρ hp h){i:Nat}{p:P}{o:O}(r:OR K ρ h i p o)
  (hk:∀ b ob,h.get? b=some ob→b∈p.f∨b=p.m→h'.get? b=some ob)
  (hd:∀ a o vs n,h.get? a=some o→o.data = .seq vs n→a ∉ mu ρ→h'.get? a=some o∧a ∉ mu ρ')
  (hpre:ρ <+: ρ'):OR K ρ' h' i p o:=by
 have hD:∀ {vs:List Value} {xs:List PyData},DRs h (mu ρ) vs xs→DRs h' (mu ρ') vs xs:=fun d=>d.mono hd
 have hV:∀ {v:V} {rv:Value},isField v→VR ρ h v rv→VR ρ' h' v rv:=by
  intro v rv hf d
  cases v with
  | d x=>exact DR.mono hd d
  | r i=>obtain⟨p,e,rfl⟩:=d;exact⟨p,BD hpre e,rfl⟩
  | rng a b c=>exact hf.elim
  | g v=>exact hf.elim
 have hN:∀ {a:Addr} {m:Str→Option Value},h.Ns a m→a∈p.f∨a=p.m→h'.Ns a m:=by
  rintro a m ⟨o,es,ep,e,q⟩ hq
  exact⟨o,es,ep,hk a o e hq,q⟩
 cases o with
 | lst l =>
  obtain⟨e,vs,n,h1,h4⟩:=r
  exact⟨e,vs,n,hk _ _ h1 (.inr rfl),hD h4⟩
 | inst c fs =>
  obtain⟨o,od,m,h1,h2,h3,h4,h5,h7,h8,h9,h10,h11⟩:=r
  refine⟨o,od,m,hk _ _ h1 (.inl h5),h2,h3,h4,h5,hk _ _ h7 (.inr rfl),h8,h9.at (fun o e=>hk _ _ e (.inr rfl)),?_,h11⟩
  intro k x hx
  have q:=h10 k x hx
  revert q
  cases fs.lookup k with
  | none=>exact id
  | some v=>rintro⟨⟨rv,q1,q2⟩,q3,q4⟩;exact⟨⟨rv,q1,hV q4 q2⟩,q3,q4⟩
 | stream l =>
  obtain⟨d,X,f1,f4⟩:=r
  exact⟨d,X.keeps (fun b o e m=>hk _ _ e (.inl m)),hk _ _ f1 (.inr rfl),hD f4⟩
 | edict=>exact⟨r.1,hk _ _ r.2 (.inr rfl)⟩
 | own=>obtain⟨ea,a,b,e⟩:=r;exact⟨ea,a,b,hk _ _ e (.inr rfl)⟩
 | dict1 x y=>obtain⟨ea,t,ty,e⟩:=r;exact⟨ea,t,ty,hk _ _ e (.inr rfl)⟩
 | citer c =>
  obtain⟨e,o,vs,h1,h2,h3,h4⟩:=r
  refine⟨e,o,vs,hk _ _ h1 (.inr rfl),h2,h3,?_⟩
  cases c with
  | none=>exact h4
  | some j =>
   refine viaP fun z zf=>?_
   obtain⟨hj,M,t,q,q1,q2,q4,q6⟩:=h4
   refine zf ?_
   exact⟨hj,M,t,q,q1,hk _ _ q2 (.inl q4),q4,BD hpre q6⟩
theorem HRel.grow(H:HRel K ρ hp h)(hk:∀ b o,h.get? b=some o→h'.get? b=some o):HRel K ρ hp h' :=
 ⟨H.tbd,fun b o e q=>hk _ _ (H.keepG b o e q),let ⟨m,okm,e⟩:=H.tab;⟨m,okm,hk _ _ e⟩,H.len,H.nd,H.hi,H.fx,
  fun p hp=>⟨let ⟨o,e⟩:=(H.lt p hp).1;⟨o,hk _ _ e⟩,fun a ha=>let ⟨o,e⟩:=(H.lt p hp).2 a ha;⟨o,hk _ _ e⟩⟩,
  fun i o p e q=>(H.ob i o p e q).keeps H (fun b ob x z=>hk _ _ x) (fun a o vs n e z x=>⟨hk _ _ e,x⟩) (List.prefix_refl _)⟩
theorem HRel.push(H:HRel K ρ hp h)(o:Obj):HRel K ρ hp (h.push o):=H.grow (fun z z e=>Heap.get?_push_of_some o e)
theorem Step.push(K:KX)(ρ:Rho)(h:Heap)(o:Obj):Step K ρ h ρ (h.push o):=Step.grow (fun z z e=>Heap.get?_push_of_some o e)
theorem HRel.muDom(H:HRel K ρ hp h){a:Addr}(ha:a∈mu ρ):∃ o,h.get? a=some o:=by
 obtain⟨p,hp,rfl⟩:=List.mem_map.mp ha
 exact(H.lt p hp).1
theorem HRel.notMu(H:HRel K ρ hp h){a:Addr}(ha:h.get? a=none):a ∉ mu ρ:=fun hm=>by
 obtain⟨o,e⟩:=H.muDom hm
 rw[ha] at e;cases e
theorem HRel.sizeMu(H:HRel K ρ hp h):h.objs.size ∉ mu ρ:=H.notMu (AA (Nat.le_refl _))
def Off(ρ:Rho)(a:Addr):Prop:=∀ p∈ρ,a≠p.m∧a ∉ p.f
theorem Off.mu{ρ:Rho}{a:Addr}(x:Off ρ a):a ∉ mu ρ:=fun hm=>by
 obtain⟨p,hp,rfl⟩:=List.mem_map.mp hm
 exact(x p hp).1 rfl
theorem HRel.off(H:HRel K ρ hp h){a:Addr}(ha:h.get? a=none):Off ρ a:=by
 intro p hp
 constructor
 ·intro e
  obtain⟨o,q⟩:=(H.lt p hp).1
  rw[← e,ha] at q
  cases q
 ·intro hm
  obtain⟨o,q⟩:=(H.lt p hp).2 a hm
  rw[ha] at q
  cases q
theorem HRel.other(H:HRel K ρ hp h){a:Addr}(ha:K.New a)(hm:Off ρ a)(hs:Heap.ExtBut a h h')
  (hd:∀ o,h.get? a=some o→∀ vs n,o.data≠.seq vs n):HRel K ρ hp h':=by
 refine⟨H.tbd,fun b o e q=>hs b o (KX.ne ha e) (H.keepG b o e q),
  let ⟨m,okm,e⟩:=H.tab;⟨m,okm,hs _ _ (Ne.symm (H.newTb ha)) e⟩,H.len,H.nd,H.hi,H.fx,
  fun p hp=>⟨let ⟨o,e⟩:=(H.lt p hp).1;⟨o,hs _ _ (Ne.symm (hm p hp).1) e⟩,fun b hb=>let ⟨o,e⟩:=(H.lt p hp).2 b hb;⟨o,hs _ _ (fun e=>(hm p hp).2 (e ▸ hb)) e⟩⟩,
  fun i o p e q=>(H.ob i o p e q).keeps H (fun b ob x y=>hs b ob ?_ x) (fun b o vs n e hq x=>⟨hs b o ?_ e,x⟩) (List.prefix_refl _)⟩
 ·rintro rfl
  have z:=hm p (List.mem_of_getElem? q)
  exact y.elim z.2 z.1
 ·rintro rfl;exact hd o e vs n hq
theorem Off.step(S:Step K ρ h ρ' h'){a:Addr}{o:Obj}(ha:h.get? a=some o)(x:Off ρ a):Off ρ' a:=fun p hp=>by
 rcases S.new p hp with q | q
 ·exact x p q
 ·exact⟨AP q.1 ha,fun hf=>by rw[q.2 a hf] at ha;cases ha⟩
theorem HRel.own(H:HRel K ρ hp h){i:Nat}{p:P}{o:O}(hi:ρ[i]?=some p)(hl:i<hp.length)(hs:Heap.SameBut p.m h h')(ho:OR K ρ h' i p o)(hd:∃ o,h'.get? p.m=some o):HRel K ρ (hp.set i o) h':=by
 have pm:=List.mem_of_getElem? hi
 have hpm:p.m∈mu ρ:=List.mem_map.mpr ⟨p,pm,rfl⟩
 have dom:∀ b o,h.get? b=some o→∃ o',h'.get? b=some o':=fun b o e=>by
  by_cases hb:b=p.m
  ·rw[hb];exact hd
  ·exact⟨o,(hs.2 b hb).trans e⟩
 refine⟨H.tbd,fun b ob e q=>(hs.2 b (KX.ne (H.hi p pm) e)).trans (H.keepG b ob e q),
  let ⟨m,okm,e⟩:=H.tab;⟨m,okm,(hs.2 _ (Ne.symm (H.newTb (H.hi p pm)))).trans e⟩,by rw[List.length_set];exact H.len,H.nd,H.hi,H.fx,
  fun p hp=>⟨let ⟨o,e⟩:=(H.lt p hp).1;dom _ o e,fun a ha=>let ⟨o,e⟩:=(H.lt p hp).2 a ha;dom _ o e⟩,fun j oj pj e q=>?_⟩
 rw[List.getElem?_set] at e
 by_cases hij:i=j
 ·subst hij
  rw[if_pos rfl,if_pos hl] at e
  cases e
  rw[hi] at q;cases q
  exact ho
 ·rw[if_neg hij] at e
  have nm:pj.m≠p.m:=by
   intro heq
   have h1:(mu ρ)[i]?=some p.m:=by simp[mu,hi]
   have h2:(mu ρ)[j]?=some p.m:=by simp[mu,q,heq]
   have l1:=(List.getElem?_eq_some_iff.mp h1).1
   exact hij ((List.getElem?_inj l1 H.nd).mp (h1.trans h2.symm))
  refine(H.ob j oj pj e q).keeps H (fun b ob x y=>(hs.2 b ?_).trans x) (fun b o vs n e hq x=>⟨(hs.2 b ?_).trans e,x⟩) (List.prefix_refl _)
  ·rintro rfl
   rcases y with y | y
   ·exact(H.fx pj (List.mem_of_getElem? q) _ y).1 hpm
   ·exact nm y.symm
  ·rintro rfl;exact x hpm
theorem Step.own{p:P}(hi:p∈ρ)(hs:Heap.SameBut p.m h h')(hd:∃ o,h'.get? p.m=some o):Step K ρ h ρ h' :=
 ⟨List.prefix_refl _,fun z hp=>.inl hp,fun b o e z hm=>(hs.2 b (by rintro rfl;exact hm (List.mem_map.mpr ⟨p,hi,rfl⟩))).trans e,
  fun b o e=>by
   by_cases hb:b=p.m
   ·rw[hb];exact hd
   ·exact⟨o,(hs.2 b hb).trans e⟩⟩
theorem HRel.add(H:HRel K ρ hp h)(hk:∀ b o,h.get? b=some o→h'.get? b=some o){p:P}{o:O}(hm:h.get? p.m=none)(hm':∃ o,h'.get? p.m=some o)
  (hf:∀ a∈p.f,h.get? a=none∧(∃ o,h'.get? a=some o)∧a≠p.m) (ho:OR K (ρ++[p]) h' hp.length p o) :
  HRel K (ρ++[p]) (hp++[o]) h'∧Step K ρ h (ρ++[p]) h':=by
 have hmu:mu (ρ++[p])=mu ρ++[p.m]:=by simp[mu]
 refine⟨⟨H.tbd,fun b o e q=>hk _ _ (H.keepG b o e q),let ⟨m,okm,e⟩:=H.tab;⟨m,okm,hk _ _ e⟩,by simp[H.len],?_,?_,?_,?_,?_⟩,?_⟩
 ·rw[hmu]
  refine List.nodup_append.mpr ⟨H.nd,by simp,?_⟩
  intro a ha b hb' e
  simp at hb';subst hb';subst e
  exact H.notMu hm ha
 ·intro q hq
  rcases List.mem_append.mp hq with hq | hq
  ·exact H.hi q hq
  ·simp at hq;subst hq;exact H.fresh hm
 ·intro q hq a ha
  rw[hmu]
  rcases List.mem_append.mp hq with hq | hq
  ·refine⟨fun z=>?_,(H.fx q hq a ha).2⟩
   rcases List.mem_append.mp z with z | z
   ·exact(H.fx q hq a ha).1 z
   ·simp at z;subst z;obtain⟨o,e⟩:=(H.lt q hq).2 _ ha;rw[hm] at e;cases e
  ·simp at hq;subst hq
   refine⟨fun z=>?_,H.fresh (hf a ha).1⟩
   rcases List.mem_append.mp z with z | z
   ·exact H.notMu (hf a ha).1 z
   ·simp at z;exact(hf a ha).2.2 z
 ·intro q hq
  rcases List.mem_append.mp hq with hq | hq
  ·exact⟨let ⟨o,e⟩:=(H.lt q hq).1;⟨o,hk _ _ e⟩,fun a ha=>let ⟨o,e⟩:=(H.lt q hq).2 a ha;⟨o,hk _ _ e⟩⟩
  ·simp at hq;subst hq;exact⟨hm',fun a ha=>(hf a ha).2.1⟩
 ·intro i oi pi e q
  by_cases hi:i<hp.length
  ·rw[List.getElem?_append_left hi] at e
   rw[List.getElem?_append_left (H.len ▸ hi)] at q
   have r:=H.ob i oi pi e q
   refine r.keeps H (fun b ob x w=>hk _ _ x) ?_ (List.prefix_append _ _)
   intro a o vs n x hd y
   refine⟨hk _ _ x,?_⟩
   rw[hmu]
   intro z
   rcases List.mem_append.mp z with z | z
   ·exact y z
   ·simp at z
    subst z
    rw[hm] at x;cases x
  ·have hil:i=hp.length:=by
    have:=(List.getElem?_eq_some_iff.mp e).1
    simp at this;lia
   subst hil
   rw[List.getElem?_append_right (Nat.le_refl _)] at e
   rw[List.getElem?_append_right (by rw[H.len];exact Nat.le_refl _)] at q
   simp[H.len] at e q
   subst e;subst q;exact ho
 ·refine⟨List.prefix_append _ _,fun q hq=>?_,fun b o e w w=>hk _ _ e,fun b o e=>⟨o,hk _ _ e⟩⟩
  rcases List.mem_append.mp hq with hq | hq
  ·exact .inl hq
  ·simp at hq;subst hq;exact .inr ⟨hm,fun a ha=>(hf a ha).1⟩
theorem HRel.cut(H:HRel K ρ' hp' h)(hpre:ρ <+: ρ')(hl:ρ.length≤hp'.length):HRel K ρ (hp'.take ρ.length) h:=by
 obtain⟨t,rfl⟩:=hpre
 have hmu:mu (ρ++t)=mu ρ++mu t:=by simp[mu]
 have mem:∀ {p:P},p∈ρ→p∈ρ++t:=fun q=>List.mem_append.mpr (.inl q)
 refine⟨H.tbd,H.keepG,H.tab,by rw[List.length_take];lia,?_,fun p hp=>H.hi p (mem hp),?_,fun p hp=>H.lt p (mem hp),?_⟩
 ·have:=H.nd;rw[hmu] at this;exact(List.nodup_append.mp this).1
 ·intro p hp a ha
  have:=H.fx p (mem hp) a ha
  rw[hmu] at this
  exact⟨fun z=>this.1 (List.mem_append.mpr (.inl z)),this.2⟩
 ·intro i o p e q
  have hi:=(List.getElem?_eq_some_iff.mp q).1
  have e':hp'[i]?=some o:=by rw[List.getElem?_take] at e;split at e<;>simp_all
  have r:=H.ob i o p e' (BD (List.prefix_append _ _) q)
  have hD:∀ {vs:List Value} {xs:List PyData},DRs h (mu (ρ++t)) vs xs→DRs h (mu ρ) vs xs:=fun d =>
   d.mono fun a o vs n x w y=>⟨x,fun z=>y (by rw[hmu];exact List.mem_append.mpr (.inl z))⟩
  cases o with
  | lst l=>obtain⟨a,vs,n,h1,h4⟩:=r;exact⟨a,vs,n,h1,hD h4⟩
  | inst c fs =>
   obtain⟨o,od,m,h1,h2,h3,h4,h5,h7,h8,h9,h10,h11⟩:=r
   refine⟨o,od,m,h1,h2,h3,h4,h5,h7,h8,h9,?_,h11⟩
   intro k x hx
   have q':=h10 k x hx
   revert q'
   cases fs.lookup k with
   | none=>exact id
   | some v =>
    rintro⟨⟨rv,q1,q2⟩,q3,q4⟩
    refine⟨⟨rv,q1,?_⟩,q3,q4⟩
    cases v with
    | d x=>exact DR.mono (fun a o vs n x w y=>⟨x,fun z=>y (by rw[hmu];exact List.mem_append.mpr (.inl z))⟩) q2
    | r j =>
     obtain⟨p',e1,e2⟩:=q2
     have hj:=q3 j rfl
     exact⟨p',by rw[List.getElem?_append_left (Nat.lt_trans hj hi)] at e1;exact e1,e2⟩
    | rng a b c=>exact q4.elim
    | g v=>exact q4.elim
  | stream l =>
   obtain⟨d,X,f1,f4⟩:=r
   exact⟨d,X,f1,hD f4⟩
  | edict=>exact r
  | own=>exact r
  | dict1=>exact r
  | citer c =>
   obtain⟨e,o,vs,h1,h2,h3,h4⟩:=r
   refine⟨e,o,vs,h1,h2,h3,?_⟩
   cases c with
   | none=>exact h4
   | some j =>
    refine viaP fun w zf=>?_
    obtain⟨hj,M,t',q',q1,q2,q4,q6⟩:=h4
    refine zf ?_
    exact⟨hj,M,t',q',q1,q2,q4,by rw[List.getElem?_append_left (Nat.lt_trans hj hi)] at q6;exact q6⟩
theorem Step.cut(S:Step K ρ h ρ' h'):Step K ρ h ρ h':=⟨List.prefix_refl _,fun z hp=>.inl hp,S.keep,S.dom⟩
theorem DR.cut(hpre:ρ <+: ρ'){v:Value}{x:PyData}(d:DR h (mu ρ') v x):DR h (mu ρ) v x:=by
 obtain⟨t,rfl⟩:=hpre
 exact d.mono fun a o vs n x w y=>⟨x,fun z=>y (by simp only[mu,List.map_append];exact List.mem_append.mpr (.inl z))⟩
theorem DRs.cut(hpre:ρ <+: ρ'){v:List Value}{x:List PyData}(d:DRs h (mu ρ') v x):DRs h (mu ρ) v x:=by
 obtain⟨t,rfl⟩:=hpre
 exact d.mono fun a o vs n x w y=>⟨x,fun z=>y (by simp only[mu,List.map_append];exact List.mem_append.mpr (.inl z))⟩
end
end Mine
namespace Mine
open PySem PySem.Spec PySem.Calls PyProof.Rows
inductive NsOk(env:Env)(look:Str→Option Nat)(vs:List (Option V))(ρ:Rho)(h:Heap):Prop
 | mk (m:Str→Option Value) (n:h.Ns env.locals m) (f:∀ x k v,env.kindOf x=some .local→look x=some k→vs[k]?=some (some v)→Held ρ h (m x) v)
inductive CellOk(hg:Addr→Option Obj)(env:Env)(look:Str→Option Nat)(vs:List (Option V))(ρ:Rho)(h:Heap)(x:Str):Prop
 | mk (c:Addr) (o:Obj) (ov:Option Value) (a1:env.cells.lookup x=some c) (a2:hg c=none) (a3:Off ρ c) (a4:h.get? c=some o) (a5:o.data = .cell ov)
   (a6:∀ k v,look x=some k→vs[k]?=some (some v)→Held ρ h ov v)
structure FRel(K:KX)(env:Env)(look:Str→Option Nat)(vs:List (Option V))(ρ:Rho)(h:Heap):Prop where
 kd:env.scope.kind = .function
 gl:env.globals=3
 bi:env.builtins=0
 lb:K.New env.locals
 lo:Off ρ env.locals
 ns:NsOk env look vs ρ h
 cl:∀ x,env.kindOf x=some .cell∨env.kindOf x=some .free→CellOk K.hg env look vs ρ h x
 ci:∀ x y c,env.cells.lookup x=some c→env.cells.lookup y=some c→x=y
 ij:∀ x y k,look x=some k→look y=some k→x=y
theorem FRel.step{K:KX}{env:Env}{look:Str→Option Nat}{vs:List (Option V)}{ρ ρ':Rho}{hp:List O}{h h':Heap}(F:FRel K env look vs ρ h)(H:HRel K ρ hp h)(S:Step K ρ h ρ' h'):FRel K env look vs ρ' h':=by
 refine⟨F.kd,F.gl,F.bi,F.lb,?_,?_,?_,F.ci,F.ij⟩
 ·obtain⟨m,⟨o,_,_,n,_⟩,_⟩:=F.ns
  exact F.lo.step S n
 ·obtain⟨m,⟨o,es,ep,e,q⟩,r⟩:=F.ns
  exact⟨m,⟨o,es,ep,S.keep _ _ e (H.newTb F.lb) F.lo.mu,q⟩,fun x k v a b c=>let ⟨rv,d,f⟩:=r x k v a b c;⟨rv,d,f.step S H⟩⟩
 ·intro x hx
  obtain⟨c,o,ov,a1,a2,a3,a4,a5,a6⟩:=F.cl x hx
  exact⟨c,o,ov,a1,a2,a3.step S a4,S.keep _ _ a4 (H.newTb a2) a3.mu,a5,fun k v b1 b2=>let ⟨rv,d,f⟩:=a6 k v b1 b2;⟨rv,d,f.step S H⟩⟩
inductive PostE(K:KX)(ρ:Rho)(s:Shared)(Q:V→List O→Prop)(rv:Value)(s':Shared):Prop
 | mk (v:V) (hp':List O) (ρ':Rho) (h':Heap) (t:Nat) (e:s'={ s with heap:=h',toks:=t }) (q:Q v hp') (H:HRel K ρ' hp' h') (S:Step K ρ s.heap ρ' h') (r:VR ρ' h' v rv)
theorem PostE.after{K:KX}{ρ ρ₁:Rho}{s:Shared}{h₁:Heap}{t₁:Nat}{Q:V→List O→Prop}{rv:Value}{s':Shared}(S:Step K ρ s.heap ρ₁ h₁)
  (p:PostE K ρ₁ { s with heap:=h₁,toks:=t₁ } Q rv s'):PostE K ρ s Q rv s' :=
 let ⟨v,hp',ρ',h',t,e,q,H,S',r⟩:=p
 ⟨v,hp',ρ',h',t,e,q,H,S.trans S',r⟩
theorem PostE.pure{K:KX}{ρ:Rho}{hp:List O}{s:Shared}{Q:V→List O→Prop}{v:V}{rv:Value}(t:Nat)(q:Q v hp)(H:HRel K ρ hp s.heap)(r:VR ρ s.heap v rv) :
  PostE K ρ s Q rv { s with toks:=t }:=⟨v,hp,ρ,s.heap,t,rfl,q,H,Step.refl ..,r⟩
theorem PostE.pure0{K:KX}{ρ:Rho}{hp:List O}{s:Shared}{Q:V→List O→Prop}{v:V}{rv:Value}(q:Q v hp)(H:HRel K ρ hp s.heap)(r:VR ρ s.heap v rv) :
  PostE K ρ s Q rv s:=⟨v,hp,ρ,s.heap,s.toks,rfl,q,H,Step.refl ..,r⟩
theorem PostE.grown{K:KX}{ρ:Rho}{hp:List O}{s:Shared}{Q:V→List O→Prop}{v:V}{rv:Value}{h':Heap}(t:Nat)(q:Q v hp)(H:HRel K ρ hp s.heap)
  (hk:∀ b o,s.heap.get? b=some o→h'.get? b=some o) (r:VR ρ h' v rv) :
  PostE K ρ s Q rv { s with heap:=h',toks:=t }:=⟨v,hp,ρ,h',t,rfl,q,H.grow hk,Step.grow hk,r⟩
structure OkA(r:Nat)(A:Around):Prop where
 hh:A.handled=none
 dp:A.depth+r<recursionLimit
 un:A.units+100*r+200<cLine
theorem OkA.le{r r':Nat}{A:Around}(o:OkA r A)(h:r'≤r):OkA r' A:=⟨o.hh,by have:=o.dp;lia,by have:=o.un;lia⟩
abbrev XE:=List (Option V)→(V→List O→Prop)→List O→Prop
abbrev XB:=List (Option V)→(Bool→List O→Prop)→List O→Prop
def SoundE(K:KX)(r:Nat)(env:Env)(look:Str→Option Nat)(e:Expr)(p:XE):Prop :=
 ∀ A,OkA r A→∀ vs Q hp ρ s E,p vs Q hp→FRel K env look vs ρ s.heap→HRel K ρ hp s.heap→wpAny (model K.prog K.w) A (eval e env) (PostE K ρ s Q) E s
inductive PostB(K:KX)(ρ:Rho)(s:Shared)(Q:Bool→List O→Prop)(b:Bool)(s':Shared):Prop
 | mk (hp':List O) (ρ':Rho) (h':Heap) (t:Nat) (e:s'={ s with heap:=h',toks:=t }) (q:Q b hp') (H:HRel K ρ' hp' h') (S:Step K ρ s.heap ρ' h')
theorem PostB.after{K:KX}{ρ ρ₁:Rho}{s:Shared}{h₁:Heap}{t₁:Nat}{Q:Bool→List O→Prop}{b:Bool}{s':Shared}(S:Step K ρ s.heap ρ₁ h₁)
  (p:PostB K ρ₁ { s with heap:=h₁,toks:=t₁ } Q b s'):PostB K ρ s Q b s' :=
 let ⟨hp',ρ',h',t,e,q,H,S'⟩:=p
 ⟨hp',ρ',h',t,e,q,H,S.trans S'⟩
def SoundB(K:KX)(r:Nat)(env:Env)(look:Str→Option Nat)(e:Expr)(p:XB):Prop :=
 ∀ A,OkA r A→∀ vs Q hp ρ s E,p vs Q hp→FRel K env look vs ρ s.heap→HRel K ρ hp s.heap→wpAny (model K.prog K.w) A (isTrue e env (eval e env)) (PostB K ρ s Q) E s
def Sound2(K:KX)(r:Nat)(f:Value→Value→Sem Value)(p:V→V→(V→List O→Prop)→List O→Prop):Prop :=
 ∀ A,OkA r A→∀ ρ hp s va vb ra rb Q E,p va vb Q hp→HRel K ρ hp s.heap→VR ρ s.heap va ra→VR ρ s.heap vb rb→wpAny (model K.prog K.w) A (f ra rb) (PostE K ρ s Q) E s
def Sound1(K:KX)(r:Nat)(f:Value→Sem Value)(p:V→(V→List O→Prop)→List O→Prop):Prop :=
 ∀ A,OkA r A→∀ ρ hp s va ra Q E,p va Q hp→HRel K ρ hp s.heap→VR ρ s.heap va ra→wpAny (model K.prog K.w) A (f ra) (PostE K ρ s Q) E s
section
variable{K:KX}{r:Nat}{env:Env}{look:Str→Option Nat}
theorem AF{i:Int}{k:Nat}{pos:Pos}:SoundE K r env look (.Constant (.int i) k pos) (fun z Q=>Q (.d (.int i))) :=
 fun A z vs Q hp ρ s E q F H=>wpAny_Constant_int (PostE.pure _ q H (.int ..))
theorem AM{x:Str}{k:Nat}{pos:Pos}:SoundE K r env look (.Constant (.str x) k pos) (fun z Q=>Q (.d (.str x))) :=
 fun A z vs Q hp ρ s E q F H=>wpAny_Constant_str (PostE.pure _ q H (.str ..))
theorem Bi{k:Nat}{pos:Pos}:SoundE K r env look (.Constant .none k pos) (fun z Q=>Q (.d .none)) :=
 fun A z vs Q hp ρ s E q F H=>wpAny_Constant_none (PostE.pure0 q H .none)
theorem CD{b:Bool}{k:Nat}{pos:Pos}:SoundE K r env look (.Constant (.bool b) k pos) (fun z Q=>Q (.d (.bool b))) :=
 fun A z vs Q hp ρ s E q F H=>wpAny_Constant_bool (PostE.pure0 q H (.bool b))
def xVar(k:Nat):XE:=fun vs Q hp=>match vs[k]? with | some (some v)=>Q v hp | _=>False
theorem Hb{P:V→Prop}{o:Option (Option V)}(q:match o with | some (some v)=>P v | _=>False):∃ x,o=some (some x)∧P x:=by
 cases o with
 | none=>exact q.elim
 | some x =>
  cases x with
  | none=>exact q.elim
  | some x=>exact⟨x,rfl,q⟩
set_option tactic.hygienic true in
theorem A1{x:Str}{k:Nat}{pos:Pos}(hk:env.kindOf x=some .local∨env.kindOf x=some .cell∨env.kindOf x=some .free)(hl:look x=some k)
  (hd:(x == ("__debug__" : Str))=false) (hc:(x == ("__classdict__" : Str))=false):SoundE K r env look (.Name x pos) (xVar k):=by
 intro A _ vs Q hp ρ s E q F H
 refine wpAny_Name ?_ hd
 unfold xVar at q
 obtain⟨v,e,q⟩:=Hb q
 rcases hk with hk | hk | hk
 ·obtain⟨m,n,f⟩:=F.ns
  obtain⟨rv,e1,e2⟩:=f x k v hk hl e
  exact wpAny_loadName_local F.kd hk n e1 (PostE.pure0 q H e2)
 ·obtain⟨c,o,ov,a1,a2,a3,a4,a5,a6⟩:=F.cl x (.inl hk)
  obtain⟨rv,rfl,e2⟩:=a6 k v hl e
  exact wpAny_loadName_cell F.kd hk a1 ⟨o,a4,a5⟩ (PostE.pure0 q H e2)
 ·obtain⟨c,o,ov,a1,a2,a3,a4,a5,a6⟩:=F.cl x (.inr hk)
  obtain⟨rv,rfl,e2⟩:=a6 k v hl e
  exact wpAny_loadName_free F.kd hk a1 ⟨o,a4,a5⟩ (PostE.pure0 q H e2) hc
theorem SoundE.then{e:Expr}{p:XE}(h:SoundE K r env look e p){A:Around}(ok:OkA r A){vs:List (Option V)}{Q:V→List O→Prop}{hp:List O}{ρ:Rho}{s:Shared}{E:Value→Shared→Prop}
  {R:Value→Shared→Prop} (q:p vs Q hp) (F:FRel K env look vs ρ s.heap) (H:HRel K ρ hp s.heap)
  (k:∀ v hp₁ ρ₁ h₁ t₁ rv,Q v hp₁→HRel K ρ₁ hp₁ h₁→Step K ρ s.heap ρ₁ h₁→VR ρ₁ h₁ v rv→FRel K env look vs ρ₁ h₁→R rv { s with heap:=h₁,toks:=t₁ }) :
  wpAny (model K.prog K.w) A (eval e env) R E s:=by
 refine wpAny_mono (h A ok vs Q hp ρ s E q F H) ?_ (fun z z x=>x)
 rintro rv s' ⟨v,hp',ρ',h',t,rfl,q',H',S,rr⟩
 exact k v hp' ρ' h' t rv q' H' S rr (F.step H S)
theorem SoundB.then{e:Expr}{p:XB}(h:SoundB K r env look e p){A:Around}(ok:OkA r A){vs:List (Option V)}{Q:Bool→List O→Prop}{hp:List O}{ρ:Rho}{s:Shared}{E:Value→Shared→Prop}
  {R:Bool→Shared→Prop} (q:p vs Q hp) (F:FRel K env look vs ρ s.heap) (H:HRel K ρ hp s.heap)
  (k:∀ b hp₁ ρ₁ h₁ t₁,Q b hp₁→HRel K ρ₁ hp₁ h₁→Step K ρ s.heap ρ₁ h₁→FRel K env look vs ρ₁ h₁→R b { s with heap:=h₁,toks:=t₁ }) :
  wpAny (model K.prog K.w) A (isTrue e env (eval e env)) R E s:=by
 refine wpAny_mono (h A ok vs Q hp ρ s E q F H) ?_ (fun z z x=>x)
 rintro b s' ⟨hp',ρ',h',t,rfl,q',H',S⟩
 exact k b hp' ρ' h' t q' H' S (F.step H S)
def xBin(f:V→V→(V→List O→Prop)→List O→Prop)(a b:XE):XE:=fun vs Q=>a vs fun va=>b vs fun vb=>f va vb Q
theorem Ax{l rr:Expr}{op:Operator}{pos:Pos}{f:V→V→(V→List O→Prop)→List O→Prop}{a b:XE}(hf:Sound2 K r (binaryOp op) f)(ha:SoundE K r env look l a)(hb:SoundE K r env look rr b) :
  SoundE K r env look (.BinOp l op rr pos) (xBin f a b):=by
 intro A ok vs Q hp ρ s E q F H
 refine wpAny_BinOp (ha.then ok q F H ?_)
 intro va hp₁ ρ₁ h₁ t₁ ra q₁ H₁ S₁ r₁ F₁
 refine hb.then ok (s:={ s with heap:=h₁,toks:=t₁ }) q₁ F₁ H₁ ?_
 intro vb hp₂ ρ₂ h₂ t₂ rb q₂ H₂ S₂ r₂ F₂
 refine wpAny_mono (hf A ok ρ₂ hp₂ { s with heap:=h₂,toks:=t₂ } va vb ra rb Q E q₂ H₂ (r₁.step S₂ H₁) r₂) ?_ (fun z z x=>x)
 exact fun rv s' p=>PostE.after (S₁.trans S₂) p
theorem IA{l rr:Expr}{op:CmpOp}{pos:Pos}{f:V→V→(V→List O→Prop)→List O→Prop}{a b:XE}(hf:Sound2 K r (compareOp op) f)(ha:SoundE K r env look l a)(hb:SoundE K r env look rr b)
  (hm:behindInMarks op rr=false):SoundE K r env look (.Compare l [op] [rr] pos) (xBin f a b):=by
 intro A ok vs Q hp ρ s E q F H
 refine wpAny_Compare1 (ha.then ok q F H ?_) hm
 intro va hp₁ ρ₁ h₁ t₁ ra q₁ H₁ S₁ r₁ F₁
 refine hb.then ok (s:={ s with heap:=h₁,toks:=t₁ }) q₁ F₁ H₁ ?_
 intro vb hp₂ ρ₂ h₂ t₂ rb q₂ H₂ S₂ r₂ F₂
 refine wpAny_mono (hf A ok ρ₂ hp₂ { s with heap:=h₂,toks:=t₂ } va vb ra rb Q E q₂ H₂ (r₁.step S₂ H₁) r₂) ?_ (fun z z x=>x)
 exact fun rv s' p=>PostE.after (S₁.trans S₂) p
end
noncomputable def lget:V→List O→Option (List PyData)
 | .d (.list l),_=>some l
 | .r i,hp=>match hp[i]? with | some (.lst l)=>some l | _=>none
 | _,_=>none
noncomputable def dget:V→List O→Option PyData
 | .d x,_=>some x
 | .r i,hp=>match hp[i]? with | some (.lst l)=>some (.list l) | _=>none
 | .rng ..,_=>none
 | .g _,_=>none
theorem Cl{P:List PyData→Prop}{o:Option O}(q:(match o with | some (.lst l)=>P l | _=>False)):∃ l,o=some (.lst l)∧P l:=by
 cases o with
 | none=>exact q.elim
 | some o=>cases o with
  | lst l=>exact⟨l,rfl,q⟩
  | _=>exact q.elim
theorem NA{i:Nat}{hp:List O}{l:List PyData}(e:lget (.r i) hp=some l):hp[i]?=some (.lst l):=by
 revert e
 show(match hp[i]? with | some (.lst l)=>some l | _=>none)=some l→_
 generalize hp[i]?=o
 intro e
 cases o with
 | none=>cases e
 | some o=>cases o<;>cases e<;>rfl
theorem KU{i:Nat}{hp:List O}{x:PyData}(e:dget (.r i) hp=some x):∃ l,hp[i]?=some (.lst l)∧x = .list l:=by
 revert e
 show(match hp[i]? with | some (.lst l)=>some (.list l) | _=>none)=some x→_
 generalize hp[i]?=o
 intro e
 cases o with
 | none=>cases e
 | some o=>cases o<;>cases e<;>exact⟨_,rfl,rfl⟩
theorem BZ{P:Int→Prop}{v:V}(q:(match v with | .d (.int i)=>P i | _=>False)):∃ i,v = .d (.int i)∧P i:=by
 cases v with
 | d x=>cases x with
  | int i=>exact⟨i,rfl,q⟩
  | _=>exact q.elim
 | _=>exact q.elim
theorem C0{P:Str→Prop}{v:V}(q:(match v with | .d (.str i)=>P i | _=>False)):∃ i,v = .d (.str i)∧P i:=by
 cases v with
 | d x=>cases x with
  | str i=>exact⟨i,rfl,q⟩
  | _=>exact q.elim
 | _=>exact q.elim
theorem CL{P:Int→Int→Prop}{v w:V}(q:(match v,w with | .d (.int i),.d (.int j)=>P i j | _,_=>False)):∃ i j,v = .d (.int i)∧w = .d (.int j)∧P i j:=by
 cases v with
 | d x=>cases x with
  | int i=>cases w with
   | d y=>cases y with
    | int j=>exact⟨i,j,rfl,rfl,q⟩
    | _=>exact q.elim
   | _=>exact q.elim
  | _=>exact q.elim
 | _=>exact q.elim
inductive StrsI(R:Str→Str→Prop)(T:Prop)(v w:V):Prop
 | strs (i j:Str):v = .d (.str i)→w = .d (.str j)→R i j→StrsI R T v w
 | rest:T→StrsI R T v w
theorem GB{R:Str→Str→Prop}{T:V→V→Prop}{v w:V}(q:(match v,w with | .d (.str i),.d (.str j)=>R i j | v,w=>T v w)):StrsI R (T v w) v w:=by
 cases v with
 | d x=>cases x with
  | str i=>cases w with
   | d y=>cases y with
    | str j=>exact .strs i j rfl rfl q
    | _=>exact .rest q
   | _=>exact .rest q
  | _=>exact .rest q
 | _=>exact .rest q
inductive SumI(P:Int→Int→Prop)(R:Str→Str→Prop)(T:Prop)(v w:V):Prop
 | ints (i j:Int):v = .d (.int i)→w = .d (.int j)→P i j→SumI P R T v w
 | strs (i j:Str):v = .d (.str i)→w = .d (.str j)→R i j→SumI P R T v w
 | rest:T→SumI P R T v w
theorem E7{P:Int→Int→Prop}{R:Str→Str→Prop}{T:V→V→Prop}{v w:V}(q:(match v,w with | .d (.int i),.d (.int j)=>P i j | .d (.str i),.d (.str j)=>R i j | v,w=>T v w)):SumI P R (T v w) v w:=by
 cases v with
 | d x=>cases x with
  | int i=>cases w with
   | d y=>cases y with
    | int j=>exact .ints i j rfl rfl q
    | _=>exact .rest q
   | _=>exact .rest q
  | str i=>cases w with
   | d y=>cases y with
    | str j=>exact .strs i j rfl rfl q
    | _=>exact .rest q
   | _=>exact .rest q
  | _=>exact .rest q
 | _=>exact .rest q
section
variable{K:KX}{ρ:Rho}{hp:List O}{h:Heap}{r:Nat}
theorem HRel.at(H:HRel K ρ hp h){i:Nat}{p:P}{o:O}(e:hp[i]?=some o)(q:ρ[i]?=some p):OR K ρ h i p o:=H.ob i o p e q
theorem Aj(H:HRel K ρ hp h){v:V}{rv:Value}{l:List PyData}(q:VR ρ h v rv)(e:lget v hp=some l):∃ a vs n,rv = .ref a∧IsL h a vs n∧DRs h (mu ρ) vs.toList l:=by
 cases v with
 | d x =>
  cases x with
  | list xs=>cases e;cases q with | list h1 _ h3=>exact⟨_,_,_,rfl,h1,h3⟩
  | _=>cases e
 | r i =>
  obtain⟨p,e1,rfl⟩:=q
  obtain⟨ha,vs,n,h1,h2⟩:=H.at (NA e) e1
  exact⟨_,vs,n,rfl,ha ▸ h1,h2⟩
 | rng a b c=>cases e
 | g v=>cases e
theorem CN(H:HRel K ρ hp h){v:V}{rv:Value}{x:PyData}(q:VR ρ h v rv)(e:dget v hp=some x):∃ as,Reads h rv x as:=by
 cases v with
 | d y=>cases e;exact DR.reads q
 | r i =>
  obtain⟨p,e1,rfl⟩:=q
  obtain⟨l,e2,rfl⟩:=KU e
  obtain⟨ha,vs,n,h1,h2⟩:=H.at e2 e1
  obtain⟨as,rs⟩:=DRs.reads h2
  exact⟨_,.list (ha ▸ h1) rfl rfl rs⟩
 | rng a b c=>cases e
 | g v=>cases e
abbrev Op2:=V→V→(V→List O→Prop)→List O→Prop
noncomputable def okD(x:PyData):Bool:=x.canLay0 && decide (x.depth≤50)
theorem B5{x:PyData}(h:okD x=true):x.canLay0=true∧x.depth≤50:=by simpa [okD] using h
def opAdd:Op2:=fun va vb Q hp=>match va,vb with
 | .d (.int a),.d (.int b)=>Q (.d (.int (a+b))) hp
 | .d (.str a),.d (.str b)=>a.length+b.length≤sizeLine∧Q (.d (.str (a++b))) hp
 | va,vb=>∃ l1 l2,lget va hp=some l1∧lget vb hp=some l2∧l1.length+l2.length≤sizeLine∧Q (.d (.list (l1++l2))) hp
theorem Cy:Sound2 K r (binaryOp .Add) opAdd:=by
 intro A ok ρ hp s va vb ra rb Q E q H ha hb
 obtain⟨_,_,rfl,rfl,q⟩ | ⟨_,_,rfl,rfl,q⟩ | q:=E7 q
 ·cases ha;cases hb
  exact PyProof.Rows.add_int (PostE.pure _ q H (.int ..))
 ·cases ha;cases hb
  exact PyProof.Rows.add_str (fun t' tk=>PostE.pure _ q.2 H (.str ..)) q.1
 ·obtain⟨l1,l2,e1,e2,hz,q⟩:=q
  obtain⟨a,xs,n,rfl,h1,d1⟩:=Aj H ha e1
  obtain⟨b,ys,n',rfl,h2,d2⟩:=Aj H hb e2
  have z1:=d1.length
  have z2:=d2.length
  simp only[Array.length_toList] at z1 z2
  refine P.add_list h1 h2 ?_ (by lia)
  have hk:∀ b o,s.heap.get? b=some o→(s.heap.push { cls:=.type "list", data:=.seq (xs++ys) }).get? b=some o:=fun z z e=>Heap.get?_push_of_some _ e
  refine⟨_,hp,ρ,_,s.toks,rfl,q,H.push _,Step.push ..,?_⟩
  refine .list (n:=0) (vs:=xs++ys) (Heap.get?_push_size _ rfl) H.sizeMu ?_
  rw[Array.toList_append]
  exact(d1.append d2).step (Step.push ..) H
def opSub:Op2:=fun va vb Q hp=>match va,vb with
 | .d (.int a),.d (.int b)=>Q (.d (.int (a-b))) hp
 | _,_=>False
theorem GL:Sound2 K r (binaryOp .Sub) opSub:=by
 intro A ok ρ hp s va vb ra rb Q E q H ha hb
 obtain⟨_,_,rfl,rfl,q⟩:=CL q
 cases ha;cases hb
 exact PyProof.Rows.sub_int (PostE.pure _ q H (.int ..))
def opMod:Op2:=fun va vb Q hp=>match va,vb with
 | .d (.int a),.d (.int b)=>b≠0∧Q (.d (.int (a.fmod b))) hp
 | _,_=>False
theorem GM:Sound2 K r (binaryOp .Mod) opMod:=by
 intro A ok ρ hp s va vb ra rb Q E q H ha hb
 obtain⟨_,_,rfl,rfl,q⟩:=CL q
 cases ha;cases hb
 exact PyProof.Rows.mod_int' q.1 (PostE.pure _ q.2 H (.int ..))
theorem noPylong{a b:Int}(hb:b.natAbs<2 ^ 64):Builtin.divisionGoesByPylong a b=false:=by
 unfold Builtin.divisionGoesByPylong
 have:¬ ((if (b == 0)=true then 0 else b.natAbs.log2 / 30+1) > 300):=by
  split
  ·lia
  ·have hne:b.natAbs≠0:=by rename_i h;simpa using h
   have:b.natAbs.log2<64:=(Nat.log2_lt hne).mpr hb
   lia
 simp only[decide_eq_false this,Bool.false_and]
def opDiv:Op2:=fun va vb Q hp=>match va,vb with
 | .d (.int a),.d (.int b)=>b≠0∧b.natAbs<2 ^ 64∧Q (.d (.int (a.fdiv b))) hp
 | _,_=>False
theorem JS:Sound2 K r (binaryOp .FloorDiv) opDiv:=by
 intro A ok ρ hp s va vb ra rb Q E q H ha hb
 obtain⟨_,_,rfl,rfl,q⟩:=CL q
 cases ha;cases hb
 exact PyProof.Rows.floordiv_int q.1 (PostE.pure _ q.2.2 H (.int ..)) (.inl (noPylong q.2.1))
def opEq:Op2:=fun va vb Q hp=>match va,vb with
 | .d (.int a),.d (.int b)=>Q (.d (.bool (a == b))) hp
 | .d (.str a),.d (.str b)=>Q (.d (.bool (a == b))) hp
 | va,vb=>∃ x y,dget va hp=some x∧dget vb hp=some y∧okD x=true∧okD y=true∧Q (.d (.bool (x.eqv y))) hp
theorem CY:Sound2 K r (compareOp .Eq) opEq:=by
 intro A ok ρ hp s va vb ra rb Q E q H ha hb
 obtain⟨_,_,rfl,rfl,q⟩ | ⟨_,_,rfl,rfl,q⟩ | q:=E7 q
 ·cases ha;cases hb
  exact PyProof.Rows.eq_int (PostE.pure0 q H (.bool ..))
 ·cases ha;cases hb
  exact PyProof.Rows.eq_str (PostE.pure0 q H (.bool ..))
 ·obtain⟨x,y,e1,e2,o1,o2,q⟩:=q
  obtain⟨as,r1⟩:=CN H ha e1
  obtain⟨bs,r2⟩:=CN H hb e2
  have:=(B5 o1).2
  have:=ok.un
  exact SeqAt.compareEq_reads r1 r2 (B5 o1).1 (B5 o2).1 (by lia) (PostE.pure0 q H (.bool ..))
def opNe:Op2:=fun va vb Q hp=>match va,vb with
 | .d (.int a),.d (.int b)=>Q (.d (.bool (a != b))) hp
 | .d (.str a),.d (.str b)=>Q (.d (.bool (a != b))) hp
 | va,vb=>∃ x y,dget va hp=some x∧dget vb hp=some y∧okD x=true∧okD y=true∧Q (.d (.bool (!x.eqv y))) hp
theorem FQ:Sound2 K r (compareOp .NotEq) opNe:=by
 intro A ok ρ hp s va vb ra rb Q E q H ha hb
 obtain⟨_,_,rfl,rfl,q⟩ | ⟨_,_,rfl,rfl,q⟩ | q:=E7 q
 ·cases ha;cases hb
  exact PyProof.Rows.ne_int (PostE.pure0 q H (.bool ..))
 ·cases ha;cases hb
  exact PyProof.Rows.ne_str (PostE.pure0 q H (.bool ..))
 ·obtain⟨x,y,e1,e2,o1,o2,q⟩:=q
  obtain⟨as,r1⟩:=CN H ha e1
  obtain⟨bs,r2⟩:=CN H hb e2
  have:=(B5 o1).2
  have:=ok.un
  exact SeqAt.compareNe_reads r1 r2 (B5 o1).1 (B5 o2).1 (by lia) (PostE.pure0 q H (.bool ..))
def opLt:Op2:=fun va vb Q hp=>match va,vb with
 | .d (.int a),.d (.int b)=>Q (.d (.bool (decide (a<b)))) hp
 | _,_=>False
theorem O4:Sound2 K r (compareOp .Lt) opLt:=by
 intro A ok ρ hp s va vb ra rb Q E q H ha hb
 obtain⟨_,_,rfl,rfl,q⟩:=CL q
 cases ha;cases hb
 exact PyProof.Rows.lt_int (PostE.pure0 q H (.bool ..))
def opGt:Op2:=fun va vb Q hp=>match va,vb with
 | .d (.int a),.d (.int b)=>Q (.d (.bool (decide (b<a)))) hp
 | _,_=>False
theorem LC:Sound2 K r (compareOp .Gt) opGt:=by
 intro A ok ρ hp s va vb ra rb Q E q H ha hb
 obtain⟨_,_,rfl,rfl,q⟩:=CL q
 cases ha;cases hb
 exact PyProof.Rows.gt_int (PostE.pure0 q H (.bool ..))
theorem F6{l:List PyData}(h:okD (.list l)=true):PyData.canLayAll0 l=true∧PyData.depthAll l≤50:=by
 have:=B5 h
 simp only[PyData.canLay0,PyData.depth] at this
 exact⟨this.1,Ll this.2⟩
def opIn:Op2:=fun va vb Q hp=>match va,vb with
 | .d (.str y),.d (.str x)=>Q (.d (.bool (Txt.contains x y))) hp
 | va,vb=>∃ x l,dget va hp=some x∧lget vb hp=some l∧okD x=true∧okD (.list l)=true∧Q (.d (.bool (l.any fun y=>y.eqv x))) hp
theorem Gz:Sound2 K r (compareOp .In) opIn:=by
 intro A ok ρ hp s va vb ra rb Q E q H ha hb
 obtain⟨_,_,rfl,rfl,q⟩ | ⟨x,l,e1,e2,o1,o2,q⟩:=GB q
 ·cases ha;cases hb
  exact SB.contains (PostE.pure0 q H (.bool ..))
 ·obtain⟨as,r1⟩:=CN H ha e1
  obtain⟨b,ys,n',rfl,h2,d2⟩:=Aj H hb e2
  obtain⟨bs,r2⟩:=d2.reads
  have:=(B5 o1).2
  have:=ok.un
  exact SeqAt.in_list_reads (.list h2 rfl rfl r2) r1 (F6 o2).1 (B5 o1).1 (by lia) (PostE.pure0 q H (.bool ..))
noncomputable def isNoneV:V→Bool
 | .d .none=>true
 | _=>false
theorem C2{v:V}{rv:Value}(q:VR ρ h v rv):(rv == Value.none)=isNoneV v:=by
 cases v with
 | d x=>cases q<;>rfl
 | r i=>obtain⟨p,_,rfl⟩:=q;rfl
 | rng a b c=>obtain⟨p,_,_,_,rfl,_⟩:=q;rfl
 | g v=>obtain⟨rfl,z⟩:=q;cases rv<;>first | rfl | exact z.elim
def opIsNot:Op2:=fun va vb Q hp=>match isNoneV vb with | true=>Q (.d (.bool (!isNoneV va))) hp | false=>False
theorem FS:Sound2 K r (compareOp .IsNot) opIsNot:=by
 intro A ok ρ hp s va vb ra rb Q E q H ha hb
 have e:=C2 hb
 unfold opIsNot at q
 cases h:isNoneV vb with
 | false=>rw[h] at q;exact q.elim
 | true =>
  rw[h] at q e
  cases eq_of_beq e
  exact isNot_none (PostE.pure0 q H (by rw[C2 ha];exact .bool ..))
def truthV(v:V)(Q:Bool→List O→Prop)(hp:List O):Prop:=match v with
 | .d (.bool b)=>Q b hp
 | .d (.int i)=>Q (i != 0) hp
 | .d (.str x)=>x.length≤sizeLine∧Q ((x.length:Int) != 0) hp
 | .d .none=>Q false hp
 | .d (.tuple l)=>l.length≤sizeLine∧Q (!l.isEmpty) hp
 | v=>∃ l,lget v hp=some l∧l.length≤sizeLine∧Q (!l.isEmpty) hp
theorem PostB.pure{K:KX}{ρ:Rho}{hp:List O}{s:Shared}{Q:Bool→List O→Prop}{b:Bool}(t:Nat)(q:Q b hp)(H:HRel K ρ hp s.heap) :
  PostB K ρ s Q b { s with toks:=t }:=⟨hp,ρ,s.heap,t,rfl,q,H,Step.refl ..⟩
theorem PostB.pure0{K:KX}{ρ:Rho}{hp:List O}{s:Shared}{Q:Bool→List O→Prop}{b:Bool}(q:Q b hp)(H:HRel K ρ hp s.heap) :
  PostB K ρ s Q b s:=⟨hp,ρ,s.heap,s.toks,rfl,q,H,Step.refl ..⟩
theorem C3{α β:Type}{l:List α}{m:List β}(e:l.length=m.length):l.isEmpty=m.isEmpty:=by
 cases l<;>cases m<;>simp_all
set_option tactic.hygienic true in
theorem E9{A:Around}{s:Shared}{v:V}{rv:Value}{Q:Bool→List O→Prop}{E:Value→Shared→Prop}(q:truthV v Q hp)(H:HRel K ρ hp s.heap)(hv:VR ρ s.heap v rv) :
  wpAny (model K.prog K.w) A (truthy rv) (PostB K ρ s Q) E s:=by
 have hsz:=sizeLine_eq
 have rest:(∃ l,lget v hp=some l∧l.length≤sizeLine∧Q (!l.isEmpty) hp)→wpAny (model K.prog K.w) A (truthy rv) (PostB K ρ s Q) E s:=by
  rintro⟨l,e,hz,q⟩
  obtain⟨a,xs,n,rfl,h1,d1⟩:=Aj H hv e
  have z:=d1.length
  refine wpAny_truthy_list h1.isList (by simp at z;omega) ?_
  have:xs.isEmpty=xs.toList.isEmpty:=by cases xs;simp
  rw[this,C3 z]
  exact PostB.pure _ q H
 cases v with
 | d x=>cases x with
  | bool=>cases hv;exact wpAny_truthy_bool (PostB.pure0 q H)
  | int=>cases hv;exact PyProof.Rows.truthy_int (PostB.pure0 q H)
  | str=>cases hv;exact P.truthy_str (by have:=q.1;lia) (PostB.pure _ q.2 H)
  | none=>cases hv;exact PyProof.Rows.truthy_none (PostB.pure0 q H)
  | tuple=>cases hv with
   | tuple h1 h2 h3 =>
    have z:=h3.length
    rename_i vs n
    refine PyProof.Rows.truthy_tuple (items:=vs) ⟨_,h1,rfl,_,rfl⟩ (by have:=q.1;simp at z;lia) ?_
    have:vs.isEmpty=vs.toList.isEmpty:=by cases vs;simp
    rw[this,C3 z]
    exact PostB.pure _ q.2 H
  | _=>exact rest q
 | _=>exact rest q
end
section
variable{K:KX}{r:Nat}{env:Env}{look:Str→Option Nat}
def bCmp(f:Op2)(a b:XE):XB:=fun vs Q=>a vs fun va=>b vs fun vb=>f va vb fun v=>truthV v Q
theorem AI{l rr:Expr}{op:CmpOp}{pos:Pos}{f:Op2}{a b:XE}(hf:Sound2 K r (compareOp op) f)(ha:SoundE K r env look l a)(hb:SoundE K r env look rr b)
  (hm:behindInMarks op rr=false):SoundB K r env look (.Compare l [op] [rr] pos) (bCmp f a b):=by
 intro A ok vs Q hp ρ s E q F H
 refine wpAny_isTrue_Compare1 (ha.then ok q F H ?_) hm
 intro va hp₁ ρ₁ h₁ t₁ ra q₁ H₁ S₁ r₁ F₁
 refine hb.then ok (s:={ s with heap:=h₁,toks:=t₁ }) q₁ F₁ H₁ ?_
 intro vb hp₂ ρ₂ h₂ t₂ rb q₂ H₂ S₂ r₂ F₂
 refine wpAny_mono (hf A ok ρ₂ hp₂ { s with heap:=h₂,toks:=t₂ } va vb ra rb _ E q₂ H₂ (r₁.step S₂ H₁) r₂) ?_ (fun z z x=>x)
 rintro rv s' ⟨v,hp',ρ',h',t,rfl,q',H',S,rr⟩
 refine wpAny_mono (E9 (s:={ s with heap:=h',toks:=t }) q' H' rr) ?_ (fun z z x=>x)
 exact fun b s' p=>PostB.after ((S₁.trans S₂).trans S) p
def bVal(a:XE):XB:=fun vs Q=>a vs fun v=>truthV v Q
theorem Ed{e:Expr}{a:XE}(ha:SoundE K r env look e a)(he:∀ whole,isTrue e env whole=(do let v ← whole;standAt e.pos;holding [v] (truthy v))):SoundB K r env look e (bVal a):=by
 intro A ok vs Q hp ρ s E q F H
 refine wpAny_isTrue_value (ha.then ok q F H ?_) (he _)
 intro va hp₁ ρ₁ h₁ t₁ ra q₁ H₁ S₁ r₁ F₁
 refine wpAny_mono (E9 (s:={ s with heap:=h₁,toks:=t₁ }) q₁ H₁ r₁) ?_ (fun z z x=>x)
 exact fun b s' p=>PostB.after S₁ p
def bAnd(a b:XB):XB:=fun vs Q=>a vs fun x hp=>match x with | true=>b vs Q hp | false=>Q false hp
def bOr(a b:XB):XB:=fun vs Q=>a vs fun x hp=>match x with | true=>Q true hp | false=>b vs Q hp
theorem Oe{x y:Expr}{pos:Pos}{a b:XB}(ha:SoundB K r env look x a)(hb:SoundB K r env look y b):SoundB K r env look (.BoolOp .And [x,y] pos) (bAnd a b):=by
 intro A ok vs Q hp ρ s E q F H
 refine wpAny_isTrue_BoolOp (wpAny_allTrue_And_cons (ha.then ok q F H ?_))
 intro c hp₁ ρ₁ h₁ t₁ q₁ H₁ S₁ F₁
 cases c with
 | false=>exact⟨hp₁,ρ₁,h₁,t₁,rfl,q₁,H₁,S₁⟩
 | true =>
  refine wpAny_allTrue_And_cons (hb.then ok (s:={ s with heap:=h₁,toks:=t₁ }) q₁ F₁ H₁ ?_)
  intro c hp₂ ρ₂ h₂ t₂ q₂ H₂ S₂ F₂
  cases c with
  | false=>exact⟨hp₂,ρ₂,h₂,t₂,rfl,q₂,H₂,S₁.trans S₂⟩
  | true=>exact wpAny_allTrue_And_nil ⟨hp₂,ρ₂,h₂,t₂,rfl,q₂,H₂,S₁.trans S₂⟩
theorem On{x y:Expr}{pos:Pos}{a b:XB}(ha:SoundB K r env look x a)(hb:SoundB K r env look y b):SoundB K r env look (.BoolOp .Or [x,y] pos) (bOr a b):=by
 intro A ok vs Q hp ρ s E q F H
 refine wpAny_isTrue_BoolOp (wpAny_allTrue_Or_cons (ha.then ok q F H ?_))
 intro c hp₁ ρ₁ h₁ t₁ q₁ H₁ S₁ F₁
 cases c with
 | true=>exact⟨hp₁,ρ₁,h₁,t₁,rfl,q₁,H₁,S₁⟩
 | false =>
  refine wpAny_allTrue_Or_cons (hb.then ok (s:={ s with heap:=h₁,toks:=t₁ }) q₁ F₁ H₁ ?_)
  intro c hp₂ ρ₂ h₂ t₂ q₂ H₂ S₂ F₂
  cases c with
  | true=>exact⟨hp₂,ρ₂,h₂,t₂,rfl,q₂,H₂,S₁.trans S₂⟩
  | false=>exact wpAny_allTrue_Or_nil ⟨hp₂,ρ₂,h₂,t₂,rfl,q₂,H₂,S₁.trans S₂⟩
def xIte(t:XB)(a b:XE):XE:=fun vs Q=>t vs fun x hp=>match x with | true=>a vs Q hp | false=>b vs Q hp
theorem E2{t x y:Expr}{pos:Pos}{p:XB}{a b:XE}(ht:SoundB K r env look t p)(ha:SoundE K r env look x a)(hb:SoundE K r env look y b):SoundE K r env look (.IfExp t x y pos) (xIte p a b):=by
 intro A ok vs Q hp ρ s E q F H
 refine wpAny_IfExp (ht.then ok q F H ?_)
 intro c hp₁ ρ₁ h₁ t₁ q₁ H₁ S₁ F₁
 cases c with
 | true=>exact wpAny_mono (ha A ok vs Q hp₁ ρ₁ { s with heap:=h₁,toks:=t₁ } E q₁ F₁ H₁) (fun rv s' p=>PostE.after S₁ p) (fun z z x=>x)
 | false=>exact wpAny_mono (hb A ok vs Q hp₁ ρ₁ { s with heap:=h₁,toks:=t₁ } E q₁ F₁ H₁) (fun rv s' p=>PostE.after S₁ p) (fun z z x=>x)
def xAnd(a b:XE):XE:=fun vs Q=>a vs fun v=>truthV v fun x hp=>match x with | true=>b vs Q hp | false=>Q v hp
theorem MD{x y:Expr}{pos:Pos}{a b:XE}(ha:SoundE K r env look x a)(hb:SoundE K r env look y b):SoundE K r env look (.BoolOp .And [x,y] pos) (xAnd a b):=by
 intro A ok vs Q hp ρ s E q F H
 show wpAny _ A (boolOp pos .And [eval x env,eval y env]) _ E s
 refine wpAny_bind (ha.then ok q F H ?_)
 intro va hp₁ ρ₁ h₁ t₁ ra q₁ H₁ S₁ r₁ F₁
 refine wpAny_bind (wpAny_standAt (wpAny_bind (wpAny_holding (wpAny_mono (E9 (s:={ s with heap:=h₁,toks:=t₁ }) q₁ H₁ r₁) ?_ (fun z z x=>x)))))
 rintro c s' ⟨hp',ρ',h',t,rfl,q',H',S⟩
 cases c with
 | false=>exact wpAny_pure ⟨va,hp',ρ',h',t,rfl,q',H',S₁.trans S,r₁.step S H₁⟩
 | true=>exact wpAny_mono (hb A ok vs Q hp' ρ' { s with heap:=h',toks:=t } E q' (F₁.step H₁ S) H') (fun rv s' p=>PostE.after (S₁.trans S) p) (fun z z x=>x)
def xNeg(a:XE):XE:=fun vs Q=>a vs fun v hp=>match v with | .d (.int i)=>Q (.d (.int (-i))) hp | _=>False
theorem I9{x:Expr}{pos:Pos}{a:XE}(ha:SoundE K r env look x a):SoundE K r env look (.UnaryOp .USub x pos) (xNeg a):=by
 intro A ok vs Q hp ρ s E q F H
 refine wpAny_UnaryOp (ha.then ok q F H ?_)
 intro va hp₁ ρ₁ h₁ t₁ ra q₁ H₁ S₁ r₁ F₁
 obtain⟨_,rfl,q₁⟩:=BZ q₁
 cases r₁
 exact PyProof.Rows.neg_int (PostE.after S₁ (PostE.pure _ q₁ H₁ (.int ..)))
end
inductive VRs(ρ:Rho)(h:Heap):List V→List Value→Prop
 | nil:VRs ρ h [] []
 | cons {v:V} {vs:List V} {x:Value} {xs:List Value}:VR ρ h v x→VRs ρ h vs xs→VRs ρ h (v::vs) (x::xs)
theorem VRs.step{K:KX}{ρ ρ':Rho}{hp:List O}{h h':Heap}(S:Step K ρ h ρ' h')(H:HRel K ρ hp h){vs:List V}{xs:List Value}(r:VRs ρ h vs xs):VRs ρ' h' vs xs:=by
 induction vs generalizing xs with
 | nil=>cases r;exact .nil
 | cons v vs ih=>cases r with | cons a b=>exact .cons (a.step S H) (ih b)
theorem VRs.length{ρ:Rho}{h:Heap}{vs:List V}{xs:List Value}(r:VRs ρ h vs xs):vs.length=xs.length:=by
 induction vs generalizing xs with
 | nil=>cases r;rfl
 | cons v vs ih=>cases r with | cons a b=>simp[ih b]
theorem VRs.append{ρ:Rho}{h:Heap}{vs vs':List V}{xs xs':List Value}(r:VRs ρ h vs xs)(q:VRs ρ h vs' xs'):VRs ρ h (vs++vs') (xs++xs'):=by
 induction vs generalizing xs with
 | nil=>cases r;exact q
 | cons v vs ih=>cases r with | cons a b=>exact .cons a (ih b)
abbrev XL:=List (Option V)→(List V→List O→Prop)→List O→Prop
inductive PostL(K:KX)(ρ:Rho)(s:Shared)(Q:List V→List O→Prop)(rvs:List Value)(s':Shared):Prop
 | mk (vs:List V) (hp':List O) (ρ':Rho) (h':Heap) (t:Nat) (e:s'={ s with heap:=h',toks:=t }) (q:Q vs hp') (H:HRel K ρ' hp' h') (S:Step K ρ s.heap ρ' h') (r:VRs ρ' h' vs rvs)
def SoundL(K:KX)(r:Nat)(env:Env)(look:Str→Option Nat)(es:List Expr)(p:XL):Prop :=
 ∀ A,OkA r A→∀ pos vs Q hp ρ s E,p vs Q hp→FRel K env look vs ρ s.heap→HRel K ρ hp s.heap →
  wpAny (model K.prog K.w) A (spliced (backTo pos (starEach es env))) (PostL K ρ s Q) E s
section
variable{K:KX}{r:Nat}{env:Env}{look:Str→Option Nat}
def lNil:XL:=fun z Q=>Q []
def lCons(a:XE)(p:XL):XL:=fun vs Q=>a vs fun v=>p vs fun l=>Q (v::l)
theorem A6:SoundL K r env look [] lNil:=fun A ok pos vs Q hp ρ s E q F H=>spliced_none ⟨_,hp,ρ,s.heap,s.toks,rfl,q,H,Step.refl ..,.nil⟩
theorem K2{e:Expr}{es:List Expr}{a:XE}{p:XL}(ha:SoundE K r env look e a)(hp:SoundL K r env look es p)
  (he:starEach (e::es) env=(false,eval e env)::starEach es env):SoundL K r env look (e::es) (lCons a p):=by
 intro A ok pos vs Q hp' ρ s E q F H
 refine spliced_more (ha.then ok q F H ?_) he
 intro va hp₁ ρ₁ h₁ t₁ ra q₁ H₁ S₁ r₁ F₁
 refine wpAny_mono (hp A ok pos vs _ hp₁ ρ₁ { s with heap:=h₁,toks:=t₁ } E q₁ F₁ H₁) ?_ (fun z z x=>x)
 rintro rvs s' ⟨l,hp₂,ρ₂,h₂,t₂,rfl,q₂,H₂,S₂,r₂⟩
 exact⟨va::l,hp₂,ρ₂,h₂,t₂,rfl,q₂,H₂,S₁.trans S₂,.cons (r₁.step S₂ H₁) r₂⟩
noncomputable def datas:List V→Option (List PyData)
 | []=>some []
 | .d x::l=>(datas l).map (x :: ·)
 | _::_=>none
theorem Dt{ρ:Rho}{h:Heap}:∀ {vs:List V} {xs:List Value} {ds:List PyData},VRs ρ h vs xs→datas vs=some ds→DRs h (mu ρ) xs ds:=by
 intro vs
 induction vs with
 | nil=>intro xs ds r e;cases r;cases e;exact .nil
 | cons v l ih =>
  intro xs ds r e
  cases r with
  | cons a b =>
   cases v with
   | d x =>
    obtain⟨ds,z,rfl⟩:=Option.map_eq_some_iff.mp (show(datas l).map (x :: ·)=some ds from e)
    exact .cons a (ih b z)
   | _=>cases e
def mkL(m:Bool)(xs:List PyData)(Q:V→List O→Prop)(hp:List O):Prop :=
 match m with | false=>Q (.d (.list xs)) hp | true=>Q (.r hp.length) (hp++[.lst xs])
theorem LN{m:Bool}{xs:List PyData}{Q:V→List O→Prop}{hp:List O}{ρ:Rho}{s:Shared}{h':Heap}{a:Addr}{vs:Array Value}(q:mkL m xs Q hp)(H:HRel K ρ hp s.heap)
  (hk:∀ b o,s.heap.get? b=some o→h'.get? b=some o) (ha:s.heap.get? a=none) (hl:IsL h' a vs 0) (d:DRs s.heap (mu ρ) vs.toList xs) (t:Nat) :
  PostE K ρ s Q (.ref a) { s with heap:=h',toks:=t }:=by
 have d':DRs h' (mu ρ) vs.toList xs:=d.step (Step.grow (K:=K) hk) H
 cases m with
 | false=>exact PostE.grown t q H hk (.list hl (H.notMu ha) d')
 | true =>
  have hd:DRs h' (mu (ρ++[⟨a,a,[]⟩])) vs.toList xs:=by
   refine d.mono fun b o vs n e z hm=>⟨hk _ _ e,?_⟩
   simp only[mu,List.map_append,List.map_cons,List.map_nil,List.mem_append,List.mem_singleton,not_or]
   exact⟨hm,AP ha e⟩
  obtain⟨H',S'⟩:=H.add hk (p:=⟨a,a,[]⟩) (o:=.lst xs) ha ⟨_,hl⟩ (fun z h=>nomatch h) ⟨rfl,vs,0,hl,hd⟩
  exact⟨_,_,_,h',t,rfl,q,H',S',⟨⟨a,a,[]⟩,by rw[← H.len];simp,rfl⟩⟩
def xList(m:Bool)(p:XL):XE:=fun vs Q=>p vs fun l hp=>match datas l with | some xs=>xs.length≤sizeLine∧mkL m xs Q hp | none=>False
set_option tactic.hygienic true in
theorem AZ{m:Bool}{es:List Expr}{pos:Pos}{p:XL}(hp:SoundL K r env look es p):SoundE K r env look (.List es pos) (xList m p):=by
 intro A ok vs Q hp' ρ s E q F H
 show wpAny _ A (do standAt pos;newList (← spliced (backTo pos (starEach es env)))) _ E s
 refine wpAny_bind (wpAny_standAt (wpAny_bind (wpAny_mono (hp A ok pos vs _ hp' ρ s E q F H) ?_ (fun z z x=>x))))
 rintro rvs s' ⟨l,hp₁,ρ₁,h₁,t₁,rfl,q₁,H₁,S₁,r₁⟩
 generalize e:datas l=o at q₁
 cases o with
 | none=>exact q₁.elim
 | some xs =>
  have d:=Dt r₁ e
  have hz:=d.length
  refine wpAny_newList (PostE.after S₁ (LN (s:={ s with heap:=h₁,toks:=t₁ }) (vs:=rvs.toArray) q₁.2 H₁ (fun z z e=>Heap.get?_push_of_some _ e) (AA (Nat.le_refl _)) (Heap.get?_push_size _ rfl) d t₁)) (Tt (Qe hz) q₁.1)
def xTuple(p:XL):XE:=fun vs Q=>p vs fun l hp=>match datas l with | some xs=>xs.length≤sizeLine∧Q (.d (.tuple xs)) hp | none=>False
set_option tactic.hygienic true in
theorem Fw{es:List Expr}{k:Nat}{pos:Pos}{p:XL}(hp:SoundL K r env look es p):SoundE K r env look (.Tuple es k pos) (xTuple p):=by
 intro A ok vs Q hp' ρ s E q F H
 show wpAny _ A (do standAt pos;newTuple (← spliced (backTo pos (starEach es env)))) _ E s
 refine wpAny_bind (wpAny_standAt (wpAny_bind (wpAny_mono (hp A ok pos vs _ hp' ρ s E q F H) ?_ (fun z z x=>x))))
 rintro rvs s' ⟨l,hp₁,ρ₁,h₁,t₁,rfl,q₁,H₁,S₁,r₁⟩
 generalize e:datas l=o at q₁
 cases o with
 | none=>exact q₁.elim
 | some xs =>
  have d:=Dt r₁ e
  have hz:=d.length
  refine wpAny_newTuple (PostE.after S₁ (PostE.grown (s:={ s with heap:=h₁,toks:=t₁ }) t₁ q₁.2 H₁ (fun z z e=>Heap.get?_push_of_some _ e) ?_)) (Tt (Qe hz) q₁.1)
  exact .tuple (n:=0) (vs:=rvs.toArray) (Heap.get?_push_size _ rfl) H₁.sizeMu (d.step (Step.push K ..) H₁)
theorem AO{M:Model}{A:Around}{E:Value→Shared→Prop}{s:Shared}{pos:Pos}{id:String}{first:List Value}{trees:List (Bool×Sem Value)}{Q:Value→Shared→Prop}
  (hp:trees.any (·.1)=false) (h:wpAny M A (spliced trees) (fun vs s₁=>wpAny M A (call (.builtin id) (first++vs)) Q E s₁) E s):wpAny M A (callWith pos (.builtin id) first trees []) Q E s:=by
 unfold callWith
 have ev:wpAny M A (evalArgs (.builtin id) true trees []) (fun x s₁=>x.kw=[]∧wpAny M A (call (.builtin id) (first++x.pos)) Q E s₁) E s:=by
  cases trees with
  | nil =>
   refine evalArgs_kw_nil rfl ?_
   refine wpAny_mono (Q:=fun vs s₁=>vs=[]∧wpAny M A (call (.builtin id) (first++[])) Q E s₁) ?_ (fun ks s₁ h₁=>?_) (fun z z x=>x)
   ·refine wpAny_evalAll_nil ⟨rfl,?_⟩
    have:wpAny M A (spliced []) (fun vs s₁=>wpAny M A (call (.builtin id) (first++vs)) Q E s₁) E s:=h
    exact fun Γ p hΓ=>this Γ p hΓ Γ p hΓ
   ·exact⟨by simp,h₁.2⟩
  | cons x rest =>
   obtain⟨b,t⟩:=x
   simp only[List.any_cons,Bool.or_eq_false_iff] at hp
   obtain⟨rfl,_⟩:=hp
   exact Calls.evalArgs_plain (wpAny_mono h (fun vs s₁ h₁=>⟨rfl,h₁⟩) fun z z x=>x)
 refine wpAny_bind (wpAny_holding (wpAny_mono ev (fun x s₁ h₁=>wpAny_bind (wpAny_standAt ?_)) fun z z x=>x))
 obtain⟨hk,h₁⟩:=h₁
 rw[hp,hk]
 refine wpAny_bind (wpAny_pure (a:=Keeper.machine) ?_)
 exact wpAny_bind (wpAny_mono h₁ (fun r s₂ hr=>wpAny_bind (wpAny_holding (wpAny_point (wpAny_pure hr)))) fun z z x=>x)
end
section
variable{K:KX}{r:Nat}{env:Env}{look:Str→Option Nat}
abbrev MS:=Str→List V→(V→List O→Prop)→List O→Prop
def SoundMS(K:KX)(r:Nat)(id:String)(f:MS):Prop :=
 ∀ A,OkA r A→∀ ρ hp s x t vas ras Q E,f x vas Q hp→HRel K ρ hp s.heap→VRs ρ s.heap vas ras→wpAny (model K.prog K.w) A (call (.builtin id) (.str x t::ras)) (PostE K ρ s Q) E s
def xMethS(f:MS)(a:XE)(p:XL):XE:=fun vs Q=>a vs fun vo hp=>match vo with | .d (.str x)=>p vs (fun vas=>f x vas Q) hp | _=>False
set_option tactic.hygienic true in
theorem Bc{o:Expr}{name:Str}{id:String}{args:List Expr}{apos pos:Pos}{f:MS}{a:XE}{p:XL}(hf:SoundMS K r id f)(ho:SoundE K r env look o a)(hp:SoundL K r env look args p)
  (slot:Slot "str" name id) (hty:typeOf (.builtin id)=pure (.type "method_descriptor"))
  (hbase:attributeBase o name env (eval o env)=eval o env)
  (hfew:((backTo pos (starEach args env)).all (fun x => !x.1) && (backToKw pos (keywordEach [] env)).all (fun x=>x.1.isSome)
   && decide (args.length+([]:List Keyword).length+(if ([]:List Keyword).isEmpty then 0 else 1)<30))=true)
  (hline:(apos.endLine == pos.line)=true):SoundE K r env look (.Call (.Attribute o name apos) args [] pos) (xMethS f a p):=by
 intro A ok vs Q hp' ρ s E q F H
 refine wpAny_Call_method_lateS hbase hfew hline (ho.then ok q F H ?_)
 intro va hp₁ ρ₁ h₁ t₁ ra q₁ H₁ S₁ r₁ F₁
 obtain⟨x,rfl,q₁⟩:=C0 q₁
 cases r₁
 refine⟨"str", id,PySem.F.plainAttrs_str,slot,hty,typeIs_str _ _ _,(fun z e=>nomatch e),AO ?_ ?_⟩
 ·have:=hfew
  simp only[Bool.and_eq_true,List.all_eq_true,Bool.not_eq_true'] at this
  rw[List.any_eq_false]
  intro y hy;simpa using this.1.1 y hy
 ·refine wpAny_mono (hp A ok pos vs _ hp₁ ρ₁ { s with heap:=h₁,toks:=t₁ } E q₁ F₁ H₁) ?_ (fun z z x=>x)
  rintro rvs s' ⟨l,hp₂,ρ₂,h₂,t₂,rfl,q₂,H₂,S₂,r₂⟩
  refine wpAny_mono (hf A ok ρ₂ hp₂ { s with heap:=h₂,toks:=t₂ } x _ l rvs Q E q₂ H₂ r₂) ?_ (fun z z x=>x)
  exact fun rv s' p=>PostE.after (S₁.trans S₂) p
def mFind:MS:=fun x vas Q hp=>match vas with | [v]=>(match v with | .d (.str y)=>Q (.d (.int (Txt.find x y))) hp | _=>False) | _=>False
theorem Jx:SoundMS K r "str.find" mFind:=by
 intro A ok ρ hp s x t vas ras Q E q H hv
 cases hv with
 | nil=>exact q.elim
 | cons a b=>cases b with
  | cons=>exact q.elim
  | nil=>obtain⟨_,rfl,q⟩:=C0 q;cases a;exact SC.find (PostE.pure _ q H (.int ..))
def mLower:MS:=fun x vas Q hp=>match vas with | []=>(Txt.lower x).length≤sizeLine∧Q (.d (.str (Txt.lower x))) hp | _=>False
theorem Hy:SoundMS K r "str.lower" mLower:=by
 intro A ok ρ hp s x t vas ras Q E q H hv
 cases hv with
 | nil =>
  obtain⟨q1,q⟩:=q
  exact SC.lower (by simp only[Builtin.Str.tooLong,decide_eq_false_iff_not];lia) (PostE.pure _ q H (.str ..))
 | cons _ _=>exact q.elim
noncomputable def strsOf:List PyData→Option (List Str)
 | []=>some []
 | .str x::l=>(strsOf l).map (x :: ·)
 | _=>none
set_option tactic.hygienic true in
theorem Gx{h:Heap}{μ:List Addr}:∀ {vs:List Value} {xs:List PyData} {ts:List Str},DRs h μ vs xs→strsOf xs=some ts→∃ l,vs=strValues l∧l.map (·.1)=ts:=by
 intro vs xs
 induction xs generalizing vs with
 | nil=>intro ts r e;cases r;cases e;exact⟨[],rfl,rfl⟩
 | cons x xs ih =>
  intro ts r e
  cases r with
  | cons a b =>
   cases x with
   | str y =>
    obtain⟨ts',e',rfl⟩:=Option.map_eq_some_iff.mp (show(strsOf xs).map (y :: ·)=some ts from e)
    obtain⟨l,rfl,rfl⟩:=ih b e'
    cases a
    rename_i t
    exact⟨(y,t)::l,rfl,rfl⟩
   | _=>cases e
def mJoin:MS:=fun x vas Q hp=>match vas with
 | [v]=>∃ l ts,lget v hp=some l∧strsOf l=some ts∧JoinOk x ts=true∧Q (.d (.str (Txt.join x ts))) hp
 | _=>False
theorem Fk:SoundMS K r "str.join" mJoin:=by
  intro A ok ρ hp s x t vas ras Q E q H hv
  cases hv with
    | nil=>exact q.elim
    | cons a b=>cases b with
     | cons _ _=>exact q.elim
     | nil =>
      refine viaP fun z zf=>?_
      obtain⟨l,ts,e1,e2,hj,q⟩:=q
      obtain⟨ad,vs,n,rfl,h1,d1⟩:=Aj H a e1
      obtain⟨l',e3,e4⟩:=Gx d1 e2
      have:vs=(strValues l').toArray:=by rw[← e3]
      subst this
      refine zf ?_
      exact SC.join h1.isList e4 hj fun t' k=>PostE.pure _ q H (.str ..)
def mSplit:MS:=fun x vas Q hp=>match vas with
 | [v]=>match v with | .d (.str y)=>y.length≠0∧x.length+2≤sizeLine∧Q (.d (.list ((Txt.split x y).map .str))) hp | _=>False
 | _=>False
theorem GC{h:Heap}{μ:List Addr}:∀ l:List (Str×Tok),DRs h μ (strValues l) ((l.map (·.1)).map .str)
 | []=>.nil
 | (x,t)::l=>.cons (.str x t) (GC l)
open Builtin.Str in
set_option tactic.hygienic true in
theorem LO:SoundMS K r "str.split" mSplit:=by
 intro A ok ρ hp s x t vas ras Q E q H hv
 cases hv with
 | nil=>exact q.elim
 | cons a b=>cases b with
  | cons=>exact q.elim
  | nil =>
   obtain⟨y,rfl,q⟩:=C0 q
   cases a
   rename_i u
   obtain⟨hy0,hsz,q⟩:=q
   have hy:(y.length == 0)=false:=by simpa using hy0
   have hn:(partsBetween x (occurrences x y 0 x.length (x.length+1)) y.length).length≤sizeLine:=by
    have e1:=StrLaws.occ_length_le x y 0 x.length (x.length+1)
    rw[length_partsBetween];lia
   have key:∀ (l:List (Str×Tok)) (k:Nat),l.map (·.1)=Txt.split x y →
     PostE K ρ s Q (.ref s.heap.objs.size) { s with heap:=s.heap.push { cls:=.type "list", data:=.seq (strValues l).toArray },toks:=k }:=by
    intro l k e
    refine PostE.grown k q H (fun z z e=>Heap.get?_push_of_some _ e) ?_
    refine .list (n:=0) (vs:=(strValues l).toArray) (Heap.get?_push_size _ rfl) H.sizeMu ?_
    rw[← e]
    exact GC l
   cases h1:(decide (x.length<y.length) || decide (strKind x<strKind y))
   ·cases hf:(occurrences x y 0 x.length (x.length+1)).isEmpty
    ·refine call_meets PySem.F.slot_str_split (typeIs_str _ _ _) PySem.F.entry_str_split (PySem.F.args_str_split_2 _ _) (meets_str_split_sep x y t u h1 hy hf (Tt Lr hsz) hn) ?_
     show wants (PostE K ρ s Q) E _ { s with toks:=_,heap:=s.heap.push { cls:=.type "list", data:=.seq (strsFrom s.toks (partsBetween x (occurrences x y 0 x.length (x.length+1)) y.length)).toArray } }
     rw[strsFrom_eq]
     exact key (numbered s.toks _) _ ((numbered_texts _ _).trans ((if_neg (ne_true_of_eq_false h1)).trans (if_neg (ne_true_of_eq_false hf))).symm)
    ·exact call_meets PySem.F.slot_str_split (typeIs_str _ _ _) PySem.F.entry_str_split (PySem.F.args_str_split_2 _ _) (meets_str_split_not_found x y t u h1 hy hf)
      (key [(x,t)] s.toks ((if_neg (ne_true_of_eq_false h1)).trans (if_pos hf)).symm)
   ·exact call_meets PySem.F.slot_str_split (typeIs_str _ _ _) PySem.F.entry_str_split (PySem.F.args_str_split_2 _ _) (meets_str_split_cannot_occur x y t u h1)
     (key [(x,t)] s.toks (if_pos h1).symm)
abbrev ML:=V→List V→(V→List O→Prop)→List O→Prop
def SoundML(K:KX)(r:Nat)(id:String)(f:ML):Prop :=
 ∀ A,OkA r A→∀ ρ hp s v l rv vas ras Q E,f v vas Q hp→HRel K ρ hp s.heap→VR ρ s.heap v rv→lget v hp=some l→VRs ρ s.heap vas ras→wpAny (model K.prog K.w) A (call (.builtin id) (rv::ras)) (PostE K ρ s Q) E s
def xMethL(f:ML)(a:XE)(p:XL):XE:=fun vs Q=>a vs fun vo hp=>(lget vo hp).isSome=true∧p vs (fun vas hp'=>(lget vo hp').isSome=true∧f vo vas Q hp') hp
theorem An{o:Expr}{name:Str}{id:String}{args:List Expr}{apos pos:Pos}{f:ML}{a:XE}{p:XL}(hf:SoundML K r id f)(ho:SoundE K r env look o a)(hp:SoundL K r env look args p)
  (slot:Slot "list" name id) (hty:typeOf (.builtin id)=pure (.type "method_descriptor"))
  (hbase:attributeBase o name env (eval o env)=eval o env)
  (hfew:((backTo pos (starEach args env)).all (fun x => !x.1) && (backToKw pos (keywordEach [] env)).all (fun x=>x.1.isSome)
   && decide (args.length+([]:List Keyword).length+(if ([]:List Keyword).isEmpty then 0 else 1)<30))=true)
  (hline:(apos.endLine == pos.line)=true):SoundE K r env look (.Call (.Attribute o name apos) args [] pos) (xMethL f a p):=by
 intro A ok vs Q hp' ρ s E q F H
 refine wpAny_Call_method_lateS hbase hfew hline (ho.then ok q F H ?_)
 intro vo hp₁ ρ₁ h₁ t₁ ra q₁ H₁ S₁ r₁ F₁
 obtain⟨hl,q₁⟩:=q₁
 obtain⟨l,el⟩:=Option.isSome_iff_exists.mp hl
 obtain⟨ad,xs,n,rfl,hL,_⟩:=Aj H₁ r₁ el
 refine⟨"list", id,PySem.F.plainAttrs_list,slot,hty,⟨_,hL,rfl⟩,(fun a e=>by cases e;exact⟨_,hL,rfl⟩),AO ?_ ?_⟩
 ·have:=hfew
  simp only[Bool.and_eq_true,List.all_eq_true,Bool.not_eq_true'] at this
  rw[List.any_eq_false]
  intro y hy;simpa using this.1.1 y hy
 ·refine wpAny_mono (hp A ok pos vs _ hp₁ ρ₁ { s with heap:=h₁,toks:=t₁ } E q₁ F₁ H₁) ?_ (fun z z x=>x)
  rintro rvs s' ⟨l',hp₂,ρ₂,h₂,t₂,rfl,⟨hl₂,q₂⟩,H₂,S₂,r₂⟩
  obtain⟨l₂,el₂⟩:=Option.isSome_iff_exists.mp hl₂
  refine wpAny_mono (hf A ok ρ₂ hp₂ { s with heap:=h₂,toks:=t₂ } vo l₂ (.ref ad) l' rvs Q E q₂ H₂ (r₁.step S₂ H₁) el₂ r₂) ?_ (fun z z x=>x)
  exact fun rv s' p=>PostE.after (S₁.trans S₂) p
theorem CK{A:Around}{ρ:Rho}{hp:List O}{s:Shared}{i:Nat}{l l':List PyData}{p:P}{f:Array Value→Array Value}{vs:Array Value}{n:Nat}(H:HRel K ρ hp s.heap)(e:hp[i]?=some (.lst l))(ep:ρ[i]?=some p)
  (hL:IsL s.heap p.m vs n) (hpm:p.a=p.m) (d:DRs s.heap (mu ρ) (f vs).toList l') :
  HRel K ρ (hp.set i (.lst l')) (s.heap.update p.m (Obj.mapSeq f))∧Step K ρ s.heap ρ (s.heap.update p.m (Obj.mapSeq f)):=by
 have hs:Heap.SameBut p.m s.heap (s.heap.update p.m (Obj.mapSeq f)):=Heap.SameBut.update ..
 have hd:∃ o,(s.heap.update p.m (Obj.mapSeq f)).get? p.m=some o:=⟨_,hL.update f⟩
 have S:=Step.own (K:=K) (List.mem_of_getElem? ep) hs hd
 refine⟨H.own ep (List.getElem?_eq_some_iff.mp e).1 hs ?_ hd,S⟩
 exact⟨hpm,f vs,_,hL.update f,d.step S H⟩
def atL(v:V)(hp:List O)(k:Nat→List PyData→Prop):Prop:=match v with
 | .r i=>match hp[i]? with | some (.lst l)=>k i l | _=>False
 | _=>False
theorem Cu{ρ:Rho}{hp:List O}{s:Shared}{v:V}{rv:Value}{k:Nat→List PyData→Prop}(q:atL v hp k)(H:HRel K ρ hp s.heap)(hv:VR ρ s.heap v rv) :
  ∃ i l p vs n,v = .r i∧hp[i]?=some (.lst l)∧ρ[i]?=some p∧rv = .ref p.m∧p.a=p.m∧IsL s.heap p.m vs n∧DRs s.heap (mu ρ) vs.toList l∧k i l:=by
 cases v with
 | r i =>
  obtain⟨l,e,q⟩:=Cl q
  obtain⟨p,ep,rfl⟩:=hv
  obtain⟨ha,vs,n,h1,h2⟩:=H.at e ep
  exact⟨i,l,p,vs,n,rfl,e,ep,by rw[ha],ha,h1,h2,q⟩
 | _=>exact q.elim
def mAppend:ML:=fun v vas Q hp=>match vas with
 | [w]=>(match w with | .d x=>atL v hp fun i l=>l.length≤sizeLine∧Q (.d .none) (hp.set i (.lst (l++[x]))) | _=>False)
 | _=>False
set_option tactic.hygienic true in
theorem Av:SoundML K r "list.append" mAppend:=by
  intro A ok ρ hp s v l₀ rv vas ras Q E q H hv el hvs
  cases hvs with
  | nil=>exact q.elim
  | cons a b=>cases b with
    | cons=>exact q.elim
    | nil=>rename_i w rx;cases w with
     | d x =>
      obtain⟨i,l,p,vs,n,rfl,e,ep,rfl,ha,hL,d,hz,q⟩:=Cu q H hv
      have z:=d.length
      simp only[Array.length_toList] at z
      obtain⟨H',S'⟩:=CK (A:=A) (f:=fun xs=>xs.push rx) (l':=l++[x]) H e ep hL ha (by simpa using d.append (.cons a .nil))
      refine call_meets PySem.F.slot_list_append ⟨_,hL,rfl⟩ PySem.F.entry_list_append (PySem.F.args_list_append_2 _ _) (list_append p.m vs n rx (Tt (Qe z) hz)) ⟨hL,?_⟩
      exact⟨_,_,ρ,_,s.toks,rfl,q,H',S',.none⟩
     | _=>exact q.elim
def mReverse:ML:=fun v vas Q hp=>match vas with
 | []=>atL v hp fun i l=>l.length≤sizeLine∧Q (.d .none) (hp.set i (.lst l.reverse))
 | _=>False
theorem Ic:SoundML K r "list.reverse" mReverse:=by
 intro A ok ρ hp s v l₀ rv vas ras Q E q H hv el hvs
 cases hvs with
 | nil =>
  obtain⟨i,l,p,vs,n,rfl,e,ep,rfl,ha,hL,d,hz,q⟩:=Cu q H hv
  have z:=d.length
  simp only[Array.length_toList] at z
  obtain⟨H',S'⟩:=CK (A:=A) (f:=fun xs=>xs.reverse) (l':=l.reverse) H e ep hL ha (by simpa using d.reverse)
  refine call_meets PySem.F.slot_list_reverse ⟨_,hL,rfl⟩ PySem.F.entry_list_reverse (PySem.F.args_list_reverse_1 _) (AutoSeq1.list_reverse_list_0 p.m vs n (Tt (Qe z) hz)) ⟨hL,?_⟩
  exact⟨_,_,ρ,_,s.toks,rfl,q,H',S',.none⟩
 | cons _ _=>exact q.elim
def mPop:ML:=fun v vas Q hp=>match vas with
 | []=>atL v hp fun i l=>match l.getLast? with | some x=>l.length≤sizeLine∧Q (.d x) (hp.set i (.lst l.dropLast)) | none=>False
 | [w]=>(match w with | .d (.int i)=>i=0∧atL v hp fun i l=>(match l with | x::t=>l.length≤sizeLine∧Q (.d x) (hp.set i (.lst t)) | []=>False) | _=>False)
 | _=>False
theorem EZ{α:Type}(xs:Array α):(xs.eraseIdxIfInBounds (xs.size-1)).toList=xs.toList.dropLast:=by
 have h:(xs.eraseIdxIfInBounds (xs.size-1)).toList=xs.toList.eraseIdx (xs.size-1):=by
  unfold Array.eraseIdxIfInBounds
  split
  ·simp
  ·rename_i h
   have:xs.toList=[]:=by
    have:xs.size=0:=by omega
    simpa using this
   simp[this]
 rw[h,← Array.length_toList,List.eraseIdx_length_sub_one]
theorem Gc{α:Type}(xs:Array α):(xs.eraseIdxIfInBounds 0).toList=xs.toList.drop 1:=by
 unfold Array.eraseIdxIfInBounds
 split
 ·simp[List.eraseIdx_zero]
 ·rename_i h
  have:xs.toList=[]:=by
   have:xs.size=0:=by lia
   simpa using this
  simp[this]
theorem DRs.dropLast{h:Heap}{μ:List Addr}{vs:List Value}{xs:List PyData}(d:DRs h μ vs xs):DRs h μ vs.dropLast xs.dropLast:=by
 rw[List.dropLast_eq_take,List.dropLast_eq_take,d.length];exact d.take _
set_option tactic.hygienic true in
theorem Hx:SoundML K r "list.pop" mPop:=by
 intro A ok ρ hp s v l₀ rv vas ras Q E q H hv el hvs
 cases hvs with
 | nil =>
  obtain⟨i,l,p,vs,n,rfl,e,ep,rfl,ha,hL,d,q⟩:=Cu q H hv
  have z:=d.length
  simp only[Array.length_toList] at z
  generalize ex:l.getLast?=o at q
  cases o with
  | none=>exact q.elim
  | some x =>
   rw[List.getLast?_eq_getElem?] at ex
   obtain⟨y,ey,dy⟩:=d.get ex
   obtain⟨H',S'⟩:=CK (A:=A) (f:=fun xs=>xs.eraseIdxIfInBounds (vs.size-1)) (l':=l.dropLast) H e ep hL ha (by rw[EZ];exact d.dropLast)
   refine call_meets PySem.F.slot_list_pop ⟨_,hL,rfl⟩ PySem.F.entry_list_pop (PySem.F.args_list_pop_1 _) (MeetsSeq.list_pop_last p.m vs n y (by rw[z];simpa using ey) (by omega)) ⟨hL,?_⟩
   exact⟨_,_,ρ,_,s.toks,rfl,q.2,H',S',dy.step S' H⟩
 | cons a b=>cases b with
  | cons=>exact q.elim
  | nil =>
   obtain⟨_,rfl,rfl,q₂⟩:=BZ q
   clear q
   cases a
   obtain⟨i,l,p,vs,n,rfl,e,ep,rfl,ha,hL,d,q⟩:=Cu q₂ H hv
   rename_i u
   have z:=d.length
   simp only[Array.length_toList] at z
   cases l with
   | nil=>exact q.elim
   | cons x t =>
    obtain⟨y,ey,dy⟩:=d.get (k:=0) (x:=x) rfl
    obtain⟨H',S'⟩:=CK (A:=A) (f:=fun xs=>xs.eraseIdxIfInBounds 0) (l':=t) H e ep hL ha (by rw[Gc];exact d.drop 1)
    have hpos:0<vs.size:=by rw[z];simp
    refine call_meets PySem.F.slot_list_pop ⟨_,hL,rfl⟩ PySem.F.entry_list_pop (PySem.F.args_list_pop_2 _ _) (MeetsSeq.list_pop_at p.m vs n 0 u 0 y (by decide) (by simp[seqIndex?,hpos]) (by simpa using ey) (by omega)) ⟨hL,?_⟩
    exact⟨_,_,ρ,_,s.toks,rfl,q.2,H',S',dy.step S' H⟩
end
noncomputable def psl{α:Type}(l:List α)(lo hi:Option Int):List α :=
 (l.drop (lo.elim 0 (clipAt l.length))).take (hi.elim l.length (clipAt l.length)-lo.elim 0 (clipAt l.length))
theorem Iy(n:Nat)(i:Int):clipAt n i≤n:=by
 have:=clipAt_cast n i
 omega
theorem GE(x:Str)(lo hi:Option Int):Txt.slice x lo hi=⟨(psl x.cps.toList lo hi).toArray⟩:=by
 have e:Builtin.Str.strSliceIndices lo hi 1 x.length=(List.range (hi.elim x.length (clipAt x.length)-lo.elim 0 (clipAt x.length))).map (lo.elim 0 (clipAt x.length) + ·):=by
  rw[← sliceRange_one]
  cases lo<;>cases hi<;>simp[Builtin.Str.strSliceIndices,clipAt_cast]
 have hl:x.cps.toList.length=x.length:=by simp[Str.length]
 have p:((Builtin.Str.strSliceIndices lo hi 1 x.length).filterMap (x.cps[·]?))=psl x.cps.toList lo hi:=by
  rw[e,pick_run]
  unfold psl
  rw[hl]
 unfold Txt.slice
 split
 ·rename_i h
  rw[e] at h
  simp only[List.length_map,List.length_range] at h
  have h2:hi.elim x.length (clipAt x.length)-lo.elim 0 (clipAt x.length)=x.length:=by simpa using h
  have hb:hi.elim x.length (clipAt x.length)≤x.length:=by cases hi<;>simp[Iy]
  have:psl x.cps.toList lo hi=x.cps.toList:=by
   unfold psl
   rw[hl,h2]
   rcases Nat.eq_zero_or_pos x.length with h0 | h0
   ·have:x.cps.toList=[]:=by rw[h0] at hl;exact List.length_eq_zero_iff.mp hl
    rw[this];simp
   ·have:lo.elim 0 (clipAt x.length)=0:=by omega
    rw[this,List.drop_zero,← hl,List.take_length]
  rw[this]
 ·rw[p]
section
variable{K:KX}{r:Nat}{env:Env}{look:Str→Option Nat}
def opItem:Op2:=fun va vb Q hp=>match vb with
 | .d (.int i)=>(-2 ^ 63≤i∧i<2 ^ 63)∧(match va with
  | .d (.str x)=>match Txt.charAt x i with | some c=>Q (.d (.str ⟨#[c]⟩)) hp | none=>False
  | .d (.tuple l)=>match (seqIndex? i l.length).bind (l[·]?) with | some y=>Q (.d y) hp | none=>False
  | va=>∃ l,lget va hp=some l∧match (seqIndex? i l.length).bind (l[·]?) with | some y=>Q (.d y) hp | none=>False)
 | _=>False
theorem CR{i:Int}{n k:Nat}(h:seqIndex? i n=some k):k<n∧(0≤i→i.toNat=k)∧(i<0 → -(n:Int)≤i∧(i+n).toNat=k):=by
 by_cases hn:i<0
 ·simp only[seqIndex?,hn,if_true] at h
  split at h
  ·rename_i hc
   simp only[Bool.and_eq_true,decide_eq_true_eq] at hc
   simp only[Option.some.injEq] at h
   exact⟨by omega,by omega,fun z=>⟨by omega,h⟩⟩
  ·cases h
 ·simp only[seqIndex?,hn,if_false] at h
  split at h
  ·rename_i hc
   simp only[Bool.and_eq_true,decide_eq_true_eq] at hc
   simp only[Option.some.injEq] at h
   exact⟨by omega,fun z=>h,fun h=>absurd h (by omega)⟩
  ·cases h
theorem viaR{G T:Prop}(r:T→G)(m:(T→G)→G):G:=m r
set_option tactic.hygienic true in
theorem AG{value slice:Expr}{pos:Pos}{a b:XE}(ha:SoundE K r env look value a)(hb:SoundE K r env look slice b)
  (hs:∀ o i,subscripted slice false o i=operate [o,i] (getItem o i)):SoundE K r env look (.Subscript value slice pos) (xBin opItem a b):=by
 intro A ok vs Q hp ρ s E q F H
 refine Subscript_ (ha.then ok q F H ?_)
 intro va hp₁ ρ₁ h₁ t₁ ra q₁ H₁ S₁ r₁ F₁
 refine hb.then ok (s:={ s with heap:=h₁,toks:=t₁ }) q₁ F₁ H₁ ?_
 intro vb hp₂ ρ₂ h₂ t₂ rb q₂ H₂ S₂ r₂ F₂
 have r₁':=r₁.step S₂ H₁
 have done:∀ {w:V} {rw:Value} (t:Nat),Q w hp₂→VR ρ₂ h₂ w rw→PostE K ρ s Q rw { s with heap:=h₂,toks:=t }:=fun t q r=>⟨_,hp₂,ρ₂,h₂,t,rfl,q,H₂,S₁.trans S₂,r⟩
 obtain⟨i,rfl,⟨hlo,hhi⟩,q₂⟩:=BZ q₂
 cases r₂
 rename_i u
 refine viaR (T:=∃ l,lget va hp₂=some l∧match (seqIndex? i l.length).bind (l[·]?) with | some y=>Q (.d y) hp₂ | none=>False) (fun z=>?_) fun rest=>?_
 ·obtain⟨l,el,z⟩:=z
  obtain⟨ad,xs,n,rfl,hL,d⟩:=Aj H₂ r₁' el
  generalize hy:(seqIndex? i l.length).bind (l[·]?)=o at z
  cases o with
  | none=>exact z.elim
  | some y =>
   obtain⟨k,hk,hy⟩:=Option.bind_eq_some_iff.mp hy
   obtain⟨w,hw,dw⟩:=d.get hy
   have e:=d.length
   simp only[Array.length_toList] at e
   obtain⟨p1,p2,p3⟩:=CR hk
   refine tail_any (T := "list") hL.isList.typeIs slot_list_getitem.lookup ?_ (hs _ _)
   rcases Int.lt_or_le i 0 with hneg | hpos
   ·have:=p3 hneg
    exact wpAny_getItem_list_neg hL.isList hneg (by omega) hlo (by rw[e,this.2];simpa using hw) (done _ z dw)
   ·exact wpAny_getItem_list hL.isList hpos hhi (by rw[p2 hpos];simpa using hw) (done _ z dw)
 cases va with
 | d x =>
  cases x with
  | str x =>
   cases r₁'
   dsimp only at q₂
   generalize hc:Txt.charAt x i=o at q₂
   cases o with
   | none=>exact q₂.elim
   | some c =>
    refine tail_any (typeIs_str _ _ _) PySem.F.slot_str_getitem.lookup ?_ (hs _ _)
    exact PyProof.Rows.getItem_str (by simp only[Bool.or_eq_false_iff,decide_eq_false_iff_not];omega) hc (done _ q₂ (.str ..))
  | tuple l =>
   cases r₁' with
   | tuple h1 h2 h3 =>
    rename_i ad xs n
    dsimp only at q₂
    generalize hy:(seqIndex? i l.length).bind (l[·]?)=o at q₂
    cases o with
    | none=>exact q₂.elim
    | some y =>
     refine viaP fun _x zf=>?_
     obtain⟨k,hk,hy⟩:=Option.bind_eq_some_iff.mp hy
     obtain⟨w,hw,dw⟩:=h3.get hy
     have z:=h3.length
     simp only[Array.length_toList] at z
     refine zf ?_
     refine tail_any (T := "tuple") ⟨_,h1,rfl⟩ PySem.F.slot_tuple_getitem.lookup ?_ (hs _ _)
     exact PyProof.Rows.getItem_tuple (items:=xs) ⟨_,h1,rfl,_,rfl⟩ hlo hhi (by rw[z];exact hk) (by simpa using hw) (done _ q₂ dw)
  | _=>exact rest q₂
 | _=>exact rest q₂
abbrev XP:=List (Option V)→(Option Int→List O→Prop)→List O→Prop
def pNone:XP:=fun z Q hp=>Q none hp
def pSome(a:XE):XP:=fun vs Q=>a vs fun v hp=>match v with | .d (.int i)=>Q (some i) hp | _=>False
inductive PartW(K:KX)(ρ:Rho)(Q:Option Int→List O→Prop)(s:Shared)(rv:Value)(s':Shared):Prop
 | mk (o:Option Int) (hp':List O) (ρ':Rho) (h':Heap) (t:Tok):s'={ s with heap:=h',toks:=t }→IsPart rv o→Q o hp'→HRel K ρ' hp' h'→Step K ρ s.heap ρ' h'→PartW K ρ Q s rv s'
def SoundP(K:KX)(r:Nat)(env:Env)(look:Str→Option Nat)(e:Option Expr)(p:XP):Prop :=
 ∀ A,OkA r A→∀ vs Q hp ρ s E,p vs Q hp→FRel K env look vs ρ s.heap→HRel K ρ hp s.heap →
  wpAny (model K.prog K.w) A (evalPart e env) (PartW K ρ Q s) E s
theorem EN:SoundP K r env look none pNone:=fun A ok vs Q hp ρ s E q F H=>wpAny_pure ⟨none,hp,ρ,s.heap,s.toks,rfl,.none,q,H,Step.refl ..⟩
theorem EM{e:Expr}{a:XE}(ha:SoundE K r env look e a):SoundP K r env look (some e) (pSome a):=by
 intro A ok vs Q hp ρ s E q F H
 refine ha.then ok q F H ?_
 intro va hp₁ ρ₁ h₁ t₁ ra q₁ H₁ S₁ r₁ F₁
 obtain⟨_,rfl,q₁⟩:=BZ q₁
 cases r₁;exact⟨_,hp₁,ρ₁,h₁,t₁,rfl,.int ..,q₁,H₁,S₁⟩
def sliceV(va:V)(lo hi:Option Int)(Q:V→List O→Prop)(hp:List O):Prop:=match va with
 | .d (.str x)=>x.length≤sizeLine∧Q (.d (.str ⟨(psl x.cps.toList lo hi).toArray⟩)) hp
 | .d (.tuple l)=>∃ a:Nat,lo=some ((a+1:Nat):Int)∧hi=none∧a+1≤l.length∧l.length≤sizeLine∧Q (.d (.tuple (l.drop (a+1)))) hp
 | va=>∃ l,lget va hp=some l∧l.length≤sizeLine∧Q (.d (.list (psl l lo hi))) hp
def xSlice(a:XE)(lo hi:XP):XE:=fun vs Q=>a vs fun va=>lo vs fun l=>hi vs fun u=>sliceV va l u Q
theorem LH{h:Heap}{μ:List Addr}{vs:List Value}{xs:List PyData}(d:DRs h μ vs xs)(lo hi:Option Int):DRs h μ (psl vs lo hi) (psl xs lo hi):=by
 unfold psl
 rw[d.length]
 exact(d.drop _).take _
set_option tactic.hygienic true in
theorem Da{value:Expr}{lower upper:Option Expr}{p pos:Pos}{a:XE}{lo hi:XP}(ha:SoundE K r env look value a)(hl:SoundP K r env look lower lo)(hu:SoundP K r env look upper hi) :
  SoundE K r env look (.Subscript value (.Slice lower upper none p) pos) (xSlice a lo hi):=by
 intro A ok vs Q hp ρ s E q F H
 refine Subscript_ (ha.then ok q F H ?_)
 intro va hp₁ ρ₁ h₁ t₁ ra q₁ H₁ S₁ r₁ F₁
 refine wpAny_Slice (wpAny_mono (hl A ok vs _ hp₁ ρ₁ { s with heap:=h₁,toks:=t₁ } E q₁ F₁ H₁) ?_ (fun y y x=>x))
 rintro vl s₂ ⟨l,hp₂,ρ₂,h₂,t₂,rfl,pl,q₂,H₂,S₂⟩
 refine wpAny_mono (hu A ok vs _ hp₂ ρ₂ { s with heap:=h₂,toks:=t₂ } E q₂ (F₁.step H₁ S₂) H₂) ?_ (fun y y x=>x)
 rintro vu s₃ ⟨u,hp₃,ρ₃,h₃,t₃,rfl,pu,q₃,H₃,S₃⟩
 refine wpAny_pure ?_
 have r₁':=(r₁.step S₂ H₁).step S₃ H₂
 have S:=(S₁.trans S₂).trans S₃
 have ops:∀ o i,subscripted (.Slice lower upper none p) false o i=operate [i,o] (getItem o i):=fun y y=>rfl
 have H₄:HRel K ρ₃ hp₃ (h₃.push { cls:=.type "slice", data:=.fields #[vl,vu,.none] }):=H₃.push _
 have S₄:Step K ρ₃ h₃ ρ₃ (h₃.push { cls:=.type "slice", data:=.fields #[vl,vu,.none] }):=Step.push ..
 have sl:(h₃.push { cls:=.type "slice", data:=.fields #[vl,vu,.none] }).IsSliceOf h₃.objs.size vl vu .none:=Heap.IsSliceOf.new ..
 have r₄:=r₁'.step S₄ H₃
 by_cases hr:∃ l',lget va hp₃=some l'∧l'.length≤sizeLine∧Q (.d (.list (psl l' l u))) hp₃
 ·obtain⟨xs,el,hz,q₃⟩:=hr
  have H4:HRel K ρ₃ hp₃ (h₃.push { cls:=.type "slice", data:=.fields #[vl,vu,.none] }):=H₄
  obtain⟨ad,ys,n,rfl,hL,d⟩:=Aj H₄ r₄ el
  have z:=d.length
  simp only[Array.length_toList] at z
  refine tail_any (T := "list") hL.isList.typeIs slot_list_getitem.lookup ?_ (ops _ _)
  refine wpAny_getItem_list_slice hL.isList sl pl pu .none (by simp) ?_ (Tt (Qe z) hz)
  refine PostE.after (S.trans S₄) (PostE.grown (s:={ s with heap:=h₃.push { cls:=.type "slice", data:=.fields #[vl,vu,.none] },toks:=t₃ }) t₃ q₃ H₄ (fun y y e=>Heap.get?_push_of_some _ e) ?_)
  refine .list (n:=0) (Heap.get?_push_size _ rfl) H₄.sizeMu ?_
  rw[slicePick_plain]
  exact(LH d l u).step (Step.push K ..) H₄
 cases va with
 | d x=>cases x with
  | str x =>
   cases r₄
   rename_i tx
   refine tail_any (typeIs_str _ _ _) PySem.F.slot_str_getitem.lookup ?_ (ops _ _)
   have fin:∀ t' k,PostE K ρ s Q (.str (Txt.slice x l u) t') { s with heap:=h₃.push { cls:=.type "slice", data:=.fields #[vl,vu,.none] },toks:=k }:=by
    intro t' k
    refine⟨_,hp₃,ρ₃,_,k,rfl,q₃.2,H₄,S.trans S₄,?_⟩
    rw[GE]
    exact .str ..
   cases pl with
   | none=>cases pu with
    | none=>exact wpAny_getItem_str_slice (l:=none) (u:=none) (st:=none) sl rfl (post_val_or_str ⟨Nat.le_trans (Txt.slice_le x _ _) q₃.1,fin⟩)
    | int j tj=>exact wpAny_getItem_str_slice (l:=none) (u:=some (j,tj)) (st:=none) sl rfl (post_val_or_str ⟨Nat.le_trans (Txt.slice_le x _ _) q₃.1,fin⟩)
   | int i ti=>cases pu with
    | none=>exact wpAny_getItem_str_slice (l:=some (i,ti)) (u:=none) (st:=none) sl rfl (post_val_or_str ⟨Nat.le_trans (Txt.slice_le x _ _) q₃.1,fin⟩)
    | int j tj=>exact wpAny_getItem_str_slice (l:=some (i,ti)) (u:=some (j,tj)) (st:=none) sl rfl (post_val_or_str ⟨Nat.le_trans (Txt.slice_le x _ _) q₃.1,fin⟩)
  | tuple xs=>cases r₄ with
   | tuple h1 h2 h3 =>
    rename_i ad ys n
    obtain⟨a',rfl,rfl,hle,hz,q₃⟩:=q₃
    cases pl;cases pu
    rename_i tl
    have z:=h3.length
    simp only[Array.length_toList] at z
    refine tail_any (T := "tuple") ⟨_,h1,rfl⟩ PySem.F.slot_tuple_getitem.lookup ?_ (ops _ _)
    refine PyProof.Rows.getItem_tuple_from (items:=ys) (a:=a'+1) ⟨_,h1,rfl,_,rfl⟩ sl Lq (Tt hle (Qr z)) ?_ (Tt (Qe z) hz)
    refine PostE.after (S.trans S₄) (PostE.grown (s:={ s with heap:=h₃.push { cls:=.type "slice", data:=.fields #[_,.none,.none] },toks:=t₃ }) t₃ q₃ H₄ (fun y y e=>Heap.get?_push_of_some _ e) ?_)
    exact .tuple (n:=0) (Heap.get?_push_size _ rfl) H₄.sizeMu ((h3.drop (a'+1)).step (Step.push K ..) H₄)
  | _=>exact(hr q₃).elim
 | _=>exact(hr q₃).elim
end
abbrev G:=Option (Nat×List PyData)
def gOk:G→List O→Prop
 | none,_=>True
 | some (j,l),hp=>hp[j]?=some (.lst l)
noncomputable def signsOf(x:Str):List PyData:=x.cps.toList.map fun c=>.str ⟨#[c]⟩
noncomputable def rangeL(a b c:Int):List PyData:=(List.range (Builtin.Range.rangeSize a b c).toNat).map fun(k:Nat)=>.int (a+c*(k:Int))
inductive IterAt(ρ:Rho)(h:Heap)(it:Addr):G→List PyData→Prop
 | list {l:Addr} {vs:Array Value} {n i:Nat} {xs:List PyData}:h.IsListIter it l i→IsL h l vs n→l ∉ mu ρ→DRs h (mu ρ) (vs.toList.drop i) xs→IterAt ρ h it none xs
 | mlist {j:Nat} {l:List PyData} {p:P} {i:Nat}:ρ[j]?=some p→h.IsListIter it p.m i→IterAt ρ h it (some (j,l)) (l.drop i)
 | tuple {l:Addr} {vs:Array Value} {n i:Nat} {xs:List PyData}:h.IsTupleIter it l i→IsT h l vs n→l ∉ mu ρ→DRs h (mu ρ) (vs.toList.drop i) xs→IterAt ρ h it none xs
 | ascii {x:Str} {t:Tok} {i:Nat}:h.IsStrIter it "str_ascii_iterator" x t i→IterAt ρ h it none ((signsOf x).drop i)
 | wide {x:Str} {t:Tok} {i:Nat}:h.IsStrIter it "str_iterator" x t i→IterAt ρ h it none ((signsOf x).drop i)
 | range {x step:Int} {n:Nat}:IsRangeIter h it x n step→IterAt ρ h it none ((List.range n).map fun(k:Nat)=>.int (x+step*(k:Int)))
section
variable{K:KX}{ρ ρ':Rho}{hp:List O}{h h':Heap}{it:Addr}{g:G}{xs:List PyData}
theorem IterAt.dom(I:IterAt ρ h it g xs):∃ o fs,h.get? it=some o∧o.data = .fields fs∧∃ T,o.cls = .type T∧["enumerate", "zip", "dict_itemiterator", "dict_reverseitemiterator", "odict_iterator", "itertools.zip_longest", "itertools.pairwise"].contains T=false∧T ≠ "range" := by
 cases I with
 | list h1=>obtain⟨o,a,b,c⟩:=h1;exact⟨o,_,a,c,_,b,by decide,by decide⟩
 | mlist _ h1=>obtain⟨o,a,b,c⟩:=h1;exact⟨o,_,a,c,_,b,by decide,by decide⟩
 | tuple h1=>obtain⟨o,a,b,c⟩:=h1;exact⟨o,_,a,c,_,b,by decide,by decide⟩
 | ascii h1=>obtain⟨o,a,b,c⟩:=h1;exact⟨o,_,a,c,_,b,by decide,by decide⟩
 | wide h1=>obtain⟨o,a,b,c⟩:=h1;exact⟨o,_,a,c,_,b,by decide,by decide⟩
 | range h1=>exact⟨_,_,h1,rfl,_,rfl,by decide,by decide⟩
theorem IterAt.keeps(I:IterAt ρ h it g xs)(hk:∀ o,h.get? it=some o→h'.get? it=some o)(hd:∀ a o vs n,h.get? a=some o→o.data = .seq vs n→a ∉ mu ρ→h'.get? a=some o∧a ∉ mu ρ')(hpre:ρ <+: ρ'):IterAt ρ' h' it g xs:=by
 cases I with
 | list h1 h2 h3 h4=>obtain⟨o,a,b,c⟩:=h1;exact .list ⟨o,hk _ a,b,c⟩ (hd _ _ _ _ h2 rfl h3).1 (hd _ _ _ _ h2 rfl h3).2 (h4.mono hd)
 | mlist e h1=>obtain⟨o,a,b,c⟩:=h1;exact .mlist (BD hpre e) ⟨o,hk _ a,b,c⟩
 | tuple h1 h2 h3 h4=>obtain⟨o,a,b,c⟩:=h1;exact .tuple ⟨o,hk _ a,b,c⟩ (hd _ _ _ _ h2 rfl h3).1 (hd _ _ _ _ h2 rfl h3).2 (h4.mono hd)
 | ascii h1=>obtain⟨o,a,b,c⟩:=h1;exact .ascii ⟨o,hk _ a,b,c⟩
 | wide h1=>obtain⟨o,a,b,c⟩:=h1;exact .wide ⟨o,hk _ a,b,c⟩
 | range h1=>exact .range (hk _ h1)
theorem BU{α:Type}{l:List α}{i:Nat}{x:α}{xs:List α}(e:l.drop i=x::xs):l[i]?=some x∧l.drop (i+1)=xs:=by
 constructor
 ·have:(l.drop i)[0]?=some x:=by rw[e];rfl
  simpa using this
 ·have:(l.drop i).drop 1=xs:=by rw[e];rfl
  simpa [List.drop_drop,Nat.add_comm] using this
theorem CM{α:Type}{l:List α}{i:Nat}(e:l.drop i=[]):l[i]?=none:=by
 have:=List.drop_eq_nil_iff.mp e
 exact List.getElem?_eq_none this
inductive NextW(K:KX)(ρ:Rho)(hp:List O)(it:Addr)(g:G)(xs:List PyData)(x:PyData)(s:Shared)(r:Option Value)(s':Shared):Prop
 | mk (rv:Value) (h':Heap) (t:Tok):s'={ s with heap:=h',toks:=t }→r=some rv→DR h' (mu ρ) rv x→IterAt ρ h' it g xs→HRel K ρ hp h'→Heap.SameBut it s.heap h'→NextW K ρ hp it g xs x s r s'
inductive EndW(K:KX)(ρ:Rho)(hp:List O)(it:Addr)(s:Shared)(r:Option Value)(s':Shared):Prop
 | mk (h':Heap):s'={ s with heap:=h' }→r=none→HRel K ρ hp h'→Heap.ExtBut it s.heap h'→EndW K ρ hp it s r s'
inductive StartW(ρ:Rho)(hp:List O)(k:G→List PyData→Prop)(s:Shared)(r:Value)(s':Shared):Prop
 | mk (it:Addr) (g:G) (xs:List PyData) (h':Heap):s'={ s with heap:=h' }→r = .ref it→k g xs→gOk g hp→IterAt ρ h' it g xs→s.heap.get? it=none→(∀ b o,s.heap.get? b=some o→h'.get? b=some o)→StartW ρ hp k s r s'
set_option tactic.hygienic true in
theorem Dr{A:Around}{s:Shared}{x:PyData}{E:Value→Shared→Prop}(I:IterAt ρ s.heap it g (x::xs))(H:HRel K ρ hp s.heap)(hg:gOk g hp)(hn:K.New it)(ho:Off ρ it) :
  wpAny (model K.prog K.w) A (pyNext (.ref it)) (NextW K ρ hp it g xs x s) E s:=by
 have nonseq:∀ o,s.heap.get? it=some o→∀ vs n,o.data≠.seq vs n:=by
  obtain⟨o,fs,e,hd,_⟩:=I.dom
  intro o' e' vs n q
  rw[e] at e';cases e';rw[hd] at q;cases q
 have fin:∀ {h':Heap},Heap.SameBut it s.heap h'→HRel K ρ hp h':=fun hs=>H.other hn ho hs.extBut nonseq
 have kd:∀ {h':Heap},Heap.SameBut it s.heap h'→∀ a o vs n,s.heap.get? a=some o→o.data = .seq vs n→a ∉ mu ρ→h'.get? a=some o∧a ∉ mu ρ:=by
  intro h' hs a o vs n e hd hm
  exact⟨(hs.2 a (by rintro rfl;exact nonseq o e vs n hd)).trans e,hm⟩
 generalize hxx:x::xs=ys at I
 cases I with
 | list h1 h2 h3 h4 =>
  subst hxx
  rename_i l vs n i
  generalize hv:vs.toList.drop i=ws at h4
  cases h4 with
  | cons d ds =>
   obtain⟨e1,e2⟩:=BU hv
   refine wpAny_pyNext_list_item h1 (IsL.isList h2) (by simpa using e1) fun h' hi hs=>?_
   exact⟨_,h',s.toks,rfl,rfl,d.mono (kd hs),.list hi ((kd hs) _ _ _ _ h2 rfl h3).1 h3 (by rw[e2];exact ds.mono (kd hs)),fin hs,hs⟩
 | mlist e h1 =>
  rename_i j l p i
  obtain⟨e1,e2⟩:=BU hxx.symm
  have hgo:hp[j]?=some (.lst l):=hg
  obtain⟨_,vs,n,hL,d⟩:=H.at hgo e
  obtain⟨w,ew,dw⟩:=d.get e1
  refine wpAny_pyNext_list_item h1 (IsL.isList hL) (by simpa using ew) fun h' hi hs=>?_
  exact⟨_,h',s.toks,rfl,rfl,dw.mono (kd hs),by rw[← e2];exact .mlist e hi,fin hs,hs⟩
 | tuple h1 h2 h3 h4 =>
  subst hxx
  rename_i l vs n i
  generalize hv:vs.toList.drop i=ws at h4
  cases h4 with
  | cons d ds =>
   obtain⟨e1,e2⟩:=BU hv
   refine wpAny_pyNext_tuple_item h1 ⟨_,h2,rfl,_,rfl⟩ (by simpa using e1) fun h' hi hs=>?_
   exact⟨_,h',s.toks,rfl,rfl,d.mono (kd hs),.tuple hi ((kd hs) _ _ _ _ h2 rfl h3).1 h3 (by rw[e2];exact ds.mono (kd hs)),fin hs,hs⟩
 | ascii h1 =>
  rename_i y t i
  obtain⟨e1,e2⟩:=BU hxx.symm
  unfold signsOf at e1
  rw[List.getElem?_map] at e1
  cases ec:y.cps.toList[i]? with
  | none=>rw[ec] at e1;cases e1
  | some c =>
   rw[ec] at e1
   cases e1
   refine wpAny_pyNext_ascii_item h1 (by simpa using ec) fun h' hi hs=>?_
   exact⟨_,h',_,rfl,rfl,.str ..,by rw[← e2];exact .ascii hi,fin hs,hs⟩
 | wide h1 =>
  rename_i y t i
  obtain⟨e1,e2⟩:=BU hxx.symm
  unfold signsOf at e1
  rw[List.getElem?_map] at e1
  cases ec:y.cps.toList[i]? with
  | none=>rw[ec] at e1;cases e1
  | some c =>
   rw[ec] at e1
   cases e1
   refine wpAny_pyNext_wide_item h1 (by simpa using ec) fun h' hi hs=>?_
   exact⟨_,h',_,rfl,rfl,.str ..,by rw[← e2];exact .wide hi,fin hs,hs⟩
 | range h1 =>
  rename_i y st n
  cases n with
  | zero=>cases hxx
  | succ n =>
   rw[List.range_succ_eq_map,List.map_cons] at hxx
   injection hxx with hx1 hx2
   refine wpAny_pyNext_range_item h1 (by lia) fun h' hi hs=>?_
   have e:x = .int y:=by rw[hx1];simp
   have hi':IsRangeIter h' it (y+st) (n:Int) st:=by
    have:((n+1:Nat):Int)-1=(n:Int):=by lia
    rw[this] at hi;exact hi
   refine⟨_,h',_,rfl,rfl,e ▸ .int ..,?_,fin hs,hs⟩
   rw[hx2,List.map_map]
   have:((fun k=>PyData.int (y+st*(k:Nat))) ∘ Nat.succ)=fun k:Nat=>PyData.int (y+st+st*(k:Int)):=by
    funext k
    simp only[Function.comp,Nat.succ_eq_add_one]
    congr 1
    rw[Int.natCast_add,Int.mul_add];simp;lia
   rw[this]
   exact .range hi'
set_option tactic.hygienic true in
theorem EU{A:Around}{s:Shared}{E:Value→Shared→Prop}(hh:A.handled=none)(I:IterAt ρ s.heap it g [])(H:HRel K ρ hp s.heap)(hg:gOk g hp)(hn:K.New it)(ho:Off ρ it) :
  wpAny (model K.prog K.w) A (pyNext (.ref it)) (EndW K ρ hp it s) E s:=by
 have nonseq:∀ o,s.heap.get? it=some o→∀ vs n,o.data≠.seq vs n:=by
  obtain⟨o,fs,e,hd,_⟩:=I.dom
  intro o' e' vs n q
  rw[e] at e';cases e';rw[hd] at q;cases q
 have fin:∀ h':Heap,Heap.ExtBut it s.heap h'→EndW K ρ hp it s none { s with heap:=h' } :=
  fun h' hs=>⟨h',rfl,rfl,H.other hn ho hs nonseq,hs⟩
 generalize hxx:([]:List PyData)=ys at I
 cases I with
 | list h1 h2 h3 h4 =>
  subst hxx
  rename_i l vs n i
  generalize hv:vs.toList.drop i=ws at h4
  cases h4
  exact wpAny_pyNext_list_end hh h1 (IsL.isList h2) (by simpa using CM hv) fin
 | mlist e h1 =>
  rename_i j l p i
  have e1:=CM hxx.symm
  have hgo:hp[j]?=some (.lst l):=hg
  obtain⟨_,vs,n,hL,d⟩:=H.at hgo e
  have z:=d.length
  have:l.length≤i:=List.getElem?_eq_none_iff.mp e1
  exact wpAny_pyNext_list_end hh h1 (IsL.isList hL) (by rw[← Array.getElem?_toList];exact List.getElem?_eq_none (Tt (Qe z) this)) fin
 | tuple h1 h2 h3 h4 =>
  subst hxx
  rename_i l vs n i
  generalize hv:vs.toList.drop i=ws at h4
  cases h4
  exact wpAny_pyNext_tuple_end hh h1 ⟨_,h2,rfl,_,rfl⟩ (by simpa using CM hv) fin
 | ascii h1 =>
  rename_i y t i
  have e1:=CM hxx.symm
  unfold signsOf at e1
  refine wpAny_pyNext_ascii_end hh h1 ?_ fin
  rw[List.getElem?_map] at e1
  simpa using e1
 | wide h1 =>
  rename_i y t i
  have e1:=CM hxx.symm
  unfold signsOf at e1
  refine wpAny_pyNext_wide_end hh h1 ?_ fin
  rw[List.getElem?_map] at e1
  simpa using e1
 | range h1 =>
  rename_i y st n
  cases n with
  | zero=>exact wpAny_pyNext_range_end hh h1 (by simp) fin
  | succ n=>rw[List.range_succ_eq_map] at hxx;cases hxx
def iterV(v:V)(hp:List O)(k:G→List PyData→Prop):Prop:=match v with
 | .d (.list l)=>k none l
 | .d (.tuple l)=>k none l
 | .d (.str x)=>k none (signsOf x)
 | .rng a b c=>Builtin.Range.small a b c=true∧k none (rangeL a b c)
 | .r i=>match hp[i]? with | some (.lst l)=>k (some (i,l)) l | _=>False
 | _=>False
theorem FV(a b c:Int):0≤Builtin.Range.rangeSize a b c:=by
 unfold Builtin.Range.rangeSize
 split
 ·split
  ·have:=Int.ediv_nonneg (a:=b-a-1) (b:=c) (by lia) (by lia)
   lia
  ·exact Int.le_refl _
 ·split
  ·have:=Int.ediv_nonneg (a:=a-b-1) (b := -c) (by lia) (by lia)
   lia
  ·exact Int.le_refl _
set_option tactic.hygienic true in
theorem CT{A:Around}{s:Shared}{v:V}{rv:Value}{E:Value→Shared→Prop}{k:G→List PyData→Prop}(q:iterV v hp k)(hv:VR ρ s.heap v rv)(H:HRel K ρ hp s.heap) :
    wpAny (model K.prog K.w) A (pyIter rv) (StartW ρ hp k s) E s:=by
  have fr:s.heap.get? s.heap.objs.size=none:=AA (Nat.le_refl _)
  have pk:∀ ob b o,s.heap.get? b=some o→(s.heap.push ob).get? b=some o:=fun ob z z e=>Heap.get?_push_of_some _ e
  cases v with
  | d y=>cases y with
   | list=>cases hv with
    | list h1 h2 h3 =>
      refine wpAny_pyIter_list (IsL.isList h1) ⟨_,none,_,_,rfl,rfl,q,trivial,?_,fr,pk _⟩
      exact .list (i:=0) ⟨_,Heap.get?_push_size _ rfl,rfl,rfl⟩ (pk _ _ _ h1) h2 (by rw[List.drop_zero];exact h3.step (Step.push K ..) H)
   | tuple=>cases hv with
    | tuple h1 h2 h3 =>
      refine wpAny_pyIter_tuple ⟨_,h1,rfl,_,rfl⟩ ⟨_,none,_,_,rfl,rfl,q,trivial,?_,fr,pk _⟩
      exact .tuple (i:=0) ⟨_,Heap.get?_push_size _ rfl,rfl,rfl⟩ (pk _ _ _ h1) h2 (by rw[List.drop_zero];exact h3.step (Step.push K ..) H)
   | str x =>
    cases hv
    rename_i t
    cases ha:x.cps.all (· < 128) with
    | true=>exact wpAny_pyIter_ascii ha ⟨_,none,_,_,rfl,rfl,q,trivial,.ascii (i:=0) ⟨_,Heap.get?_push_size _ rfl,rfl,rfl⟩,fr,pk _⟩
    | false=>exact wpAny_pyIter_wide ha ⟨_,none,_,_,rfl,rfl,q,trivial,.wide (i:=0) ⟨_,Heap.get?_push_size _ rfl,rfl,rfl⟩,fr,pk _⟩
   | _=>exact q.elim
  | rng a b c =>
    obtain⟨r,t,u,w,rfl,e,hm⟩:=hv
    refine wpAny_pyIter_range e q.1 ⟨_,none,_,_,rfl,rfl,q.2,trivial,?_,fr,pk _⟩
    refine .range (n:=(Builtin.Range.rangeSize a b c).toNat) ?_
    rw[Int.toNat_of_nonneg (FV a b c)]
    exact Heap.get?_push_size _ rfl
  | r i =>
    obtain⟨p,ep,rfl⟩:=hv
    obtain⟨l,e,q⟩:=Cl q
    obtain⟨ha,vs,n,hL,d⟩:=H.at e ep
    rw[ha]
    refine wpAny_pyIter_list (IsL.isList hL) ⟨_,some (i,l),l,_,rfl,rfl,q,e,?_,fr,pk _⟩
    exact .mlist (i:=0) (l:=l) ep ⟨_,Heap.get?_push_size _ rfl,rfl,rfl⟩
  | g=>exact q.elim
theorem Ih{A:Around}{s:Shared}{E:Value→Shared→Prop}{Q:Value→Shared→Prop}(I:IterAt ρ s.heap it g xs)(q:Q (.ref it) s):wpAny (model K.prog K.w) A (pyIter (.ref it)) Q E s:=by
 cases I with
 | list h1=>exact wpAny_pyIter_listiter h1 q
 | mlist _ h1=>exact wpAny_pyIter_listiter h1 q
 | tuple h1=>exact wpAny_pyIter_tupleiter h1 q
 | ascii h1=>exact wpAny_pyIter_striter_ascii h1 q
 | wide h1=>exact wpAny_pyIter_striter_wide h1 q
 | range h1=>exact wpAny_pyIter_rangeiter h1 q
theorem ET{A:Around}{s:Shared}{E:Value→Shared→Prop}{Q:Unit→Shared→Prop}{target:Expr}{v:Value}(I:IterAt ρ s.heap it g xs)(q:Q () s):wpAny (model K.prog K.w) A (letOwnedTupleGo target (.ref it) v) Q E s:=by
 obtain⟨o,fs,e,hd,T,hc,ht,_⟩:=I.dom
 have key:wpAny (model K.prog K.w) A (do
   let (.ref r,.ref a):=(Value.ref it,v) | return
   let o ← load r
   match o.cls,o.data with
   | .type n,.fields vs =>
    if ["enumerate", "zip", "dict_itemiterator", "dict_reverseitemiterator", "odict_iterator", "itertools.zip_longest", "itertools.pairwise"].contains n && vs[0]? == some (rawInt a) then
     rule "for.unpacks-the-owned-tuple"
     updateField r 0 .none
   | _,_=>pure ()) Q E s:=by
  cases v with
  | ref a =>
   refine wpAny_bind (wpAny_load e ?_)
   rw[hc,hd]
   show wpAny _ A (if (_ && _)=true then _ else _) Q E s
   rw[if_neg (by rw[ht];simp)]
   exact wpAny_pure q
  | _=>exact wpAny_pure q
 cases target<;>first | exact wpAny_pure q | exact key
end
def Place(env:Env)(b:Addr):Prop:=b=env.locals∨∃ x,env.kindOf x=some .cell∧env.cells.lookup x=some b
structure StepS(K:KX)(env:Env)(ρ:Rho)(h:Heap)(ρ':Rho)(h':Heap):Prop where
 pre:ρ <+: ρ'
 new:∀ p∈ρ',p∈ρ∨(h.get? p.m=none∧∀ a∈p.f,h.get? a=none)
 keep:∀ b o,h.get? b=some o→b≠K.tb→b ∉ mu ρ→¬ Place env b→h'.get? b=some o
 dom:∀ b o,h.get? b=some o→∃ o',h'.get? b=some o'
section
variable{K:KX}{env:Env}{look:Str→Option Nat}{vs:List (Option V)}{ρ ρ₁ ρ₂ ρ':Rho}{hp:List O}{h h₁ h₂ h':Heap}
theorem Step.toS(S:Step K ρ h ρ' h'):StepS K env ρ h ρ' h':=⟨S.pre,S.new,fun b o e a c z=>S.keep b o e a c,S.dom⟩
theorem StepS.notMu(S:StepS K env ρ h ρ' h'){b:Addr}{o:Obj}(hb:h.get? b=some o)(hn:b ∉ mu ρ):b ∉ mu ρ':=by
 intro hm
 obtain⟨p,hp,rfl⟩:=List.mem_map.mp hm
 rcases S.new p hp with q | q
 ·exact hn (List.mem_map.mpr ⟨p,q,rfl⟩)
 ·rw[q.1] at hb;cases hb
theorem StepS.trans(a:StepS K env ρ h ρ₁ h₁)(b:StepS K env ρ₁ h₁ ρ₂ h₂):StepS K env ρ h ρ₂ h₂ :=
 ⟨a.pre.trans b.pre,fun p hp=>(b.new p hp).elim (fun q=>a.new p q) fun q=>.inr ⟨AJ a.dom q.1,fun x hx=>AJ a.dom (q.2 x hx)⟩,
  fun x o e h1 h2 h3=>b.keep x o (a.keep x o e h1 h2 h3) h1 (a.notMu e h2) h3,fun x o e=>let ⟨o',e'⟩:=a.dom x o e;b.dom x o' e'⟩
theorem StepS.refl(K:KX)(env:Env)(ρ:Rho)(h:Heap):StepS K env ρ h ρ h:=(Step.refl K ρ h).toS
theorem FRel.notPlace(F:FRel K env look vs ρ h){b:Addr}{o:Obj}(e:h.get? b=some o)(h1:∀ es n,o.data≠.dict es n)(h2:∀ v,o.data≠.cell v):¬ Place env b:=by
 rintro(rfl | ⟨x,hx,hc⟩)
 ·obtain⟨m,⟨o',es,ep,e',d,_⟩,_⟩:=F.ns
  rw[e] at e';cases e';exact h1 _ _ d
 ·obtain⟨c,o',ov,a1,_,_,a4,a5,_⟩:=F.cl x (.inl hx)
  rw[hc] at a1;cases a1
  rw[e] at a4;cases a4;exact h2 _ a5
theorem FRel.seqPlace(F:FRel K env look vs ρ h){b:Addr}{o:Obj}{xs:Array Value}{n:Nat}(e:h.get? b=some o)(hd:o.data = .seq xs n):¬ Place env b :=
 F.notPlace e (fun z z q=>by rw[hd] at q;cases q) (fun z q=>by rw[hd] at q;cases q)
theorem DR.stepS(S:StepS K env ρ h ρ' h')(F:FRel K env look vs ρ h)(H:HRel K ρ hp h){v:Value}{x:PyData}(d:DR h (mu ρ) v x):DR h' (mu ρ') v x :=
 d.mono fun a o vs n e hd hm=>⟨S.keep a o e (H.seqTb e hd) hm (F.seqPlace e hd),S.notMu e hm⟩
theorem DRs.stepS(S:StepS K env ρ h ρ' h')(F:FRel K env look vs ρ h)(H:HRel K ρ hp h){v:List Value}{x:List PyData}(d:DRs h (mu ρ) v x):DRs h' (mu ρ') v x :=
 d.mono fun a o vs n e hd hm=>⟨S.keep a o e (H.seqTb e hd) hm (F.seqPlace e hd),S.notMu e hm⟩
theorem VR.stepS(S:StepS K env ρ h ρ' h')(F:FRel K env look vs ρ h)(H:HRel K ρ hp h){v:V}{rv:Value}(d:VR ρ h v rv):VR ρ' h' v rv:=by
 cases v with
 | d x=>exact DR.stepS S F H d
 | r i=>obtain⟨p,e,rfl⟩:=d;exact⟨p,BD S.pre e,rfl⟩
 | rng a b c =>
  obtain⟨q,t,u,v,rfl,e,hm⟩:=d
  exact⟨q,t,u,v,rfl,S.keep _ _ e (H.tbObj e (by simp)) hm (F.notPlace e (by simp) (by simp)),S.notMu e hm⟩
 | g v=>exact d
theorem IterAt.stepS{it:Addr}{g:G}{xs:List PyData}(I:IterAt ρ h it g xs)(S:StepS K env ρ h ρ' h')(F:FRel K env look vs ρ h)(H:HRel K ρ hp h)(hm:it ∉ mu ρ)(ht:it≠K.tb):IterAt ρ' h' it g xs:=by
 obtain⟨o,fs,e,hd,_⟩:=I.dom
 refine I.keeps (fun o' e'=>S.keep _ _ e' ht hm ?_) (fun a o vs n e hd hm=>⟨S.keep a o e (H.seqTb e hd) hm (F.seqPlace e hd),S.notMu e hm⟩) S.pre
 rw[e] at e';cases e'
 exact F.notPlace e (fun z z q=>by rw[hd] at q;cases q) (fun z q=>by rw[hd] at q;cases q)
inductive StoW(K:KX)(env:Env)(look:Str→Option Nat)(vs:List (Option V))(hp:List O)(ρ:Rho)(s s':Shared):Prop
 | mk (h':Heap) (t:Tok):s'={ s with heap:=h',toks:=t }→FRel K env look vs ρ h'→HRel K ρ hp h'→StepS K env ρ s.heap ρ h'→StoW K env look vs hp ρ s s'
theorem AV{A:Around}{s:Shared}{E:Value→Shared→Prop}{x:Str}{k:Nat}{v:V}{rv:Value}(hk:env.kindOf x=some .local∨env.kindOf x=some .cell)(hl:look x=some k)
  (F:FRel K env look vs ρ s.heap) (H:HRel K ρ hp s.heap) (hv:VR ρ s.heap v rv) :
  wpAny (model K.prog K.w) A (storeName env x rv) (fun z=>StoW K env look (vs.set k (some v)) hp ρ s) E s:=by
 have slot:∀ y j w,look y=some j→(vs.set k (some v))[j]?=some (some w)→(y=x∧w=v)∨(y≠x∧vs[j]?=some (some w)):=by
  intro y j w hy e
  rw[List.getElem?_set] at e
  by_cases hj:k=j
  ·subst hj
   rw[if_pos rfl] at e
   split at e
   ·cases e;exact .inl ⟨F.ij y x k hy hl,rfl⟩
   ·cases e
  ·rw[if_neg hj] at e
   exact .inr ⟨fun q=>hj (by subst q;rw[hl] at hy;cases hy;rfl),e⟩
 rcases hk with hk | hk
 ·obtain⟨m,n,f⟩:=F.ns
  have hkc:(env.scope.kind == .class || (env.scope.kind == .module && env.locals != env.globals))=false:=by rw[F.kd];rfl
  obtain⟨ol,es,ep,el,dl,_⟩:=id n
  refine wpAny_storeName_local hk n (fun h' n' hs=>?_) hkc
  have S:StepS K env ρ s.heap ρ h':=⟨List.prefix_refl _,fun z hp=>.inl hp,fun b o e z z hb=>(hs.2 b (fun q=>hb (.inl q))).trans e,fun b o e=>by
   by_cases hb:b=env.locals
   ·subst hb;obtain⟨o',_,_,e',_⟩:=n';exact⟨o',e'⟩
   ·exact⟨o,(hs.2 b hb).trans e⟩⟩
  have nonseq:∀ o,s.heap.get? env.locals=some o→∀ vs n,o.data≠.seq vs n:=by
   intro o' e' vs n q
   rw[el] at e';cases e';rw[dl] at q;cases q
  refine⟨h',_,rfl,⟨F.kd,F.gl,F.bi,F.lb,F.lo,⟨_,n',?_⟩,?_,F.ci,F.ij⟩,H.other F.lb F.lo hs.extBut nonseq,S⟩
  ·intro y j w hy hj e
   rcases slot y j w hj e with ⟨rfl,rfl⟩ | ⟨hne,e⟩
   ·exact⟨rv,by simp,hv.stepS S F H⟩
   ·obtain⟨rw',e1,e2⟩:=f y j w hy hj e
    exact⟨rw',by simp[hne,e1],e2.stepS S F H⟩
  ·intro y hy
   obtain⟨c,o,ov,a1,a2,a3,a4,a5,a6⟩:=F.cl y hy
   have hne:c≠env.locals:=by rintro rfl;rw[el] at a4;cases a4;rw[dl] at a5;cases a5
   refine⟨c,o,ov,a1,a2,a3,(hs.2 c hne).trans a4,a5,fun j w hj e=>?_⟩
   rcases slot y j w hj e with ⟨rfl,rfl⟩ | ⟨_,e⟩
   ·rcases hy with hy | hy<;>(rw[hk] at hy;cases hy)
   ·obtain⟨rw',e1,e2⟩:=a6 j w hj e
    exact⟨rw',e1,e2.stepS S F H⟩
 ·obtain⟨c,o,ov,a1,a2,a3,a4,a5,a6⟩:=F.cl x (.inl hk)
  refine wpAny_storeName_cell F.kd hk a1 ⟨o,a4,a5⟩ (fun h' n' hs=>?_)
  have S:StepS K env ρ s.heap ρ h':=⟨List.prefix_refl _,fun z hp=>.inl hp,fun b o e z z hb=>(hs.2 b (fun q=>hb (.inr ⟨x,hk,q ▸ a1⟩))).trans e,fun b o e=>by
   by_cases hb:b=c
   ·subst hb;obtain⟨o',e',_⟩:=n';exact⟨o',e'⟩
   ·exact⟨o,(hs.2 b hb).trans e⟩⟩
  have nonseq:∀ o,s.heap.get? c=some o→∀ vs n,o.data≠.seq vs n:=by
   intro o' e' vs n q
   rw[a4] at e';cases e';rw[a5] at q;cases q
  have hcl:env.locals≠c:=by
   rintro rfl
   obtain⟨m,⟨ol,es,ep,el,dl,_⟩,_⟩:=F.ns
   rw[el] at a4;cases a4;rw[dl] at a5;cases a5
  refine⟨h',_,rfl,⟨F.kd,F.gl,F.bi,F.lb,F.lo,?_,?_,F.ci,F.ij⟩,H.other a2 a3 hs.extBut nonseq,S⟩
  ·obtain⟨m,n,f⟩:=F.ns
   refine⟨m,n.sameBut hs hcl,fun y j w hy hj e=>?_⟩
   rcases slot y j w hj e with ⟨rfl,rfl⟩ | ⟨_,e⟩
   ·rw[hk] at hy;cases hy
   ·obtain⟨rw',e1,e2⟩:=f y j w hy hj e
    exact⟨rw',e1,e2.stepS S F H⟩
  ·intro y hy
   by_cases hyx:y=x
   ·subst hyx
    obtain⟨o',e',d'⟩:=n'
    refine⟨c,o',_,a1,a2,a3,e',d',fun j w hj e=>?_⟩
    rcases slot y j w hj e with ⟨_,rfl⟩ | ⟨hne,_⟩
    ·exact⟨rv,rfl,hv.stepS S F H⟩
    ·exact absurd rfl hne
   ·obtain⟨c',o',ov',b1,b2,b3,b4,b5,b6⟩:=F.cl y hy
    have hne:c'≠c:=by rintro rfl;exact hyx (F.ci y x c' b1 a1)
    refine⟨c',o',ov',b1,b2,b3,(hs.2 c' hne).trans b4,b5,fun j w hj e=>?_⟩
    rcases slot y j w hj e with ⟨h,_⟩ | ⟨_,e⟩
    ·exact absurd h hyx
    ·obtain⟨rw',e1,e2⟩:=b6 j w hj e
     exact⟨rw',e1,e2.stepS S F H⟩
end
inductive FlA where
 | next | brk | cont
 | ret (v:V)
def FlR(ρ:Rho)(h:Heap):FlA→Flow→Prop
 | .next,.next=>True
 | .brk,.brk=>True
 | .cont,.cont=>True
 | .ret v,.ret rv=>VR ρ h v rv
 | _,_=>False
abbrev QS:=FlA→List (Option V)→List O→Prop
abbrev XS:=List (Option V)→QS→List O→Prop
inductive PostS(K:KX)(env:Env)(look:Str→Option Nat)(ρ:Rho)(s:Shared)(Q:QS)(fl:Flow)(s':Shared):Prop
 | mk (af:FlA) (vs':List (Option V)) (hp':List O) (ρ':Rho) (h':Heap) (t:Nat) (e:s'={ s with heap:=h',toks:=t }) (q:Q af vs' hp') (F:FRel K env look vs' ρ' h') (H:HRel K ρ' hp' h') (S:StepS K env ρ s.heap ρ' h') (r:FlR ρ' h' af fl)
theorem PostS.after{K:KX}{env:Env}{look:Str→Option Nat}{ρ ρ₁:Rho}{s:Shared}{h₁:Heap}{t₁:Nat}{Q:QS}{fl:Flow}{s':Shared}(S:StepS K env ρ s.heap ρ₁ h₁)
  (p:PostS K env look ρ₁ { s with heap:=h₁,toks:=t₁ } Q fl s'):PostS K env look ρ s Q fl s' :=
 let ⟨af,vs',hp',ρ',h',t,e,q,F,H,S',r⟩:=p
 ⟨af,vs',hp',ρ',h',t,e,q,F,H,S.trans S',r⟩
def SoundS(K:KX)(r:Nat)(env:Env)(look:Str→Option Nat)(st:Stmt)(p:XS):Prop :=
 ∀ A,OkA r A→∀ vs Q hp ρ s E,p vs Q hp→FRel K env look vs ρ s.heap→HRel K ρ hp s.heap→wpAny (model K.prog K.w) A (exec st env) (PostS K env look ρ s Q) E s
def SoundSs(K:KX)(r:Nat)(env:Env)(look:Str→Option Nat)(st:List Stmt)(p:XS):Prop :=
 ∀ A,OkA r A→∀ vs Q hp ρ s E,p vs Q hp→FRel K env look vs ρ s.heap→HRel K ρ hp s.heap→wpAny (model K.prog K.w) A (execs st env) (PostS K env look ρ s Q) E s
section
variable{K:KX}{r:Nat}{env:Env}{look:Str→Option Nat}
def sNil:XS:=fun vs Q=>Q .next vs
def sCons(a b:XS):XS:=fun vs Q=>a vs fun fl vs' hp=>match fl with | .next=>b vs' Q hp | fl=>Q fl vs' hp
theorem A3:SoundSs K r env look [] sNil:=fun A ok vs Q hp ρ s E q F H=>wpAny_execs_nil ⟨_,vs,hp,ρ,s.heap,s.toks,rfl,q,F,H,StepS.refl ..,trivial⟩
theorem A0{st:Stmt}{rest:List Stmt}{a b:XS}(ha:SoundS K r env look st a)(hb:SoundSs K r env look rest b):SoundSs K r env look (st::rest) (sCons a b):=by
 intro A ok vs Q hp ρ s E q F H
 refine wpAny_execs_cons (wpAny_mono (ha A ok vs _ hp ρ s E q F H) ?_ (fun z z x=>x))
 rintro fl s' ⟨af,vs',hp',ρ',h',t,rfl,q',F',H',S,fr⟩
 cases af<;>cases fl<;>first | exact fr.elim | skip
 ·exact wpAny_mono (hb A ok vs' Q hp' ρ' { s with heap:=h',toks:=t } E q' F' H') (fun fl s' p=>PostS.after S p) (fun z z x=>x)
 ·exact⟨.brk,vs',hp',ρ',h',t,rfl,q',F',H',S,trivial⟩
 ·exact⟨.cont,vs',hp',ρ',h',t,rfl,q',F',H',S,trivial⟩
 ·exact⟨.ret _,vs',hp',ρ',h',t,rfl,q',F',H',S,fr⟩
def sAssign(k:Nat)(a:XE):XS:=fun vs Q=>a vs fun v hp=>Q .next (vs.set k (some v)) hp
theorem A5{x:Str}{k:Nat}{pos' pos:Pos}{value:Expr}{a:XE}(ha:SoundE K r env look value a)(hk:env.kindOf x=some .local∨env.kindOf x=some .cell)(hl:look x=some k)
  (hs:swapsWith value (some (.Name x pos')) pos.line env=pure false):SoundS K r env look (.Assign [.Name x pos'] value pos) (sAssign k a):=by
 intro A ok vs Q hp ρ s E q F H
 refine wpAny_Assign_Name (ha.then ok q F H ?_) hs
 intro va hp₁ ρ₁ h₁ t₁ ra q₁ H₁ S₁ r₁ F₁
 refine wpAny_mono (AV (s:={ s with heap:=h₁,toks:=t₁ }) hk hl F₁ H₁ r₁) ?_ (fun z z x=>x)
 rintro _ s' ⟨h₂,t₂,rfl,F₂,H₂,S₂⟩
 exact⟨.next,_,hp₁,ρ₁,h₂,t₂,rfl,q₁,F₂,H₂,S₁.toS.trans S₂,trivial⟩
def sExpr(a:XE):XS:=fun vs Q=>a vs fun z hp=>Q .next vs hp
theorem Ap{e:Expr}{pos:Pos}{a:XE}(ha:SoundE K r env look e a)(hi:interactive env=false)(hs:swapsWith e none pos.line env=pure false):SoundS K r env look (.Expr e pos) (sExpr a):=by
 intro A ok vs Q hp ρ s E q F H
 refine wpAny_Expr_any (ha.then ok q F H ?_) hi hs
 intro va hp₁ ρ₁ h₁ t₁ ra q₁ H₁ S₁ r₁ F₁
 exact⟨.next,vs,hp₁,ρ₁,h₁,t₁,rfl,q₁,F₁,H₁,S₁.toS,trivial⟩
def sRet(a:XE):XS:=fun vs Q=>a vs fun v hp=>Q (.ret v) vs hp
theorem Ag{e:Expr}{pos:Pos}{a:XE}(ha:SoundE K r env look e a):SoundS K r env look (.Return (some e) pos) (sRet a):=by
 intro A ok vs Q hp ρ s E q F H
 refine wpAny_Return_some (ha.then ok q F H ?_)
 intro va hp₁ ρ₁ h₁ t₁ ra q₁ H₁ S₁ r₁ F₁
 exact⟨.ret va,vs,hp₁,ρ₁,h₁,t₁,rfl,q₁,F₁,H₁,S₁.toS,r₁⟩
def sCont:XS:=fun vs Q=>Q .cont vs
theorem Mv{pos:Pos}:SoundS K r env look (.Continue pos) sCont:=fun A ok vs Q hp ρ s E q F H=>by
 show wpAny _ A (do standAt pos;pure Flow.cont) _ E s
 exact wpAny_bind (wpAny_standAt (wpAny_pure ⟨.cont,vs,hp,ρ,s.heap,s.toks,rfl,q,F,H,StepS.refl ..,trivial⟩))
def sIf(t:XB)(a b:XS):XS:=fun vs Q=>t vs fun x hp=>match x with | true=>a vs Q hp | false=>b vs Q hp
theorem Ar{test:Expr}{body orelse:List Stmt}{pos:Pos}{t:XB}{a b:XS}(ht:SoundB K r env look test t)(ha:SoundSs K r env look body a)(hb:SoundSs K r env look orelse b) :
  SoundS K r env look (.If test body orelse pos) (sIf t a b):=by
 intro A ok vs Q hp ρ s E q F H
 refine wpAny_If (ht.then ok q F H ?_)
 intro c hp₁ ρ₁ h₁ t₁ q₁ H₁ S₁ F₁
 cases c with
 | true=>exact wpAny_mono (ha A ok vs Q hp₁ ρ₁ { s with heap:=h₁,toks:=t₁ } E q₁ F₁ H₁) (fun rv s' p=>PostS.after S₁.toS p) (fun z z x=>x)
 | false=>exact wpAny_mono (hb A ok vs Q hp₁ ρ₁ { s with heap:=h₁,toks:=t₁ } E q₁ F₁ H₁) (fun rv s' p=>PostS.after S₁.toS p) (fun z z x=>x)
end
abbrev XT:=V→List (Option V)→(List (Option V)→List O→Prop)→List O→Prop
inductive PostT(K:KX)(env:Env)(look:Str→Option Nat)(ρ:Rho)(s:Shared)(Q:List (Option V)→List O→Prop)(s':Shared):Prop
 | mk (vs':List (Option V)) (hp':List O) (ρ':Rho) (h':Heap) (t:Nat) (e:s'={ s with heap:=h',toks:=t }) (q:Q vs' hp') (F:FRel K env look vs' ρ' h') (H:HRel K ρ' hp' h') (S:StepS K env ρ s.heap ρ' h')
def SoundT(K:KX)(r:Nat)(env:Env)(look:Str→Option Nat)(t:Expr)(p:XT):Prop :=
 ∀ A,OkA r A→∀ v vs Q hp ρ s E rv,p v vs Q hp→FRel K env look vs ρ s.heap→HRel K ρ hp s.heap→VR ρ s.heap v rv→wpAny (model K.prog K.w) A (assign t env rv) (fun z=>PostT K env look ρ s Q) E s
section
variable{K:KX}{r:Nat}{env:Env}{look:Str→Option Nat}
def tName(k:Nat):XT:=fun v vs Q=>Q (vs.set k (some v))
theorem Al{x:Str}{k:Nat}{pos:Pos}(hk:env.kindOf x=some .local∨env.kindOf x=some .cell)(hl:look x=some k):SoundT K r env look (.Name x pos) (tName k):=by
 intro A ok v vs Q hp ρ s E rv q F H hv
 refine wpAny_assign_Name (wpAny_mono (AV hk hl F H hv) ?_ (fun z z x=>x))
 rintro _ s' ⟨h₂,t₂,rfl,F₂,H₂,S₂⟩
 exact⟨_,hp,ρ,h₂,t₂,rfl,q,F₂,H₂,S₂⟩
inductive DrawW(K:KX)(ρ:Rho)(hp:List O)(it:Addr)(g:G)(xs ys:List PyData)(s:Shared)(l:List Value)(s':Shared):Prop
 | mk (h':Heap) (t:Tok):s'={ s with heap:=h',toks:=t }→DRs h' (mu ρ) l xs→IterAt ρ h' it g ys→HRel K ρ hp h'→Heap.SameBut it s.heap h'→DrawW K ρ hp it g xs ys s l s'
inductive UnpW(K:KX)(ρ:Rho)(hp:List O)(xs:List PyData)(s:Shared)(l:List Value)(s':Shared):Prop
 | mk (h':Heap) (t:Tok):s'={ s with heap:=h',toks:=t }→DRs h' (mu ρ) l xs→HRel K ρ hp h'→Step K ρ s.heap ρ h'→UnpW K ρ hp xs s l s'
theorem Gg{A:Around}{ρ:Rho}{hp:List O}{it:Addr}{g:G}(hn:K.New it)(ho:Off ρ it)(hg:gOk g hp):∀ (xs:List PyData) (ys:List PyData) (s:Shared) (E:Value→Shared→Prop),
  IterAt ρ s.heap it g (xs++ys)→HRel K ρ hp s.heap →
  wpAny (model K.prog K.w) A (draw (.ref it) xs.length) (DrawW K ρ hp it g xs ys s) E s
 | [],ys,s,E,I,H=>wpAny_pure ⟨s.heap,s.toks,rfl,.nil,I,H,Heap.SameBut.refl ..⟩
 | x::xs,ys,s,E,I,H=>by
  show wpAny _ A (do match ← pyNext (.ref it) with
   | none=>pure []
   | some v=>return v::(← holding [v] (draw (.ref it) xs.length))) _ E s
  refine wpAny_bind (wpAny_mono (Dr I H hg hn ho) ?_ (fun z z x=>x))
  rintro _ s' ⟨rv,h',t,rfl,rfl,d,I',H',hs⟩
  refine wpAny_bind (wpAny_holding (wpAny_mono (Gg hn ho hg xs ys { s with heap:=h',toks:=t } E I' H') ?_ (fun z z x=>x)))
  rintro l s'' ⟨h'',t'',rfl,d',I'',H'',hs'⟩
  have nonseq:∀ a o vs n,h'.get? a=some o→o.data = .seq vs n→a ∉ mu ρ→h''.get? a=some o∧a ∉ mu ρ:=by
   intro a o vs n e hd hm
   refine⟨(hs'.2 a ?_).trans e,hm⟩
   rintro rfl
   obtain⟨o',fs,e',hd',_⟩:=I'.dom
   rw[e] at e';cases e';rw[hd] at hd';cases hd'
  exact wpAny_pure ⟨h'',t'',rfl,.cons (d.mono nonseq) d',I'',H'',hs.trans hs'⟩
theorem Ii{A:Around}{s:Shared}{ρ:Rho}{hp:List O}{v:V}{rv:Value}{E:Value→Shared→Prop}{k:G→List PyData→Prop}{Q:Bool→Shared→Prop}(q:iterV v hp k)(hv:VR ρ s.heap v rv)(H:HRel K ρ hp s.heap)(hq:Q false s) :
  wpAny (model K.prog K.w) A (notIterableAtAll rv) Q E s:=by
 have key:∀ {T id:String},s.TypeIs rv T→typeLookup (.type T) "__iter__" = pure (some (.builtin id))→wpAny (model K.prog K.w) A (notIterableAtAll rv) Q E s:=by
  intro T id hT hl
  unfold notIterableAtAll
  exact wpAny_bind (wpAny_specialOf hT hl (wpAny_pure hq))
 cases v with
 | d y=>cases y with
  | list=>cases hv with | list h1 _ _=>exact key ⟨_,h1,rfl⟩ slot_list_iter.lookup
  | tuple=>cases hv with | tuple h1 _ _=>exact key ⟨_,h1,rfl⟩ PySem.F.slot_tuple_iter.lookup
  | str=>cases hv;exact key (typeIs_str _ _ _) PySem.F.slot_str_iter.lookup
  | _=>exact q.elim
 | rng=>obtain⟨a,t,u,w,rfl,e,_⟩:=hv;exact key ⟨_,e,rfl⟩ PySem.F.slot_range_iter.lookup
 | r i =>
  obtain⟨p,ep,rfl⟩:=hv
  obtain⟨l,e,q⟩:=Cl q
  obtain⟨ha,vs,n,hL,_⟩:=H.at e ep
  exact key ⟨_,ha ▸ hL,rfl⟩ slot_list_iter.lookup
 | g=>exact q.elim
theorem StepS.skip{ρ ρ':Rho}{h h₁ h₂:Heap}{it:Addr}(S:StepS K env ρ h ρ' h₁)(hi:h.get? it=none)(hs:Heap.ExtBut it h₁ h₂):StepS K env ρ h ρ' h₂ :=
 ⟨S.pre,S.new,fun b o e a c d=>hs b o (AP hi e) (S.keep b o e a c d),fun b o e=>let ⟨o',e'⟩:=S.dom b o e;⟨o',hs b o' (AP hi e) e'⟩⟩
theorem Step.skip{ρ ρ':Rho}{h h₁ h₂:Heap}{it:Addr}(S:Step K ρ h ρ' h₁)(hi:h.get? it=none)(hs:Heap.ExtBut it h₁ h₂):Step K ρ h ρ' h₂ :=
 ⟨S.pre,S.new,fun b o e a c=>hs b o (AP hi e) (S.keep b o e a c),fun b o e=>let ⟨o',e'⟩:=S.dom b o e;⟨o',hs b o' (AP hi e) e'⟩⟩
theorem DRs.skip{ρ:Rho}{hp:List O}{h h':Heap}{it:Addr}{l:List Value}{xs:List PyData}(d:DRs h (mu ρ) l xs)(hs:Heap.ExtBut it h h')(hd:∀ o,h.get? it=some o→∀ vs n,o.data≠.seq vs n):DRs h' (mu ρ) l xs :=
 d.mono fun a o vs n e q hm=>⟨hs a o (by rintro rfl;exact hd o e vs n q) e,hm⟩
theorem DJ{A:Around}{s:Shared}{ρ:Rho}{hp:List O}{v:V}{rv:Value}{E:Value→Shared→Prop}{xs:List PyData}(hh:A.handled=none)(q:iterV v hp fun g ys=>ys=xs)(hv:VR ρ s.heap v rv)(H:HRel K ρ hp s.heap) :
  wpAny (model K.prog K.w) A (unpackItems rv xs.length none) (UnpW K ρ hp xs s) E s:=by
 unfold unpackItems
 refine wpAny_bind (Ii q hv H ?_)
 rw[if_neg (by simp)]
 refine wpAny_bind (wpAny_holding (wpAny_mono (CT q hv H) ?_ (fun z z x=>x)))
 rintro _ s' ⟨it,g,ys,h₁,rfl,rfl,rfl,hg,I,hi,hk⟩
 have H₁:HRel K ρ hp h₁:=H.grow hk
 have S₁:Step K ρ s.heap ρ h₁:=Step.grow hk
 have hn:=H.fresh hi
 have ho:=H.off hi
 refine wpAny_bind (wpAny_holding (wpAny_mono (Gg hn ho hg ys [] { s with heap:=h₁ } E (by simpa using I) H₁) ?_ (fun z z x=>x)))
 rintro l s'' ⟨h₂,t₂,rfl,d,I₂,H₂,hs₂⟩
 show wpAny _ A (if l.length<ys.length then _ else _) _ E _
 rw[if_neg (by rw[d.length];omega)]
 refine wpAny_bind (wpAny_holding (wpAny_mono (EU (s:={ s with heap:=h₂,toks:=t₂ }) hh I₂ H₂ hg hn ho) ?_ (fun z z x=>x)))
 rintro _ s₃ ⟨h₃,rfl,rfl,H₃,hs₃⟩
 rw[if_neg (by simp)]
 have nonseq:∀ o,h₂.get? it=some o→∀ vs n,o.data≠.seq vs n:=by
  obtain⟨o,fs,e,hd,_⟩:=I₂.dom
  intro o' e' vs n q
  rw[e] at e';cases e';rw[hd] at q;cases q
 exact wpAny_pure ⟨h₃,t₂,rfl,d.skip (hp:=hp) hs₃ nonseq,H₃,(S₁.skip hi hs₂.extBut).skip hi hs₃⟩
abbrev XTs:=List V→List (Option V)→(List (Option V)→List O→Prop)→List O→Prop
def SoundTs(K:KX)(r:Nat)(env:Env)(look:Str→Option Nat)(ts:List Expr)(p:XTs):Prop :=
 ((assignEach ts env).findIdx? (·.1)=none∧(assignEach ts env).length=ts.length)∧∀ A,OkA r A→∀ ls vs Q hp ρ s E rvs,p ls vs Q hp→FRel K env look vs ρ s.heap→HRel K ρ hp s.heap→VRs ρ s.heap ls rvs →
  wpAny (model K.prog K.w) A (assignInOrder ((assignEach ts env).map (·.2)) rvs) (fun z=>PostT K env look ρ s Q) E s
def tsNil:XTs:=fun ls vs Q hp=>match ls with | []=>Q vs hp | _=>False
def tsCons(a:XT)(b:XTs):XTs:=fun ls vs Q hp=>match ls with | v::l=>a v vs (fun vs'=>b l vs' Q) hp | []=>False
theorem FH:SoundTs K r env look [] tsNil:=by
 refine⟨⟨rfl,rfl⟩,?_⟩
 intro A ok ls vs Q hp ρ s E rvs q F H hv
 cases ls with
 | nil=>exact wpAny_pure ⟨vs,hp,ρ,s.heap,s.toks,rfl,q,F,H,StepS.refl ..⟩
 | cons v l=>exact q.elim
theorem VRs.stepS{vs:List (Option V)}{ρ ρ':Rho}{hp:List O}{h h':Heap}(S:StepS K env ρ h ρ' h')(F:FRel K env look vs ρ h)(H:HRel K ρ hp h){l:List V}{xs:List Value}(d:VRs ρ h l xs):VRs ρ' h' l xs:=by
 induction l generalizing xs with
 | nil=>cases d;exact .nil
 | cons v l ih=>cases d with | cons a b=>exact .cons (a.stepS S F H) (ih b)
set_option tactic.hygienic true in
theorem Bz{t:Expr}{ts:List Expr}{a:XT}{b:XTs}(ha:SoundT K r env look t a)(hb:SoundTs K r env look ts b)(he:assignEach (t::ts) env=(false,assign t env)::assignEach ts env):SoundTs K r env look (t::ts) (tsCons a b):=by
 refine⟨⟨by rw[he,List.findIdx?_cons];simp[hb.1.1],by rw[he];simp[hb.1.2]⟩,?_⟩
 intro A ok ls vs Q hp ρ s E rvs q F H hv
 cases ls with
 | nil=>exact q.elim
 | cons v l =>
  cases hv with
  | cons d ds =>
   rename_i x xs
   rw[he]
   show wpAny _ A (do holding xs (assign t env x);assignInOrder ((assignEach ts env).map (·.2)) xs) _ E s
   refine wpAny_bind (wpAny_holding (wpAny_mono (ha A ok v vs _ hp ρ s E x q F H d) ?_ (fun z z x=>x)))
   rintro _ s' ⟨vs',hp',ρ',h',t',rfl,q',F',H',S'⟩
   refine wpAny_mono (hb.2 A ok l vs' Q hp' ρ' { s with heap:=h',toks:=t' } E xs q' F' H' (ds.stepS S' F H)) ?_ (fun z z x=>x)
   rintro _ s'' ⟨vs'',hp'',ρ'',h'',t'',rfl,q'',F'',H'',S''⟩
   exact⟨vs'',hp'',ρ'',h'',t'',rfl,q'',F'',H'',S'.trans S''⟩
theorem DRs.vrs{ρ:Rho}{h:Heap}:∀ {xs:List PyData} {l:List Value},DRs h (mu ρ) l xs→VRs ρ h (xs.map .d) l
 | [],_,d=>by cases d;exact .nil
 | x::xs,_,d=>by cases d with | cons a b=>exact .cons a (DRs.vrs b)
def tTuple(n:Nat)(b:XTs):XT:=fun v vs Q hp=>iterV v hp fun z xs=>xs.length=n∧b (xs.map .d) vs Q hp
set_option tactic.hygienic true in
theorem K5{v:V}{hp:List O}{k:G→List PyData→Prop}(q:iterV v hp k):∃ xs,(∃ g,k g xs)∧iterV v hp fun z ys=>ys=xs:=by
 cases v with
 | d x =>
  cases x with
  | list l=>exact⟨l,⟨_,q⟩,rfl⟩
  | tuple l=>exact⟨l,⟨_,q⟩,rfl⟩
  | str x=>exact⟨_,⟨_,q⟩,rfl⟩
  | _=>exact q.elim
 | r i =>
  unfold iterV at q ⊢
  dsimp only at q ⊢
  generalize hp[i]?=o at q ⊢
  cases o with
  | none=>exact q.elim
  | some o =>
   cases o with
   | lst l=>exact⟨l,⟨_,q⟩,rfl⟩
   | _=>exact q.elim
 | rng a b c=>exact⟨_,⟨_,q.2⟩,q.1,rfl⟩
 | g v=>exact q.elim
theorem FG{A:Around}{ts:List Expr}{b:XTs}{v:V}{vs:List (Option V)}{Q:List (Option V)→List O→Prop}{hp:List O}{ρ:Rho}{s:Shared}{E:Value→Shared→Prop}{rv:Value}(ok:OkA r A)(hb:SoundTs K r env look ts b)(q:tTuple ts.length b v vs Q hp)
  (F:FRel K env look vs ρ s.heap) (H:HRel K ρ hp s.heap) (hv:VR ρ s.heap v rv):wpAny (model K.prog K.w) A (unpack rv (assignEach ts env)) (fun z=>PostT K env look ρ s Q) E s:=by
 obtain⟨xs,⟨g,hn,q⟩,qi⟩:=K5 q
 unfold unpack
 rw[hb.1.1,hb.1.2,← hn]
 refine wpAny_bind (wpAny_holding (wpAny_mono (DJ ok.hh qi hv H) ?_ (fun z z x=>x)))
 rintro l s' ⟨h',t',rfl,d,H',S'⟩
 refine wpAny_mono (hb.2 A ok _ vs Q hp ρ { s with heap:=h',toks:=t' } E l q (F.step H S') H' d.vrs) ?_ (fun z z x=>x)
 rintro _ s'' ⟨vs'',hp'',ρ'',h'',t'',rfl,q'',F'',H'',S''⟩
 exact⟨vs'',hp'',ρ'',h'',t'',rfl,q'',F'',H'',S'.toS.trans S''⟩
theorem E6{ts:List Expr}{k:Nat}{pos:Pos}{b:XTs}(hb:SoundTs K r env look ts b):SoundT K r env look (.Tuple ts k pos) (tTuple ts.length b):=by
 intro A ok v vs Q hp ρ s E rv q F H hv
 show wpAny _ A (do standAt pos;unpack rv (assignEach ts env)) _ E s
 exact wpAny_bind (wpAny_standAt (FG ok hb q F H hv))
theorem VR.skip{ρ:Rho}{h h':Heap}{it:Addr}{g:G}{xs:List PyData}(I:IterAt ρ h it g xs)(hs:Heap.ExtBut it h h'){w:V}{rw':Value}(hw:VR ρ h w rw'):VR ρ h' w rw':=by
 obtain⟨o,fs,e,hd,T,hc,_,hr⟩:=I.dom
 cases w with
 | d x=>exact DR.mono (fun a o' vs n e' q hm=>⟨hs a o' (by rintro rfl;rw[e] at e';cases e';rw[hd] at q;cases q) e',hm⟩) hw
 | r i=>exact hw
 | rng a b c =>
  obtain⟨qq,t,u,w,rfl,e1,hm⟩:=hw
  refine⟨qq,t,u,w,rfl,hs _ _ ?_ e1,hm⟩
  rintro rfl
  rw[e] at e1;cases e1
  simp only[Value.type.injEq] at hc
  exact hr hc.symm
 | g v=>exact hw
theorem FRel.skip{vs:List (Option V)}{ρ:Rho}{h h':Heap}{it:Addr}{g:G}{xs:List PyData}(F:FRel K env look vs ρ h)(I:IterAt ρ h it g xs)(hs:Heap.ExtBut it h h'):FRel K env look vs ρ h':=by
 refine viaP fun y zf=>?_
 obtain⟨o,fs,e,hd,_⟩:=I.dom
 have hne:∀ b ob,h.get? b=some ob→(∀ fs,ob.data≠.fields fs)→h'.get? b=some ob:=fun b ob eb hq=>hs b ob (by rintro rfl;rw[e] at eb;cases eb;exact hq _ hd) eb
 obtain⟨m,⟨o',es,ep,e',dd,rr⟩,f⟩:=F.ns
 refine zf ?_
 refine⟨F.kd,F.gl,F.bi,F.lb,F.lo,⟨m,⟨o',es,ep,hne _ _ e' (fun y z=>by rw[dd] at z;cases z),dd,rr⟩,fun x k v a b c=>let ⟨rv,p,q⟩:=f x k v a b c;⟨rv,p,q.skip I hs⟩⟩,?_,F.ci,F.ij⟩
 intro x hx
 obtain⟨c,o',ov,a1,a2,a3,a4,a5,a6⟩:=F.cl x hx
 exact⟨c,o',ov,a1,a2,a3,hne _ _ a4 (fun y z=>by rw[a5] at z;cases z),a5,fun k v b1 b2=>let ⟨rv,p,q⟩:=a6 k v b1 b2;⟨rv,p,q.skip I hs⟩⟩
theorem Off.stepS{ρ ρ':Rho}{h h':Heap}(S:StepS K env ρ h ρ' h'){a:Addr}{o:Obj}(ha:h.get? a=some o)(x:Off ρ a):Off ρ' a:=fun p hp=>by
 rcases S.new p hp with q | q
 ·exact x p q
 ·exact⟨AP q.1 ha,fun hf=>by rw[q.2 a hf] at ha;cases ha⟩
noncomputable def forL(g:G)(tgt:XT)(body:XS)(Q:QS):List PyData→List (Option V)→List O→Prop
 | [],vs,hp=>gOk g hp∧Q .next vs hp
 | x::xs,vs,hp=>gOk g hp∧tgt (.d x) vs (fun vs' hp'=>body vs' (fun fl vs'' hp''=>match fl with
  | .next=>forL g tgt body Q xs vs'' hp''
  | .cont=>forL g tgt body Q xs vs'' hp''
  | .brk=>Q .next vs'' hp''
  | .ret v=>Q (.ret v) vs'' hp'') hp') hp
def sFor(tgt:XT)(it:XE)(body:XS):XS:=fun vs Q=>it vs fun v hp=>iterV v hp fun g xs=>forL g tgt body Q xs vs hp
inductive TurnI(K:KX)(env en2:Env)(look:Str→Option Nat)(s:Shared)(ρ₁:Rho)(h₁:Heap)(I:Addr)(g:G)(W:List PyData→List (Option V)→List O→Prop)(X:Rho→Prop)(n:Nat)(s':Shared):Prop
 | mk (xs:List PyData) (vs':List (Option V)) (hp':List O) (ρ':Rho) (h':Heap) (t:Nat) (en:n=xs.length) (e:s'={ s with heap:=h',toks:=t }) (q:W xs vs' hp') (F:FRel K env look vs' ρ' h') (H:HRel K ρ' hp' h')
  (Ia:IterAt ρ' h' I g xs) (ho:Off ρ' I) (S:StepS K en2 ρ₁ h₁ ρ' h') (x:X ρ')
inductive TurnW(K:KX)(env:Env)(look:Str→Option Nat)(s:Shared)(ρ₁:Rho)(h₁:Heap)(W:List (Option V)→List O→Prop)(s':Shared):Prop
 | mk (vs':List (Option V)) (hp':List O) (ρ':Rho) (h':Heap) (t:Nat) (e:s'={ s with heap:=h',toks:=t }) (q:W vs' hp') (F:FRel K env look vs' ρ' h') (H:HRel K ρ' hp' h') (S:StepS K env ρ₁ h₁ ρ' h')
theorem DL{target iter:Expr}{body:List Stmt}{pos:Pos}{tgt:XT}{it:XE}{b:XS}(ht:SoundT K r env look target tgt)(hi:SoundE K r env look iter it)(hb:SoundSs K r env look body b)
  (hs:∀ x,foldedSetIterable iter env x=pure x):SoundS K r env look (.For target iter body [] pos) (sFor tgt it b):=by
 intro A ok vs Q hp ρ s E q F H
 refine wpAny_For (hi.then ok q F H ?_) hs
 intro v hp₁ ρ₁ h₁ t₁ rv q₁ H₁ S₁ r₁ F₁
 refine wpAny_mono (CT (s:={ s with heap:=h₁,toks:=t₁ }) q₁ r₁ H₁) ?_ (fun z z x=>x)
 rintro _ s' ⟨I,g,xs,h₂,rfl,rfl,q₂,hg,Ia,hI,hk⟩
 have H₂:HRel K ρ₁ hp₁ h₂:=H₁.grow hk
 have S₂:Step K ρ₁ h₁ ρ₁ h₂:=Step.grow hk
 have hn:=H₁.fresh hI
 refine codeAny_forLoop_any (TurnI K env env look s ρ₁ h₁ I g (forL g tgt b Q) (fun z=>True)) ?_ xs.length ⟨xs,vs,hp₁,ρ₁,h₂,t₁,rfl,rfl,q₂,F₁.step H₁ S₂,H₂,Ia,H₁.off hI,S₂.toS,trivial⟩
 rintro n s' ⟨xs,vs',hp',ρ',h',t',rfl,rfl,q',F',H',Ia',ho,S',_⟩
 cases xs with
 | nil =>
  obtain⟨hg',q'⟩:=q'
  refine wpAny_mono (EU (s:={ s with heap:=h',toks:=t' }) ok.hh Ia' H' hg' hn ho) ?_ (fun z z x=>x)
  rintro _ s'' ⟨h'',rfl,rfl,H'',hs''⟩
  exact wpAny_execs_nil ⟨.next,vs',hp',ρ',h'',t',rfl,q',F'.skip Ia' hs'',H'',S₁.toS.trans (S'.skip hI hs''),trivial⟩
 | cons x xs =>
  obtain⟨hg',q'⟩:=q'
  refine wpAny_mono (Dr (s:={ s with heap:=h',toks:=t' }) Ia' H' hg' hn ho) ?_ (fun z z x=>x)
  rintro _ s'' ⟨rx,h'',t'',rfl,rfl,dx,Ia'',H'',hs''⟩
  refine ET (s:={ s with heap:=h'',toks:=t'' }) Ia'' ?_
  have F'':=F'.skip Ia' hs''.extBut
  have S'':=S'.skip hI hs''.extBut
  refine wpAny_mono (ht A ok (.d x) vs' _ hp' ρ' { s with heap:=h'',toks:=t'' } _ rx q' F'' H'' dx) ?_ (fun z z x=>x)
  intro _ s₃ zx
  refine viaP fun z zf=>?_
  obtain⟨vs₃,hp₃,ρ₃,h₃,t₃,rfl,q₃,F₃,H₃,S₃⟩:=zx
  have hI'':∃ o,h''.get? I=some o:=let ⟨o,_,e,_⟩:=Ia''.dom;⟨o,e⟩
  obtain⟨oI,eI⟩:=hI''
  have Ia₃:=Ia''.stepS S₃ F'' H'' ho.mu (H''.newTb hn)
  have ho₃:=ho.stepS S₃ eI
  obtain⟨oI₃,_,eI₃,_⟩:=Ia₃.dom
  refine zf ?_
  refine wpAny_mono (hb A ok vs₃ _ hp₃ ρ₃ { s with heap:=h₃,toks:=t₃ } _ q₃ F₃ H₃) ?_ (fun z z x=>x)
  rintro fl s₄ ⟨af,vs₄,hp₄,ρ₄,h₄,t₄,rfl,q₄,F₄,H₄,S₄,fr⟩
  have S₄':StepS K env ρ₁ h₁ ρ₄ h₄:=(S''.trans S₃).trans S₄
  have more:forL g tgt b Q xs vs₄ hp₄→∃ m,m<(x::xs).length∧TurnI K env env look s ρ₁ h₁ I g (forL g tgt b Q) (fun z=>True) m { s with heap:=h₄,toks:=t₄ }:=fun qq =>
   ⟨xs.length,Nat.lt_succ_self _,xs,vs₄,hp₄,ρ₄,h₄,t₄,rfl,rfl,qq,F₄,H₄,Ia₃.stepS S₄ F₃ H₃ ho₃.mu (H₃.newTb hn),ho₃.stepS S₄ eI₃,S₄',trivial⟩
  cases af<;>cases fl<;>first | exact fr.elim | skip
  ·exact more q₄
  ·exact⟨.next,vs₄,hp₄,ρ₄,h₄,t₄,rfl,q₄,F₄,H₄,S₁.toS.trans S₄',trivial⟩
  ·exact more q₄
  ·exact⟨.ret _,vs₄,hp₄,ρ₄,h₄,t₄,rfl,q₄,F₄,H₄,S₁.toS.trans S₄',fr⟩
noncomputable def whileN(t:XB)(body:XS)(Q:QS):Nat→List (Option V)→List O→Prop
 | 0,_,_=>False
 | n+1,vs,hp=>t vs (fun b hp'=>match b with
  | false=>Q .next vs hp'
  | true=>body vs (fun fl vs'' hp''=>match fl with
   | .next=>whileN t body Q n vs'' hp''
   | .cont=>whileN t body Q n vs'' hp''
   | .brk=>Q .next vs'' hp''
   | .ret v=>Q (.ret v) vs'' hp'') hp') hp
def sWhile(t:XB)(body:XS):XS:=fun vs Q hp=>∃ n,whileN t body Q n vs hp
theorem Ck{test:Expr}{body:List Stmt}{pos:Pos}{t:XB}{b:XS}(ht:SoundB K r env look test t)(hb:SoundSs K r env look body b):SoundS K r env look (.While test body [] pos) (sWhile t b):=by
 intro A ok vs Q hp ρ s E q F H
 obtain⟨n,q⟩:=q
 refine wpAny_While (codeAny_whileLoop (fun n=>TurnW K env look s ρ s.heap (whileN t b Q n)) ?_ n
  ⟨vs,hp,ρ,s.heap,s.toks,rfl,q,F,H,StepS.refl ..⟩)
 rintro n s' ⟨vs',hp',ρ',h',t',rfl,q',F',H',S'⟩
 cases n with
 | zero=>exact q'.elim
 | succ n =>
  refine ht.then ok (s:={ s with heap:=h',toks:=t' }) q' F' H' ?_
  intro c hp₁ ρ₁ h₁ t₁ q₁ H₁ S₁ F₁
  cases c with
  | false=>exact wpAny_execs_nil ⟨.next,vs',hp₁,ρ₁,h₁,t₁,rfl,q₁,F₁,H₁,S'.trans S₁.toS,trivial⟩
  | true =>
   refine wpAny_mono (hb A ok vs' _ hp₁ ρ₁ { s with heap:=h₁,toks:=t₁ } _ q₁ F₁ H₁) ?_ (fun z z x=>x)
   rintro fl s₄ ⟨af,vs₄,hp₄,ρ₄,h₄,t₄,rfl,q₄,F₄,H₄,S₄,fr⟩
   have S₄':=(S'.trans S₁.toS).trans S₄
   cases af<;>cases fl<;>first | exact fr.elim | skip
   ·exact⟨n,Nat.lt_succ_self n,vs₄,hp₄,ρ₄,h₄,t₄,rfl,q₄,F₄,H₄,S₄'⟩
   ·exact⟨.next,vs₄,hp₄,ρ₄,h₄,t₄,rfl,q₄,F₄,H₄,S₄',trivial⟩
   ·exact⟨n,Nat.lt_succ_self n,vs₄,hp₄,ρ₄,h₄,t₄,rfl,q₄,F₄,H₄,S₄'⟩
   ·exact⟨.ret _,vs₄,hp₄,ρ₄,h₄,t₄,rfl,q₄,F₄,H₄,S₄',fr⟩
end
section
variable{K:KX}{r:Nat}{env:Env}{look:Str→Option Nat}
theorem Fq{A:Around}{s:Shared}{E:Value→Shared→Prop}{Q:Value→Shared→Prop}{l b:Addr}{xs ys:Array Value}{n n2:Nat}(hl:IsL s.heap l xs n)(hb:IsL s.heap b ys n2)
  (hz:xs.size+ys.size≤sizeLine) (h:Q (.ref l) { s with heap:=s.heap.update l (Obj.mapSeq fun x=>x++ys) }) :
  wpAny (model K.prog K.w) A (inplaceOp .Add (.ref l) (.ref b)) Q E s:=by
 unfold inplaceOp
 refine wpAny_holding ?_
 have ha:s.TypeIs (.ref l) "list" := ⟨_,hl,rfl⟩
 have hb':s.TypeIs (.ref b) "list" := ⟨_,hb,rfl⟩
 have hfi:fillsInplaceSlot (.type "list") "add" (Operator.Add == .Add)=pure false:=by
  unfold fillsInplaceSlot
  show(typeLookup (.type "list") (dunderI "add") >>= fun fi=>pure (fi.isSome && !isSeqSlot fi))=pure false
  rw[PySem.F.slot_list_iadd.lookup]
  show(pure (_ && !isSeqSlot (some (.builtin "list.__iadd__"))):Sem Bool)=pure false
  rw[show isSeqSlot (some (.builtin "list.__iadd__"))=true from by decide +kernel]
  rfl
 have hsi:seqSlot? (.type "list") (dunderI "add")=pure (some (.builtin "list.__iadd__")):=PySem.seqSlot_of PySem.F.slot_list_iadd.lookup (by decide +kernel)
 refine wpAny_bind (wpAny_typeOf ha (wpAny_bind (wpAny_of_eq hfi ?_)))
 show wpAny _ A (if false=true then _ else _) Q E s
 rw[if_neg Bool.false_ne_true]
 refine wpAny_bind (wpAny_binaryOp1_none (nm := "add") ha hb' noFill_list_add ?_)
 refine wpAny_bind (wpAny_of_eq hsi ?_)
 refine wpAny_bind (wpAny_rule ?_)
 refine call_meets PySem.F.slot_list_iadd ha PySem.F.entry_list_iadd (PySem.F.args_list_iadd_2 _ _) (AutoSeq1.list___iadd___list_list_0 l xs n b ys n2 ?_ (Tt Lr hz) (Lb hz)) ⟨hl,hb,h⟩
 simp only[Bool.and_eq_true,Builtin.List.listTooLong,decide_eq_true_eq,not_and]
 intro _;lia
def opIAdd:Op2:=fun va vb Q hp=>match va,vb with
 | .d (.int a),.d (.int b)=>Q (.d (.int (a+b))) hp
 | .d (.str a),.d (.str b)=>a.length+b.length≤sizeLine∧Q (.d (.str (a++b))) hp
 | va,vb=>atL va hp fun i l1=>∃ l2,lget vb hp=some l2∧l1.length+l2.length≤sizeLine∧Q (.r i) (hp.set i (.lst (l1++l2)))
theorem B7:Sound2 K r (inplaceOp .Add) opIAdd:=by
 intro A ok ρ hp s va vb ra rb Q E q H ha hb
 obtain⟨i,j,rfl,rfl,q⟩ | ⟨i,j,rfl,rfl,q⟩ | q:=E7 q
 ·cases ha;cases hb
  exact PyProof.Rows.iadd_int (PostE.pure _ q H (.int ..))
 ·cases ha;cases hb
  exact PyProof.Rows.iadd_str (fun t' tk=>PostE.pure _ q.2 H (.str ..)) q.1
 ·obtain⟨i,l,p,vs,n,rfl,e,ep,rfl,hpa,hL,d,l2,e2,hz,q⟩:=Cu q H ha
  obtain⟨b,ys,n',rfl,h2,d2⟩:=Aj H hb e2
  have z1:=d.length
  have z2:=d2.length
  simp only[Array.length_toList] at z1 z2
  obtain⟨H',S'⟩:=CK (A:=A) (f:=fun xs=>xs++ys) (l':=l++l2) H e ep hL hpa (by rw[Array.toList_append];exact d.append d2)
  exact Fq hL h2 (by lia) ⟨_,_,ρ,_,s.toks,rfl,q,H',S',⟨p,ep,by rw[hpa]⟩⟩
def sAug(f:Op2)(k:Nat)(a:XE):XS:=fun vs Q hp=>match vs[k]? with
 | some (some old)=>a vs (fun v=>f old v fun w hp'=>Q .next (vs.set k (some w)) hp') hp
 | _=>False
set_option tactic.hygienic true in
theorem CJ{x:Str}{k:Nat}{pos' pos:Pos}{op:Operator}{value:Expr}{f:Op2}{a:XE}(hf:Sound2 K r (inplaceOp op) f)(ha:SoundE K r env look value a)(hk:env.kindOf x=some .local∨env.kindOf x=some .cell)(hl:look x=some k) :
  SoundS K r env look (.AugAssign (.Name x pos') op value pos) (sAug f k a):=by
 intro A ok vs Q hp ρ s E q F H
 unfold sAug at q
 obtain⟨old,e,q⟩:=Hb q
 refine wpAny_AugAssign_Name ?_
 have key:∀ ro,VR ρ s.heap old ro→wpAny (model K.prog K.w) A (eval value env) (fun v s₂=>wpAny (model K.prog K.w) A (inplaceOp op ro v) (fun w s₃=>wpAny (model K.prog K.w) A (storeName env x w) (fun z=>PostS K env look ρ s Q .next) E s₃) E s₂) E s:=by
  intro ro hro
  refine ha.then ok q F H ?_
  intro va hp₁ ρ₁ h₁ t₁ ra q₁ H₁ S₁ r₁ F₁
  refine wpAny_mono (hf A ok ρ₁ hp₁ { s with heap:=h₁,toks:=t₁ } old va ro ra _ E q₁ H₁ (hro.step S₁ H) r₁) ?_ (fun z z x=>x)
  rintro rw' s₂ ⟨w,hp₂,ρ₂,h₂,t₂,rfl,q₂,H₂,S₂,r₂⟩
  refine wpAny_mono (AV (s:={ s with heap:=h₂,toks:=t₂ }) hk hl (F₁.step H₁ S₂) H₂ r₂) ?_ (fun z z x=>x)
  rintro _ s' ⟨h₃,t₃,rfl,F₃,H₃,S₃⟩
  exact⟨.next,_,hp₂,ρ₂,h₃,t₃,rfl,q₂,F₃,H₃,(S₁.trans S₂).toS.trans S₃,trivial⟩
 rcases hk with hk' | hk'
 ·obtain⟨m,n,f⟩:=F.ns
  obtain⟨rv,e1,e2⟩:=f x k old hk' hl e
  exact wpAny_loadName_local F.kd hk' n e1 (key rv e2)
 ·obtain⟨c,o,ov,a1,a2,a3,a4,a5,a6⟩:=F.cl x (.inl hk')
  obtain⟨rv,rfl,e2⟩:=a6 k old hl e
  exact wpAny_loadName_cell F.kd hk' a1 ⟨o,a4,a5⟩ (key rv e2)
def putItem(vo vi:V)(x:PyData)(Q:List O→Prop)(hp:List O):Prop:=match vi with
 | .d (.int i)=>(-2 ^ 63≤i∧i<2 ^ 63)∧atL vo hp fun j l=>∃ k,seqIndex? i l.length=some k∧Q (hp.set j (.lst (l.set k x)))
 | _=>False
inductive PutW(K:KX)(ρ:Rho)(Q:List O→Prop)(s s':Shared):Prop
 | mk (hp':List O) (h':Heap):s'={ s with heap:=h' }→Q hp'→HRel K ρ hp' h'→Step K ρ s.heap ρ h'→PutW K ρ Q s s'
set_option tactic.hygienic true in
theorem GO{A:Around}{ρ:Rho}{hp:List O}{s:Shared}{vo vi:V}{x:PyData}{ro ri rx:Value}{Q:List O→Prop}{E:Value→Shared→Prop}(q:putItem vo vi x Q hp)(H:HRel K ρ hp s.heap)(ho:VR ρ s.heap vo ro)(hi:VR ρ s.heap vi ri)(hx:DR s.heap (mu ρ) rx x) :
  wpAny (model K.prog K.w) A (setItem ro ri rx) (fun y=>PutW K ρ Q s) E s:=by
 obtain⟨i,rfl,⟨hlo,hhi⟩,q⟩:=BZ q
 ·cases hi
  rename_i t
  refine viaP fun y zf=>?_
  obtain⟨j,l,p,vs,n,rfl,e,ep,rfl,hpa,hL,d,k,hk,q⟩:=Cu q H ho
  have z:=d.length
  simp only[Array.length_toList] at z
  obtain⟨hkl,p2,p3⟩:=CR hk
  obtain⟨H',S'⟩:=CK (A:=A) (f:=fun xs=>xs.setIfInBounds k rx) (l':=l.set k x) H e ep hL hpa (by simpa using d.set k hx)
  refine zf ?_
  unfold setItem
  refine wpAny_holding ?_
  have hT:s.TypeIs (.ref p.m) "list" := ⟨_,hL,rfl⟩
  refine wpAny_bind (wpAny_sequenceKey hT (by decide) ?_)
  refine wpAny_bind (wpAny_callSpecial?_slot (name:=Str.ofString "__setitem__") hT slot_list_setitem
   (wpAny_call_entry slot_list_setitem hT entry_list_setitem ?_ (args_list_setitem _ _ _)))
  show wpAny _ _ (Builtin.List.listSubscript? (.int i t) >>= _) _ _ s
  refine wpAny_bind (wpAny_listSubscript_int (by simp only[Builtin.List.listFitsIndex,Bool.and_eq_true,decide_eq_true_eq];lia) ?_)
  have hx':vs[k]?=some (vs[k]'(Tt hkl (Qr z))):=Array.getElem?_eq_getElem (Tt hkl (Qr z))
  have fin:wpAny (model K.prog K.w) A.in1 (setSeqItemAt p.m k rx) (fun y s'=>wpAny (model K.prog K.w) A.in1 (ret .none) (fun fin s'=>∃ v,fin = .done (.ret v)∧wpAny (model K.prog K.w) A (pure ()) (fun y=>PutW K ρ Q s) E s') E s') E s :=
   wpAny_setSeqItemAt hL rfl (wpAny_pure ⟨.none,rfl,wpAny_pure ⟨_,_,rfl,q,H',S'⟩⟩)
  rcases Int.lt_or_le i 0 with hneg | hpos
  ·obtain⟨m,rfl⟩:∃ m,i=Int.negSucc m:=Int.eq_negSucc_of_lt_zero hneg
   show wpAny _ _ ((Builtin.List.listItems (.ref p.m) >>= fun xs=>pure ((seqIndex? (Int.negSucc m) xs.size).bind fun j=>xs[j]?.map (j,·))) >>= _) _ _ s
   refine wpAny_bind (wpAny_bind (wpAny_listItems hL rfl (wpAny_pure ?_)))
   rw[z,hk]
   show wpAny _ _ (match Value.ref p.m,vs[k]?.map (k,·) with | .ref a,some (j,_)=>_ | _,_=>_) _ _ s
   rw[hx']
   exact wpAny_bind fin
  ·obtain⟨m,rfl⟩:=Int.eq_ofNat_of_zero_le hpos
   have:m=k:=by have:=p2 hpos;lia
   subst this
   show wpAny _ _ ((seqItemAt p.m m >>= fun r=>pure (r.map (m,·))) >>= _) _ _ s
   refine wpAny_bind (wpAny_bind (wpAny_seqItemAt hL rfl (wpAny_pure ?_)))
   rw[hx']
   exact wpAny_bind fin
def isD(v:V)(k:PyData→Prop):Prop:=match v with | .d x=>k x | _=>False
def sPut(o i a:XE):XS:=fun vs Q=>a vs fun v=>o vs fun vo=>i vs fun vi hp=>isD v fun x=>putItem vo vi x (fun hp'=>Q .next vs hp') hp
theorem M0{o i value:Expr}{pos' pos:Pos}{po pi a:XE}(ha:SoundE K r env look value a)(ho:SoundE K r env look o po)(hi:SoundE K r env look i pi)
  (hs:swapsWith value (some (.Subscript o i pos')) pos.line env=pure false):SoundS K r env look (.Assign [.Subscript o i pos'] value pos) (sPut po pi a):=by
 intro A ok vs Q hp ρ s E q F H
 refine wpAny_Assign_Subscript (ha.then ok q F H ?_) hs
 intro va hp₁ ρ₁ h₁ t₁ ra q₁ H₁ S₁ r₁ F₁
 refine ho.then ok (s:={ s with heap:=h₁,toks:=t₁ }) q₁ F₁ H₁ ?_
 intro vo hp₂ ρ₂ h₂ t₂ ro q₂ H₂ S₂ r₂ F₂
 refine hi.then ok (s:={ s with heap:=h₂,toks:=t₂ }) q₂ F₂ H₂ ?_
 intro vi hp₃ ρ₃ h₃ t₃ ri q₃ H₃ S₃ r₃ F₃
 have ra':=(r₁.step S₂ H₁).step S₃ H₂
 cases va with
 | d x =>
  refine wpAny_mono (GO (s:={ s with heap:=h₃,toks:=t₃ }) q₃ H₃ (r₂.step S₃ H₂) r₃ ra') ?_ (fun z z x=>x)
  rintro _ s' ⟨hp',h',rfl,q',H',S'⟩
  exact⟨.next,vs,hp',ρ₃,h',t₃,rfl,q',F₃.step H₃ S',H',(((S₁.trans S₂).trans S₃).trans S').toS,trivial⟩
 | _=>exact q₃.elim
end
noncomputable def lk(nm:List Str)(x:Str):Option Nat:=nm.findIdx? (· == x)
theorem Do{nm:List Str}{x:Str}{k:Nat}(h:lk nm x=some k):nm[k]?=some x:=by
 unfold lk at h
 obtain⟨hk,e,_⟩:=List.findIdx?_eq_some_iff_getElem.mp h
 rw[List.getElem?_eq_getElem hk,beq_iff_eq.mp e]
structure KG(K:KX)(mg mb:Str→Option Value):Prop where
 g:K.h0.Ns 3 mg
 g':(3:Addr)≠K.tb
 b:K.h0.Ns 0 mb
 b':(0:Addr)≠K.tb
 lim:K.h0.NoLimit
 lim':cStatics≠K.tb
theorem HRel.nsOf{K:KX}{ρ:Rho}{hp:List O}{h:Heap}(H:HRel K ρ hp h){a:Addr}{m:Str→Option Value}(n:K.h0.Ns a m)(ha:a≠K.tb):h.Ns a m :=
 let ⟨o,es,ep,e,q⟩:=n;⟨o,es,ep,H.keep _ _ e ha,q⟩
theorem HRel.limOf{K:KX}{ρ:Rho}{hp:List O}{h:Heap}(H:HRel K ρ hp h){mg mb:Str→Option Value}(G:KG K mg mb):h.NoLimit :=
 let ⟨mc,a,b⟩:=G.lim;⟨mc,H.nsOf a G.lim',b⟩
structure FnAt(K:KX)(a:Addr)(fd:FuncData)(body:List Stmt):Prop where
 ob:∃ o,K.h0.get? a=some o∧o.data = .func fd
 tb:a≠K.tb
 bd:fd.body = .stmts body
 code:∃ c o vs t,fd.code = .ref c∧K.h0.get? c=some o∧o.data = .fields vs∧vs[1]?=some (.str fd.qualname t)∧c≠K.tb
 clo:fd.closure=[]
 gl:fd.globals=3
 bi:fd.builtins=0
 co:fd.scope.isCoroutine=false
 gen:fd.scope.isGenerator=false
 kd:fd.scope.kind = .function
abbrev FT:=List V→(V→List O→Prop)→List O→Prop
def SoundF(K:KX)(r:Nat)(f:Value)(kn:List Str)(F:FT):Prop :=
 ∀ A,OkA r A→∀ ρ hp s vas ras ks Q,∀ E:Value→Shared→Prop,ks.length=kn.length→F vas Q hp→HRel K ρ hp s.heap→VRs ρ s.heap vas (ras++ks) →
  codeAny (model K.prog K.w) A (.call f ⟨ras,kn.zip ks⟩) (fun r s'=>match r with | .ok (.ret v)=>PostE K ρ s Q v s' | .ok _=>False | .error e=>E e s') s
theorem SoundF.call{K:KX}{r:Nat}{f:Value}{kn:List Str}{F:FT}(h:SoundF K r f kn F):∀ A,OkA r A→∀ ρ hp s vas ras ks Q E,ks.length=kn.length→F vas Q hp→HRel K ρ hp s.heap→VRs ρ s.heap vas (ras++ks) →
  wpAny (model K.prog K.w) A (call f ras (kn.zip ks)) (PostE K ρ s Q) E s:=fun A ok ρ hp s vas ras ks Q E hl q H R=>wpAny_call (h A ok ρ hp s vas ras ks Q E hl q H R)
abbrev BT:=List V→(List V→List O→Prop)→List O→Prop
inductive BindW(K:KX)(ρ:Rho)(ps:List Str)(Q:List V→List O→Prop)(s:Shared)(binds:List (Str×Value))(s':Shared):Prop
 | mk (vas':List V) (ras':List Value) (hp':List O) (ρ':Rho) (h':Heap) (t:Tok):s'={ s with heap:=h',toks:=t }→binds=ps.zip ras'→ras'.length=ps.length→Q vas' hp'→HRel K ρ' hp' h'→Step K ρ s.heap ρ' h'→VRs ρ' h' vas' ras'→BindW K ρ ps Q s binds s'
def SoundBind(K:KX)(fd:FuncData)(kn:List Str)(ps:List Str)(bd:BT):Prop :=
 ∀ A,A.handled=none→∀ ρ hp s vas ras ks Q E,ks.length=kn.length→bd vas Q hp→HRel K ρ hp s.heap→VRs ρ s.heap vas (ras++ks) →
  wpAny (model K.prog K.w) A (bindArgs fd ⟨ras,kn.zip ks⟩) (BindW K ρ ps Q s) E s
def bPlain(n:Nat):BT:=fun vas Q hp=>vas.length=n∧Q vas hp
theorem B6{K:KX}{fd:FuncData}{ps:List Str}(h:∀ ras:List Value,ras.length=ps.length→bindArgs fd ⟨ras,[]⟩=pure (ps.zip ras)):SoundBind K fd [] ps (bPlain ps.length):=by
 intro A hh ρ hp s vas ras ks Q E hk q H R
 cases ks with
 | cons _ _=>simp at hk
 | nil =>
  rw[List.append_nil] at R
  have hl:=R.length
  have e:ras.length=ps.length:=by rw[← hl];exact q.1
  rw[show([]:List Str).zip ([]:List Value)=[] from rfl,h ras e]
  exact wpAny_pure ⟨vas,ras,hp,ρ,s.heap,s.toks,rfl,rfl,e,q.2,H,Step.refl ..,R⟩
def fin(keep:Bool)(n:Nat)(Q:V→List O→Prop)(v:V)(hp':List O):Prop :=
 match keep with
 | true=>Q v hp'
 | false=>match v with
  | .d x=>Q (.d x) (hp'.take n)
  | .r i=>if i<n then Q (.r i) (hp'.take n) else match hp'[i]? with | some (.lst l)=>Q (.d (.list l)) (hp'.take n) | _=>False
  | .rng ..=>False
  | .g v=>Q (.g v) (hp'.take n)
set_option tactic.hygienic true in
theorem EF{K:KX}{keep:Bool}{ρ ρ':Rho}{hp hp':List O}{s:Shared}{h':Heap}{t:Nat}{Q:V→List O→Prop}{v:V}{rv:Value}
  (q:fin keep hp.length Q v hp') (H:HRel K ρ hp s.heap) (H':HRel K ρ' hp' h') (S:Step K ρ s.heap ρ' h') (r:VR ρ' h' v rv):PostE K ρ s Q rv { s with heap:=h',toks:=t }:=by
 cases keep with
 | true=>exact⟨v,hp',ρ',h',t,rfl,q,H',S,r⟩
 | false =>
  have hl:ρ.length≤hp'.length:=by rw[← H'.len];exact S.pre.length_le
  have C:=H'.cut S.pre hl
  rw[H.len] at C
  cases v with
  | d x=>exact⟨.d x,_,ρ,h',t,rfl,q,C,S.cut,DR.cut S.pre r⟩
  | r i =>
   obtain⟨p,e,rfl⟩:=r
   unfold fin at q
   simp only at q
   split at q
   ·rename_i hi
    refine⟨.r i,_,ρ,h',t,rfl,q,C,S.cut,⟨p,?_,rfl⟩⟩
    obtain⟨u,hu⟩:=S.pre
    rw[← hu,List.getElem?_append_left (by rw[H.len];exact hi)] at e
    exact e
   ·rename_i hi
    obtain⟨l,e',q⟩:=Cl q
    ·obtain⟨e1,vs,n,h1,h2⟩:=H'.ob i _ p e' e
     refine⟨.d (.list l),_,ρ,h',t,rfl,q,C,S.cut,?_⟩
     rw[e1]
     refine DR.list h1 ?_ (DRs.cut S.pre h2)
     intro hm
     obtain⟨u,hu⟩:=S.pre
     have hiρ:ρ.length≤i:=by rw[H.len];lia
     have nd:=H'.nd
     rw[← hu] at nd e
     simp only[mu,List.map_append] at nd hm
     have:=(List.nodup_append.mp nd).2.2 p.m hm p.m
     refine this ?_ rfl
     rw[List.getElem?_append_right hiρ] at e
     exact List.mem_map.mpr ⟨p,List.mem_of_getElem? e,rfl⟩
  | rng a b c=>exact q.elim
  | g v=>exact⟨.g v,_,ρ,h',t,rfl,q,C,S.cut,r⟩
theorem Iz{kindOf:Str→Option NameKind}:∀ {ps:List Str} {ras:List Value} {m:Str→Option Value} {k:Nat} {x:Str} {rv:Value},ps.Nodup→ps[k]?=some x→ras[k]?=some rv→kindOf x=some .local →
  bindL kindOf (ps.zip ras) m x=some rv:=by
 have skip:∀ {ps:List Str} {ras:List Value} {m:Str→Option Value} {x:Str},x ∉ ps→bindL kindOf (ps.zip ras) m x=m x:=by
  intro ps
  induction ps with
  | nil=>intros;rfl
  | cons p ps ih =>
   intro ras m x hx
   cases ras with
   | nil=>rfl
   | cons a ras =>
    dsimp only[List.zip_cons_cons,bindL]
    rw[ih (fun h=>hx (List.mem_cons_of_mem _ h))]
    split
    ·exact if_neg (fun h:x=p=>hx (by rw[h];exact List.mem_cons_self))
    ·rfl
 intro ps
 induction ps with
 | nil=>intro ras m k x rv _ e;simp at e
 | cons p ps ih =>
  intro ras m k x rv nd e e' hl
  cases ras with
  | nil=>simp at e'
  | cons a ras =>
   dsimp only[List.zip_cons_cons,bindL]
   obtain⟨n1,n2⟩:=List.nodup_cons.mp nd
   cases k with
   | zero =>
    simp at e e';subst e;subst e'
    rw[skip n1,if_pos hl,if_pos rfl]
   | succ k=>simp at e e';exact ih n2 e e' hl
theorem J0{kindOf:Str→Option NameKind}:∀ {ps:List Str} {ras:List Value} {m:Str→Option Value} {k:Nat} {x:Str} {rv:Value},ps.Nodup→ps[k]?=some x→ras[k]?=some rv→kindOf x≠some .local →
  bindC kindOf (ps.zip ras) m x=some rv:=by
 have skip:∀ {ps:List Str} {ras:List Value} {m:Str→Option Value} {x:Str},x ∉ ps→bindC kindOf (ps.zip ras) m x=m x:=by
  intro ps
  induction ps with
  | nil=>intros;rfl
  | cons p ps ih =>
   intro ras m x hx
   cases ras with
   | nil=>rfl
   | cons a ras =>
    dsimp only[List.zip_cons_cons,bindC]
    rw[ih (fun h=>hx (List.mem_cons_of_mem _ h))]
    split
    ·rfl
    ·exact if_neg (fun h:x=p=>hx (by rw[h];exact List.mem_cons_self))
 intro ps
 induction ps with
 | nil=>intro ras m k x rv _ e;simp at e
 | cons p ps ih =>
  intro ras m k x rv nd e e' hl
  cases ras with
  | nil=>simp at e'
  | cons a ras =>
   dsimp only[List.zip_cons_cons,bindC]
   obtain⟨n1,n2⟩:=List.nodup_cons.mp nd
   cases k with
   | zero =>
    simp at e e';subst e;subst e'
    rw[skip n1,if_neg hl,if_pos rfl]
   | succ k=>simp at e e';exact ih n2 e e' hl
theorem BI:∀ (names:List (Str×NameKind)) (n:Nat) (acc:List (Str×Addr)) (x:Str),((x,NameKind.cell)∈names∨(acc.lookup x).isSome=true)→((cellsFrom n names acc).lookup x).isSome=true
 | [],n,acc,x,h=>by
  rcases h with h | h
  ·cases h
  ·exact h
 | (y,kind)::r,n,acc,x,h=>by
  unfold cellsFrom
  split
  ·rename_i hk
   refine BI r (n+1) _ x ?_
   rw[List.lookup_cons]
   cases hb:x == y with
   | true=>exact .inr rfl
   | false =>
    rcases h with h | h
    ·rcases List.mem_cons.mp h with e | h
     ·cases e;simp at hb
     ·exact .inl h
    ·exact .inr h
  ·rename_i hk
   refine BI r n _ x ?_
   rcases h with h | h
   ·rcases List.mem_cons.mp h with e | h
    ·cases e;exact absurd rfl hk
    ·exact .inl h
   ·exact .inr h
theorem VRs.get{ρ:Rho}{h:Heap}{vs:List V}{xs:List Value}(r:VRs ρ h vs xs){k:Nat}{v:V}(e:vs[k]?=some v):∃ x,xs[k]?=some x∧VR ρ h v x:=by
 induction vs generalizing xs k with
 | nil=>simp at e
 | cons w vs ih =>
  cases r with
  | cons a b =>
   cases k with
   | zero=>simp at e;subst e;exact⟨_,by simp,a⟩
   | succ k=>simp at e;obtain⟨x,e',q⟩:=ih b e;exact⟨x,by simpa using e',q⟩
def runFn(keep:Bool)(bd:BT)(n:Nat)(body:XS):FT:=fun vas Q hp=>bd vas (fun vas' hp₁=>body (vas'.map some++List.replicate n none) (fun fl z hp'=>match fl with
 | .ret v=>fin keep hp.length Q v hp'
 | _=>fin keep hp.length Q (.d .none) hp') hp₁) hp
def Ret(Post:Value→Shared→Prop):Flow→Shared→Prop
 | .ret v,s=>Post v s
 | _,s=>Post .none s
theorem HQ{K:KX}{mg mb:Str→Option Value}(G:KG K mg mb){r:Nat}{a:Addr}{fd:FuncData}{body:List Stmt}(X:FnAt K a fd body){ps rest:List Str}{n:Nat}
  (nd:ps.Nodup) (hkind:∀ x∈ps,fd.scope.names.lookup x=some .local∨fd.scope.names.lookup x=some .cell) (hfree:∀ x,fd.scope.names.lookup x≠some .free)
  {A:Around} (ok:OkA (r+1) A) {ρ:Rho} {hp:List O} {s:Shared} {vas:List V} {ras:List Value} {E E':Value→Shared→Prop} {Post:Value→Shared→Prop} (H:HRel K ρ hp s.heap) (R:VRs ρ s.heap vas ras) (hl:ras.length=ps.length)
  (hbody:∀ h₂ t₂ A' E',OkA r A'→FRel K (callEnvC fd s.heap.objs.size a) (lk (ps++rest)) (vas.map some++List.replicate n none) ρ h₂→HRel K ρ hp h₂→Step K ρ s.heap ρ h₂ →
   (∀ b o,s.heap.get? b=some o→¬ Place (callEnvC fd s.heap.objs.size a) b) →
   wpAny (model K.prog K.w) A' (execs body (callEnvC fd s.heap.objs.size a)) (Ret Post) E' { s with heap:=h₂,toks:=t₂ }) :
  wpAny (model K.prog K.w) A.in1 (newFunctionEnv fd.scope fd.globals fd.closure (ps.zip ras) (fd.qualname ++ ".<locals>.") (some a) fd.code none fd.builtins)
   (fun env s₂=>s₂.heap.NoLimit∧codeAny (model K.prog K.w) A (.func body env) (fun r s'=>match r with | .ok (.ret v)=>Post v s' | .ok _=>False | .error e=>E e s') s₂) E' s:=by
 rw[X.clo]
 refine wpAny_newFunctionEnv_cells X.kd ?_ ?_
 ·intro x hx
  obtain⟨x1,x2⟩:=x
  have hm:x1∈ps:=(List.of_mem_zip hx).1
  rcases hkind x1 hm with e | e
  ·exact .inl e
  ·exact .inr ⟨e,BI _ _ _ _ (.inl (mem_of_lookup e))⟩
 intro env he s₂ I
 have he':env=callEnvC fd s.heap.objs.size a:=he
 have hs₂:∃ h₂ t₂,s₂={ s with heap:=h₂,toks:=t₂ }:=by
  obtain⟨h₂,t₂,e⟩:=I.toInCall.same
  exact⟨h₂,t₂,e⟩
 obtain⟨h₂,t₂,rfl⟩:=hs₂
 have keep₂:∀ b o,s.heap.get? b=some o→h₂.get? b=some o:=I.toInCall.keep
 have H₂:HRel K ρ hp h₂:=H.grow keep₂
 have S₂:Step K ρ s.heap ρ h₂:=Step.grow keep₂
 have R₂:=R.step S₂ H
 have hloc:env.locals=s.heap.objs.size:=by rw[he'];rfl
 have hkof:∀ x,env.kindOf x=fd.scope.names.lookup x:=by intro x;rw[he'];rfl
 have hcell:env.cells=cellsFrom (s.heap.objs.size+1) fd.scope.names []:=by rw[he'];rfl
 have hvs:∀ (k:Nat) (v:V),(vas.map some++List.replicate n none)[k]?=some (some v)→vas[k]?=some v:=by
  intro k v e
  by_cases hk:k<vas.length
  ·rw[List.getElem?_append_left (by simpa using hk),List.getElem?_map] at e
   cases e':vas[k]? with
   | none=>rw[e'] at e;cases e
   | some w=>rw[e'] at e;simpa using e
  ·rw[List.getElem?_append_right (by simpa using hk),List.getElem?_replicate] at e
   split at e<;>cases e
 have hps:∀ (x:Str) (k:Nat) (v:V),lk (ps++rest) x=some k→vas[k]?=some v→ps[k]?=some x:=by
  intro x k v e e'
  have:=Do e
  have hk:k<ps.length:=by rw[← hl,← R.length];exact(List.getElem?_eq_some_iff.mp e').1
  rwa[List.getElem?_append_left hk] at this
 have newc:∀ c,s.heap.objs.size≤c→K.New c∧Off ρ c:=fun c hc=>⟨H.fresh (AA hc),H.off (AA hc)⟩
 have F:FRel K env (lk (ps++rest)) (vas.map some++List.replicate n none) ρ h₂:=by
  refine⟨by rw[he'];exact X.kd,by rw[he'];exact X.gl,by rw[he'];exact X.bi,?_,?_,?_,?_,?_,?_⟩
  ·rw[hloc];exact(newc _ (Nat.le_refl _)).1
  ·rw[hloc];exact(newc _ (Nat.le_refl _)).2
  ·refine⟨_,I.toInCall.ns,fun x k v hx hl e=>?_⟩
   have e1:=hvs k v e
   obtain⟨rv,e2,e3⟩:=R₂.get e1
   exact⟨rv,Iz nd (hps x k v hl e1) e2 hx,e3⟩
  ·intro x hx
   have hxc:fd.scope.names.lookup x=some .cell:=by
    rcases hx with hx | hx
    ·rw[← hkof];exact hx
    ·exact absurd (by rw[← hkof];exact hx) (hfree x)
   have is:(env.cells.lookup x).isSome=true:=by rw[hcell];exact BI _ _ _ _ (.inl (mem_of_lookup hxc))
   obtain⟨c,hc⟩:=Option.isSome_iff_exists.mp is
   have hab:=I.above x c (mem_of_lookup hc)
   rw[hloc] at hab
   obtain⟨oc,g1,g2⟩:=I.cell x c hc
   refine⟨c,oc,_,hc,(newc c (Nat.le_of_lt hab)).1,(newc c (Nat.le_of_lt hab)).2,g1,g2,fun k v hl e=>?_⟩
   have e1:=hvs k v e
   obtain⟨rv,e2,e3⟩:=R₂.get e1
   refine⟨rv,J0 nd (hps x k v hl e1) e2 ?_,e3⟩
   rw[hkof,hxc];simp
  ·intro x y c h1 h2
   exact name_of_addr I.apart (mem_of_lookup h1) (mem_of_lookup h2)
  ·intro x y k h1 h2
   have e1:=Do h1
   have e2:=Do h2
   rw[e1] at e2;cases e2;rfl
 refine⟨H₂.limOf G,codeAny_func ?_⟩
 have ok':OkA r (A.deeper env):=⟨ok.hh,by have:=ok.dp;show A.depth+1+r<_;lia,by have:=ok.un;show A.units+3+_+200<_;lia⟩
 have np:∀ b o,s.heap.get? b=some o→¬ Place env b:=by
  intro b o e
  have hlt:=Heap.lt_size e
  rintro(z | ⟨x,_,hc⟩)
  ·rw[hloc] at z;exact absurd hlt (by rw[z];exact Nat.lt_irrefl _)
  ·have:=I.above x b (mem_of_lookup hc);rw[hloc] at this;exact absurd hlt (Nat.not_lt.mpr (Nat.le_of_lt this))
 rw[he'] at F np ok' ⊢
 refine wpAny_mono (hbody h₂ t₂ _ _ ok' F H₂ S₂ np) ?_ (fun u u x=>x)
 intro fl s₃ p
 cases fl<;>exact p
theorem Bj{K:KX}{mg mb:Str→Option Value}(G:KG K mg mb){r:Nat}{a:Addr}{fd:FuncData}{body:List Stmt}(X:FnAt K a fd body){kn ps rest:List Str}{bd:BT}{p:XS}{keep:Bool}{n:Nat}
  (hb:SoundBind K fd kn ps bd) (nd:ps.Nodup) (hkind:∀ x∈ps,fd.scope.names.lookup x=some .local∨fd.scope.names.lookup x=some .cell) (hfree:∀ x,fd.scope.names.lookup x≠some .free)
  (hp:∀ L,SoundSs K r (callEnvC fd L a) (lk (ps++rest)) body p):SoundF K (r+1) (.ref a) kn (runFn keep bd n p):=by
 intro A ok ρ hp₀ s vas ras ks Q E hk q H R
 obtain⟨o,ho,hd⟩:=X.ob
 refine codeAny_call_function (fd:=fd) (by have:=ok.dp;lia) (H.keep _ _ ho X.tb) hd X.co X.gen X.bd ?_ ?_
 ·obtain⟨c,oc,vs,t,e1,e2,e3,e4,e5⟩:=X.code
  exact⟨c,oc,vs,t,e1,H.keep _ _ e2 e5,e3,e4⟩
 refine wpAny_mono (hb A.in1 ok.hh ρ hp₀ s vas ras ks _ _ hk q H R) ?_ (fun z z x=>x)
 rintro binds s₁ ⟨vas',ras',hp₁,ρ₁,h₁,t₁,rfl,rfl,hl',q₁,H₁,S₁,R₁⟩
 refine HQ (Post:=PostE K ρ s Q) (rest:=rest) (n:=n) G X nd hkind hfree ok H₁ R₁ hl' fun h₂ t₂ A' E' ok' F H₂ S₂ np=>?_
 refine wpAny_mono (hp _ A' ok' _ _ hp₁ ρ₁ { s with heap:=h₂,toks:=t₂ } _ q₁ F H₂) ?_ (fun z z x=>x)
 rintro fl s₃ ⟨af,vs',hp₃,ρ₃,h₃,t₃,rfl,q₃,F₃,H₃,S₃,fr⟩
 have T:=S₂.toS.trans S₃
 have S:Step K ρ s.heap ρ₃ h₃:=S₁.trans ⟨T.pre,T.new,fun b o e hb hm=>T.keep b o e hb hm (np b o e),T.dom⟩
 have dn:VR ρ₃ h₃ (.d .none) .none:=.none
 cases af<;>cases fl<;>first | exact fr.elim | skip
 ·exact EF q₃ H H₃ S dn
 ·exact EF q₃ H H₃ S dn
 ·exact EF q₃ H H₃ S dn
 ·exact EF q₃ H H₃ S fr
section
variable{K:KX}{mg mb:Str→Option Value}{r:Nat}{env:Env}{look:Str→Option Nat}
def xCall(F:FT)(p:XL):XE:=fun vs Q=>p vs fun l hp=>F l Q hp
theorem KR(G:KG K mg mb){f:Str}{a:Addr}{fd:FuncData}{body:List Stmt}{args:List Expr}{p pos:Pos}{F:FT}{l:XL}(X:FnAt K a fd body)(hF:SoundF K r (.ref a) [] F)(hl:SoundL K r env look args l)
  (hk:env.kindOf f=some .globalImplicit) (hg:mg f=some (.ref a)) (hd:(f == ("__debug__" : Str))=false) (hb:∀ t:List (Bool×Sem Value),backTo pos (starEach args env)=t→∀ x∈t,x.1=false) :
  SoundE K r env look (.Call (.Name f p) args [] pos) (xCall F l):=by
 intro A ok vs Q hp ρ s E q FR H
 refine wpAny_Call_Name_kw (Calls.Name_function_global FR.kd hk (Calls.loadGlobal_global (mg:=mg) ?_ hg ?_) hd)
 ·rw[FR.gl];exact H.nsOf G.g G.g'
 obtain⟨o,ho,hdd⟩:=X.ob
 refine callWith_function_kw (o:=o) (fd:=fd) ?_
 have base:=hl A ok pos vs _ hp ρ s E q FR H
 have fin:∀ rvs s',PostL K ρ s (fun l hp=>F l Q hp) rvs s'→(s'.heap.get? a=some o∧o.data = .func fd)∧wpAny (model K.prog K.w) A (call (.ref a) ([]++rvs) []) (PostE K ρ s Q) E s':=by
  rintro rvs s' ⟨l,hp₁,ρ₁,h₁,t₁,rfl,q₁,H₁,S₁,r₁⟩
  refine⟨⟨H₁.keep _ _ ho X.tb,hdd⟩,wpAny_mono (hF.call A ok ρ₁ hp₁ { s with heap:=h₁,toks:=t₁ } l rvs [] Q E rfl q₁ H₁ (by rw[List.append_nil];exact r₁)) (fun z z x=>PostE.after S₁ x) (fun z z x=>x)⟩
 have hb':=hb _ rfl
 show wpAny _ A (evalArgs (.ref a) true (backTo pos (starEach args env)) []) _ E s
 revert base hb'
 generalize backTo pos (starEach args env)=T
 intro base hb'
 cases T with
 | nil =>
  refine PySem.evalArgs_none ⟨⟨H.keep _ _ ho X.tb,hdd⟩,fun Γ p hΓ=>?_⟩
  have base':wpAny (model K.prog K.w) A (spliced []) (fun rvs s'=>(s'.heap.get? a=some o∧o.data = .func fd)∧wpAny (model K.prog K.w) A (call (.ref a) ([]++rvs) []) (PostE K ρ s Q) E s') E s :=
   wpAny_mono base (fun rvs s' x=>fin rvs s' x) (fun z z x=>x)
  exact(base' Γ p hΓ).2 Γ p hΓ
 | cons x rest =>
  obtain⟨b,t⟩:=x
  have hb0:b=false:=hb' (b,t) List.mem_cons_self
  subst hb0
  exact Calls.evalArgs_plain (wpAny_mono base (fun rvs s' x=>fin rvs s' x) (fun z z x=>x))
end
section
variable{K:KX}{mg mb:Str→Option Value}{r:Nat}{env:Env}{look:Str→Option Nat}
def SoundV(K:KX)(r:Nat)(f:Value)(F:FT):Prop :=
 ∀ A,OkA r A→∀ ρ hp s vas ras Q E,F vas Q hp→HRel K ρ hp s.heap→VRs ρ s.heap vas ras→wpAny (model K.prog K.w) A (call f ras) (PostE K ρ s Q) E s
theorem BJ{M:Model}{A:Around}{E:Value→Shared→Prop}{s:Shared}{pos:Pos}{T:String}{first:List Value}{trees:List (Bool×Sem Value)}{Q:Value→Shared→Prop}
  (hp:trees.any (·.1)=false) (h:wpAny M A (spliced trees) (fun vs s₁=>wpAny M A (call (.type T) (first++vs)) Q E s₁) E s):wpAny M A (callWith pos (.type T) first trees []) Q E s:=by
 refine PySem.callWith_type hp ?_
 cases trees with
 | nil =>
  refine PySem.evalArgs_none (fun Γ p hΓ=>?_)
  exact h Γ p hΓ Γ p hΓ
 | cons x rest =>
  obtain⟨b,t⟩:=x
  simp only[List.any_cons,Bool.or_eq_false_iff] at hp
  obtain⟨rfl,_⟩:=hp
  exact Calls.evalArgs_plain h
theorem CB(G:KG K mg mb){f:Str}{id:String}{args:List Expr}{p pos:Pos}{F:FT}{l:XL}(hF:SoundV K r (.builtin id) F)(hl:SoundL K r env look args l)
  (hk:env.kindOf f=some .globalImplicit) (hg:mg f=none) (hm:mb f=some (.builtin id)) (hd:(f == ("__debug__" : Str))=false) (hb:(backTo pos (starEach args env)).any (·.1)=false) :
  SoundE K r env look (.Call (.Name f p) args [] pos) (xCall F l):=by
 intro A ok vs Q hp ρ s E q FR H
 refine wpAny_Call_Name_kw (Calls.Name_function_global FR.kd hk (Calls.loadGlobal_builtin (mg:=mg) (mb:=mb) ?_ hg ?_ hm ?_) hd)
 ·rw[FR.gl];exact H.nsOf G.g G.g'
 ·rw[FR.bi];exact H.nsOf G.b G.b'
 refine AO hb (wpAny_mono (hl A ok pos vs _ hp ρ s E q FR H) ?_ (fun z z x=>x))
 rintro rvs s' ⟨l,hp₁,ρ₁,h₁,t₁,rfl,q₁,H₁,S₁,r₁⟩
 exact wpAny_mono (hF A ok ρ₁ hp₁ { s with heap:=h₁,toks:=t₁ } l rvs Q E q₁ H₁ r₁) (fun z z x=>PostE.after S₁ x) (fun z z x=>x)
theorem CA(G:KG K mg mb){f:Str}{id:String}{args:List Expr}{p pos:Pos}{F:FT}{l:XL}(hF:SoundV K r (.type id) F)(hl:SoundL K r env look args l)
  (hk:env.kindOf f=some .globalImplicit) (hg:mg f=none) (hm:mb f=some (.type id)) (hd:(f == ("__debug__" : Str))=false) (hb:(backTo pos (starEach args env)).any (·.1)=false) :
  SoundE K r env look (.Call (.Name f p) args [] pos) (xCall F l):=by
 intro A ok vs Q hp ρ s E q FR H
 refine wpAny_Call_Name_kw (Calls.Name_function_global FR.kd hk (Calls.loadGlobal_builtin (mg:=mg) (mb:=mb) ?_ hg ?_ hm ?_) hd)
 ·rw[FR.gl];exact H.nsOf G.g G.g'
 ·rw[FR.bi];exact H.nsOf G.b G.b'
 refine BJ hb (wpAny_mono (hl A ok pos vs _ hp ρ s E q FR H) ?_ (fun z z x=>x))
 rintro rvs s' ⟨l,hp₁,ρ₁,h₁,t₁,rfl,q₁,H₁,S₁,r₁⟩
 exact wpAny_mono (hF A ok ρ₁ hp₁ { s with heap:=h₁,toks:=t₁ } l rvs Q E q₁ H₁ r₁) (fun z z x=>PostE.after S₁ x) (fun z z x=>x)
def fLen:FT:=fun vas Q hp=>match vas with
 | [v]=>(match v with
  | .d (.str x)=>(x.length:Int)<2 ^ 63∧Q (.d (.int x.length)) hp
  | v=>match lget v hp with | some l=>(l.length:Int)<2 ^ 63∧Q (.d (.int l.length)) hp | none=>False)
 | _=>False
inductive StrI(P:Str→Prop)(T:Prop)(v:V):Prop
 | str (i:Str):v = .d (.str i)→P i→StrI P T v
 | rest:T→StrI P T v
theorem strI{P:Str→Prop}{T:V→Prop}{v:V}(q:(match v with | .d (.str i)=>P i | v=>T v)):StrI P (T v) v:=by
 cases v with
 | d x=>cases x with
  | str i=>exact .str i rfl q
  | _=>exact .rest q
 | _=>exact .rest q
set_option tactic.hygienic true in
theorem E1:SoundV K r (.builtin "len") fLen:=by
 intro A ok ρ hp s vas ras Q E q H R
 cases R with
 | nil=>exact q.elim
 | cons a b=>cases b with
  | cons=>exact q.elim
  | nil =>
   obtain⟨x,rfl,q⟩ | q:=strI q
   ·cases a
    exact PyProof.Rows.len_str (by lia) (PostE.pure _ q.2 H (.int ..))
   ·generalize e:lget _ hp=o at q
    cases o with
    | none=>exact q.elim
    | some l =>
     obtain⟨aa,vs,n,rfl,h1,h3⟩:=Aj H a e
     have e:vs.size=l.length:=by rw[← h3.length];simp
     refine PyProof.Rows.len_list (items:=vs) ⟨_,h1,rfl,n,rfl⟩ (by rw[e];lia) ?_
     rw[e]
     exact PostE.pure _ q.2 H (.int ..)
def fRange:FT:=fun vas Q hp=>match vas with
 | [v]=>(match v with | .d (.int n)=>Q (.rng 0 n 1) hp | _=>False)
 | [u,v,w]=>(match u with | .d (.int a)=>(match v with | .d (.int b)=>(match w with | .d (.int c)=>c≠0∧c.natAbs<2 ^ 64∧Q (.rng a b c) hp | _=>False) | _=>False) | _=>False)
 | _=>False
theorem Cs:SoundV K r (.type "range") fRange:=by
 intro A ok ρ hp s vas ras Q E q H R
 cases R with
 | nil=>exact q.elim
 | cons a R=>cases R with
  | nil =>
   obtain⟨_,rfl,q⟩:=BZ q
   cases a
   refine call_range_1 ?_
   exact PostE.grown _ q H (fun z z e=>Heap.get?_push_of_some _ e) ⟨_,_,_,_,rfl,Heap.get?_push_size _ rfl,H.sizeMu⟩
  | cons b R=>cases R with
   | nil=>exact q.elim
   | cons c R=>cases R with
    | cons=>exact q.elim
    | nil =>
     obtain⟨_,rfl,q⟩:=BZ q
     obtain⟨_,rfl,q⟩:=BZ q
     obtain⟨_,rfl,q⟩:=BZ q
     cases a;cases b;cases c
     refine call_range_3 q.1 ?_ (.inl (noPylong q.2.1))
     exact PostE.grown _ q.2.2 H (fun z z e=>Heap.get?_push_of_some _ e) ⟨_,_,_,_,rfl,Heap.get?_push_size _ rfl,H.sizeMu⟩
end
noncomputable def clo(cells:List (Str×Addr)):List (Str×NameKind)→List (Str×Addr)→List (Str×Addr)
 | [],acc=>acc
 | (n,k)::r,acc=>if k == .free then clo cells r ((n,(cells.lookup n).getD 0)::acc) else clo cells r acc
theorem Ak{env:Env}{scope:Scope}(h:∀ x∈scope.names,x.2 = .free→(env.cells.lookup x.1).isSome=true):closureFor scope env=pure (clo env.cells scope.names []):=by
 have key:∀ (names:List (Str×NameKind)) (acc:List (Str×Addr)),(∀ x∈names,x.2 = .free→(env.cells.lookup x.1).isSome=true) →
   (forIn names acc (fun(x:Str×NameKind) (cs:List (Str×Addr))=>(if x.2 == .free then (do let a ← cellOf env x.1;pure (ForInStep.yield ((x.1,a)::cs))) else pure (ForInStep.yield cs):Sem (ForInStep (List (Str×Addr))))))=pure (clo env.cells names acc):=by
  intro names
  induction names with
  | nil=>intro acc _;rfl
  | cons x r ih =>
   intro acc hx
   obtain⟨n,k⟩:=x
   rw[List.forIn_cons]
   unfold clo
   cases hk:(k == NameKind.free) with
   | true =>
    have hk':k = .free:=by simpa using hk
    have hs:=hx (n,k) List.mem_cons_self hk'
    obtain⟨c,hc⟩:=Option.isSome_iff_exists.mp hs
    simp only[hk,if_true]
    have e:cellOf env n=pure c:=by unfold cellOf;rw[hc]
    rw[e]
    have:=ih ((n,c)::acc) (fun y hy=>hx y (List.mem_cons_of_mem _ hy))
    rw[show(env.cells.lookup n).getD 0=c by rw[hc];rfl]
    rw[← this]
    rfl
   | false =>
    dsimp only[hk,Bool.false_eq_true,if_false]
    exact ih acc (fun y hy=>hx y (List.mem_cons_of_mem _ hy))
 unfold closureFor
 have:=key scope.names [] h
 exact(congrArg (fun t=>t >>= fun cs=>(pure cs:Sem (List (Str×Addr)))) this)
theorem Bx{cells:List (Str×Addr)}:∀ {names:List (Str×NameKind)} {acc:List (Str×Addr)} {x:Str} {c:Addr},(∀ y∈names,y.2 = .free→(cells.lookup y.1).isSome=true) →
  (∀ y d,acc.lookup y=some d→cells.lookup y=some d)→(clo cells names acc).lookup x=some c→cells.lookup x=some c
 | [],acc,x,c,_,ha,h=>ha x c h
 | (n,k)::r,acc,x,c,hn,ha,h=>by
  unfold clo at h
  split at h
  ·rename_i hk
   refine Bx (fun y hy=>hn y (List.mem_cons_of_mem _ hy)) ?_ h
   intro y d hy
   rw[List.lookup_cons] at hy
   cases hb:y == n with
   | true =>
    rw[hb] at hy
    have e:=beq_iff_eq.mp hb
    subst e
    obtain⟨c',hc'⟩:=Option.isSome_iff_exists.mp (hn (y,k) List.mem_cons_self (by simpa using hk))
    simp only at hc'
    rw[hc'] at hy ⊢
    simpa using hy
   | false=>rw[hb] at hy;exact ha y d hy
  ·exact Bx (fun y hy=>hn y (List.mem_cons_of_mem _ hy)) ha h
theorem Eb{cells:List (Str×Addr)}:∀ {names:List (Str×NameKind)} {acc:List (Str×Addr)} {x:Str},((x,NameKind.free)∈names∨(acc.lookup x).isSome=true)→((clo cells names acc).lookup x).isSome=true
 | [],acc,x,h=>by
  rcases h with h | h
  ·cases h
  ·exact h
 | (y,kind)::r,acc,x,h=>by
  unfold clo
  split
  ·rename_i hk
   refine Eb ?_
   rw[List.lookup_cons]
   cases hb:x == y with
   | true=>exact .inr rfl
   | false =>
    rcases h with h | h
    ·rcases List.mem_cons.mp h with e | h
     ·cases e;simp at hb
     ·exact .inl h
    ·exact .inr h
  ·rename_i hk
   refine Eb ?_
   rcases h with h | h
   ·rcases List.mem_cons.mp h with e | h
    ·cases e;exact absurd rfl hk
    ·exact .inl h
   ·exact .inr h
theorem Ce{f:Str→NameKind→NameKind}:∀ {names:List (Str×NameKind)} {x:Str},(names.map fun y=>(y.1,f y.1 y.2)).lookup x=(names.lookup x).map (f x)
 | [],x=>rfl
 | (n,k)::r,x=>by
  simp only[List.map_cons,List.lookup_cons]
  cases hb:x == n with
  | true=>have:=beq_iff_eq.mp hb;subst this;rfl
  | false=>exact Ce
theorem Fm{scope:Scope}{env env':Env}{x:Str}(he:env'.scope=relabel scope env)(hx:env'.kindOf x=some .cell∨env'.kindOf x=some .free)(hc:scope.names.lookup x≠some .cell):scope.names.lookup x=some .free:=by
 have e:env'.kindOf x=(scope.names.lookup x).map (fun k=>if (k == .free && env.scope.kind == .function && env.kindOf x == some .cell) then .cell else k):=by
  show env'.scope.names.lookup x=_
  rw[he]
  rw[← Ce (f:=fun n k=>if (k == .free && env.scope.kind == .function && env.kindOf n == some .cell) then .cell else k)]
  unfold relabel
  congr 1
  apply List.map_congr_left
  rintro⟨n,k⟩ _
  simp only
  split<;>rfl
 rw[e] at hx
 cases hl:scope.names.lookup x with
 | none=>rw[hl] at hx;rcases hx with h | h<;>cases h
 | some k =>
  rw[hl] at hx hc
  cases k with
  | free=>rfl
  | cell=>exact absurd rfl hc
  | _=>rcases hx with h | h<;>cases h
noncomputable def lkC(on:List Str)(look:Str→Option Nat)(x:Str):Option Nat:=match lk on x with | some k=>some k | none=>(look x).map (· + on.length)
theorem OF{nm:List Str}{x:Str}{k:Nat}(h:lk nm x=some k):k<nm.length:=(List.getElem?_eq_some_iff.mp (Do h)).1
section
variable{K:KX}{r:Nat}{env:Env}{look:Str→Option Nat}
noncomputable abbrev Env.bare(env:Env):Env:={ env with cells:=[] }
theorem Place.bare{b:Addr}(h:Place (Env.bare env) b):b=env.locals:=by
 rcases h with h | ⟨x,_,hc⟩
 ·exact h
 ·cases hc
theorem StepS.wide{ρ ρ':Rho}{h h':Heap}(S:StepS K (Env.bare env) ρ h ρ' h'):StepS K env ρ h ρ' h' :=
 ⟨S.pre,S.new,fun b o e a c d=>S.keep b o e a c (fun z=>d (.inl z.bare)),S.dom⟩
inductive PostTL(K:KX)(env:Env)(look:Str→Option Nat)(ρ:Rho)(s:Shared)(Q:List (Option V)→List O→Prop)(s':Shared):Prop
 | mk (vs':List (Option V)) (hp':List O) (ρ':Rho) (h':Heap) (t:Nat) (e:s'={ s with heap:=h',toks:=t }) (q:Q vs' hp') (F:FRel K env look vs' ρ' h') (H:HRel K ρ' hp' h') (S:StepS K (Env.bare env) ρ s.heap ρ' h')
def SoundTL(K:KX)(r:Nat)(env:Env)(look:Str→Option Nat)(t:Expr)(p:XT):Prop :=
 ∀ A,OkA r A→∀ v vs Q hp ρ s E rv,p v vs Q hp→FRel K env look vs ρ s.heap→HRel K ρ hp s.heap→VR ρ s.heap v rv→wpAny (model K.prog K.w) A (assign t env rv) (fun z=>PostTL K env look ρ s Q) E s
theorem Ay{x:Str}{k:Nat}{pos:Pos}(hk:env.kindOf x=some .local)(hl:look x=some k):SoundTL K r env look (.Name x pos) (tName k):=by
 intro A ok v vs Q hp ρ s E rv q F H hv
 have slot:∀ y j w,look y=some j→(vs.set k (some v))[j]?=some (some w)→(y=x∧w=v)∨(y≠x∧vs[j]?=some (some w)):=by
  intro y j w hy e
  rw[List.getElem?_set] at e
  by_cases hj:k=j
  ·subst hj
   rw[if_pos rfl] at e
   split at e
   ·cases e;exact .inl ⟨F.ij y x k hy hl,rfl⟩
   ·cases e
  ·rw[if_neg hj] at e
   exact .inr ⟨fun q=>hj (by subst q;rw[hl] at hy;cases hy;rfl),e⟩
 obtain⟨m,n,f⟩:=F.ns
 have hkc:(env.scope.kind == .class || (env.scope.kind == .module && env.locals != env.globals))=false:=by rw[F.kd];rfl
 obtain⟨ol,es,ep,el,dl,_⟩:=id n
 refine wpAny_assign_Name (wpAny_storeName_local hk n (fun h' n' hs=>?_) hkc)
 have S:StepS K (Env.bare env) ρ s.heap ρ h':=⟨List.prefix_refl _,fun z hp=>.inl hp,fun b o e z z hb=>(hs.2 b (fun q=>hb (.inl q))).trans e,fun b o e=>by
  by_cases hb:b=env.locals
  ·subst hb;obtain⟨o',_,_,e',_⟩:=n';exact⟨o',e'⟩
  ·exact⟨o,(hs.2 b hb).trans e⟩⟩
 have nonseq:∀ o,s.heap.get? env.locals=some o→∀ vs n,o.data≠.seq vs n:=by
  intro o' e' vs n q
  rw[el] at e';cases e';rw[dl] at q;cases q
 refine⟨_,hp,ρ,h',_,rfl,q,⟨F.kd,F.gl,F.bi,F.lb,F.lo,⟨_,n',?_⟩,?_,F.ci,F.ij⟩,H.other F.lb F.lo hs.extBut nonseq,S⟩
 ·intro y j w hy hj e
  rcases slot y j w hj e with ⟨rfl,rfl⟩ | ⟨hne,e⟩
  ·exact⟨rv,by simp,hv.stepS S.wide F H⟩
  ·obtain⟨rw',e1,e2⟩:=f y j w hy hj e
   exact⟨rw',by simp[hne,e1],e2.stepS S.wide F H⟩
 ·intro y hy
  obtain⟨c,o,ov,a1,a2,a3,a4,a5,a6⟩:=F.cl y hy
  have hne:c≠env.locals:=by rintro rfl;rw[el] at a4;cases a4;rw[dl] at a5;cases a5
  refine⟨c,o,ov,a1,a2,a3,(hs.2 c hne).trans a4,a5,fun j w hj e=>?_⟩
  rcases slot y j w hj e with ⟨rfl,rfl⟩ | ⟨_,e⟩
  ·rcases hy with hy | hy<;>(rw[hk] at hy;cases hy)
  ·obtain⟨rw',e1,e2⟩:=a6 j w hj e
   exact⟨rw',e1,e2.stepS S.wide F H⟩
def SoundI(K:KX)(r:Nat)(env:Env)(look:Str→Option Nat)(ifs:List Expr)(p:XB):Prop :=
 ∀ A,OkA r A→∀ vs Q hp ρ s E,p vs Q hp→FRel K env look vs ρ s.heap→HRel K ρ hp s.heap →
  wpAny (model K.prog K.w) A (forIn ifs true fun c r=>if r=true then do let ok ← isTrue c env (eval c env);pure (ForInStep.yield ok) else pure (ForInStep.yield r)) (PostB K ρ s Q) E s
def iNil:XB:=fun z Q=>Q true
theorem DU:SoundI K r env look [] iNil:=fun A ok vs Q hp ρ s E q F H=>wpAny_tests_nil (PostB.pure0 q H)
theorem I6{c:Expr}{p:XB}(h:SoundB K r env look c p):SoundI K r env look [c] p:=fun A ok vs Q hp ρ s E q F H=>wpAny_tests_one (h A ok vs Q hp ρ s E q F H)
noncomputable def compL(g:G)(i:Nat)(tgt:XT)(ifs:XB)(elt:XE)(Q:List PyData→List O→Prop):List PyData→List (Option V)→List O→Prop
 | [],vs,hp=>gOk g hp∧atL (.r i) hp fun z l=>Q l hp
 | x::xs,vs,hp=>gOk g hp∧tgt (.d x) vs (fun vs' hp'=>ifs vs' (fun b hp''=>match b with
  | true=>elt vs' (fun v hp3=>(lget (.r i) hp3).isSome=true∧mAppend (.r i) [v] (fun z hp4=>compL g i tgt ifs elt Q xs vs' hp4) hp3) hp''
  | false=>compL g i tgt ifs elt Q xs vs' hp'') hp') hp
def compEnd(m:Bool)(i:Nat)(Q:V→List O→Prop)(l:List PyData)(hp:List O):Prop:=match m with
 | false=>Q (.d (.list l)) (hp.take i)
 | true=>Q (.r i) (hp.take (i+1))
def xComp(m:Bool)(n:Nat)(tgt:XT)(it:XE)(ifs:XB)(elt:XE):XE:=fun vs Q=>it vs fun v hp=>iterV v hp fun g xs =>
 compL g hp.length tgt ifs elt (compEnd m hp.length Q) xs (List.replicate n none++vs) (hp++[.lst []])
def CompTurn(prog:Program)(w:World)(A:Around)(R:Result→Shared→Prop)(elt target:Expr)(ifs:List Expr)(it acc:Value)(env:Env)(M:Shared→Prop)(s:Shared):Prop :=
 wpAny (model prog w) A (pyNext it) (fun r s₁=>match r with
   | none=>R (.ok .next) s₁
   | some v=>wpAny (model prog w) A (letOwnedTupleGo target it v) (fun z s₁'=>wpAny (model prog w) A (assign target env v) (fun z s₂ =>
     wpAny (model prog w) A (forIn ifs true fun c r=>if r=true then do let ok ← isTrue c env (eval c env);pure (ForInStep.yield ok) else pure (ForInStep.yield r)) (fun ok s₃ =>
      if ok=true then wpAny (model prog w) A (eval elt env) (fun x s₄ =>
       wpAny (model prog w) A (call (.builtin "list.append") [acc,x]) (fun z s₅=>M s₅) (notedBy (model prog w) A env fun e s'=>R (.error e) s') s₄) (notedBy (model prog w) A env fun e s'=>R (.error e) s') s₃
      else M s₃) (notedBy (model prog w) A env fun e s'=>R (.error e) s') s₂) (notedBy (model prog w) A env fun e s'=>R (.error e) s') s₁') (notedBy (model prog w) A env fun e s'=>R (.error e) s') s₁) (notedBy (model prog w) A env fun e s'=>R (.error e) s') s
theorem Cg{prog:Program}{w:World}{A:Around}{R:Result→Shared→Prop}{s:Shared}{elt target iter:Expr}{ifs:List Expr}{scope:Scope}{pos:Pos}{it acc:Value}{env:Env}(I:Nat→Shared→Prop)
  (turn:∀ n s,I n s→CompTurn prog w A R elt target ifs it acc env (fun s'=>∃ m,m<n∧I m s') s)
  (n:Nat) (h:I n s) :
  codeAny (model prog w) A (.compLoop (.ListComp elt [⟨target,iter,ifs,0⟩] scope pos) 0 it acc env) R s:=by
 refine codeAny_loop rfl I (fun n s hI=>?_) n h
 show wpAny _ A ((compTurn (.ListComp elt [⟨target,iter,ifs,0⟩] scope pos) 0 it acc env).onRaise (fun x=>do noteFrame x env;theTreesLotGoes x)) _ _ s
 refine wpAny_noted ?_
 rw[compTurn_list]
 refine wpAny_bind (wpAny_standAt (wpAny_bind (wpAny_mono (turn n s hI) (fun r s₁ h₁=>?_) fun z z h'=>h')))
 cases r with
 | none=>exact wpAny_pure h₁
 | some v =>
  refine wpAny_bind (wpAny_mono h₁ (fun z s₁' h₁'=>?_) fun z z h'=>h')
  refine wpAny_bind (wpAny_mono h₁' (fun z s₂ h₂=>wpAny_bind (wpAny_mono h₂ (fun ok s₃ h₃=>?_) fun z z h'=>h')) fun z z h'=>h')
  cases ok with
  | false=>exact wpAny_pure ⟨rfl,h₃⟩
  | true =>
   exact wpAny_bind (wpAny_bind (wpAny_mono h₃ (fun x s₄ h₄=>wpAny_bind (wpAny_mono h₄ (fun z s₅ h₅=>wpAny_pure (wpAny_pure ⟨rfl,h₅⟩)) fun z z h'=>h')) fun z z h'=>h'))
set_option tactic.hygienic true in
theorem FRel.comp{vs:List (Option V)}{ρ:Rho}{h:Heap}{scope:Scope}{C:Addr}{on:List Str}(F:FRel K env look vs ρ h)(hk:scope.kind = .function)(hnc:∀ x∈scope.names,x.2≠.cell)
  (hfree:∀ x∈scope.names,x.2 = .free→(env.kindOf x.1=some .cell∨env.kindOf x.1=some .free)∧lk on x.1=none)
  (hown:∀ x∈scope.names,x.2 = .local→lk on x.1=none→look x.1=none) (hC:K.New C) (ho:Off ρ C) (hn:h.Ns C fun w=>none) :
  FRel K (compEnvC scope (clo env.cells scope.names []) C env) (lkC on look) (List.replicate on.length none++vs) ρ h:=by
 have hsome:∀ x∈scope.names,x.2 = .free→(env.cells.lookup x.1).isSome=true:=by
  intro x hx hf
  obtain⟨c,_,_,a1,_⟩:=F.cl x.1 (hfree x hx hf).1
  simp[a1]
 have sl:∀ (k:Nat) (v:V),(List.replicate on.length none++vs)[k]?=some (some v)→on.length≤k∧vs[k-on.length]?=some (some v):=by
  intro k v e
  by_cases hk:k<on.length
  ·rw[List.getElem?_append_left (by simpa using hk),List.getElem?_replicate] at e
   split at e<;>cases e
  ·rw[List.getElem?_append_right (by simpa using hk)] at e
   exact⟨by omega,by simpa using e⟩
 have lkc:∀ x k,lkC on look x=some k→on.length≤k→lk on x=none∧look x=some (k-on.length):=by
  intro x k e hle
  unfold lkC at e
  generalize hj:lk on x=o at e
  cases o with
  | some j =>
   cases e
   have:=OF hj
   omega
  | none =>
   refine⟨rfl,?_⟩
   cases hl:look x with
   | none=>rw[hl] at e;cases e
   | some j=>rw[hl] at e;simp at e;subst e;simp
 have hkind:∀ x,(compEnvC scope (clo env.cells scope.names []) C env).kindOf x=some NameKind.local→lk on x=none→look x=none:=by
  intro x hx hl
  have e:(compEnvC scope (clo env.cells scope.names []) C env).kindOf x=(scope.names.lookup x).map (fun k=>if (k == .free && env.scope.kind == .function && env.kindOf x == some .cell) then .cell else k):=by
   show(relabel scope env).names.lookup x=_
   rw[← Ce (f:=fun n k=>if (k == .free && env.scope.kind == .function && env.kindOf n == some .cell) then .cell else k)]
   unfold relabel
   congr 1
   apply List.map_congr_left
   rintro⟨n,k⟩ _
   simp only
   split<;>rfl
  rw[e] at hx
  cases hq:scope.names.lookup x with
  | none=>rw[hq] at hx;cases hx
  | some k =>
   rw[hq] at hx
   simp only[Option.map_some,Option.some.injEq] at hx
   split at hx
   ·cases hx
   ·subst hx;exact hown _ (mem_of_lookup hq) rfl hl
 refine⟨?_,F.gl,F.bi,hC,ho,?_,?_,?_,?_⟩
 ·show(relabel scope env).kind=_;exact hk
 ·refine⟨_,hn,fun x k v hx hl e=>?_⟩
  obtain⟨h1,h2⟩:=sl k v e
  obtain⟨h3,h4⟩:=lkc x k hl h1
  rw[hkind x hx h3] at h4;cases h4
 ·intro x hx
  have hf:=Fm (env':=compEnvC scope (clo env.cells scope.names []) C env) rfl hx (fun e=>hnc _ (mem_of_lookup e) rfl)
  have hm:=mem_of_lookup hf
  refine viaP fun w zf=>?_
  obtain⟨hk',hlk⟩:=hfree _ hm rfl
  obtain⟨c,hc⟩:=Option.isSome_iff_exists.mp (Eb (cells:=env.cells) (acc:=[]) (.inl hm))
  have hc':=Bx (acc:=[]) hsome (fun w w h=>nomatch h) hc
  obtain⟨c',o,ov,a1,a2,a3,a4,a5,a6⟩:=F.cl x hk'
  rw[hc'] at a1;cases a1
  refine zf ?_
  refine⟨c,o,ov,hc,a2,a3,a4,a5,fun k v hl e=>?_⟩
  obtain⟨h1,h2⟩:=sl k v e
  obtain⟨h3,h4⟩:=lkc x k hl h1
  exact a6 _ v h4 h2
 ·intro x y c h1 h2
  exact F.ci x y c (Bx (acc:=[]) hsome (fun w w h=>nomatch h) h1) (Bx (acc:=[]) hsome (fun w w h=>nomatch h) h2)
 ·intro x y k h1 h2
  by_cases hle:on.length≤k
  ·exact F.ij x y _ (lkc x k h1 hle).2 (lkc y k h2 hle).2
  ·have own:∀ z,lkC on look z=some k→lk on z=some k:=by
    intro z e
    unfold lkC at e
    generalize hj:lk on z=o at e ⊢
    cases o with
    | some j=>exact e
    | none=>cases hl:look z with
     | none=>rw[hl] at e;cases e
     | some j=>rw[hl] at e;simp at e;omega
   have e1:=Do (own x h1)
   have e2:=Do (own y h2)
   rw[e1] at e2;cases e2;rfl
set_option tactic.hygienic true in
theorem Iw{A:Around}(ok:OkA r A){elt target:Expr}{ifs:List Expr}{tgt:XT}{pi:XB}{pe:XE}{ce:Env}{lk2:Str→Option Nat}{ρ:Rho}{h₁:Heap}{s:Shared}{I:Addr}{g:G}{i:Nat}{pD:P}{Q:List PyData→List O→Prop}{R:Result→Shared→Prop}
  (ht:SoundTL K r ce lk2 target tgt) (hi:SoundI K r ce lk2 ifs pi) (he:SoundE K r ce lk2 elt pe) (hI:h₁.get? I=none) (hnI:K.New I) (hC:h₁.get? ce.locals=none) (hρ:ρ.length=i)
  (hRR:∀ hp' ρ' h' t l m,Q l hp'→hp'[i]?=some (.lst l)→HRel K ρ' hp' h'→ρ'[i]?=some pD→Step K ρ h₁ ρ' h'→h'.Ns ce.locals m→Off ρ' ce.locals→R (.ok .next) { s with heap:=h',toks:=t })
  (n:Nat) (s':Shared) (T:TurnI K ce (Env.bare ce) lk2 s ρ h₁ I g (compL g i tgt pi pe Q) (List.IsPrefix (ρ++[pD])) n s') :
  CompTurn K.prog K.w A R elt target ifs (.ref I) (.ref pD.a) ce (fun s'=>∃ m,m<n∧TurnI K ce (Env.bare ce) lk2 s ρ h₁ I g (compL g i tgt pi pe Q) (List.IsPrefix (ρ++[pD])) m s') s':=by
 unfold CompTurn
 obtain⟨xs,vs',hp',ρ',h',t',rfl,rfl,q',F',H',Ia',ho,S',P'⟩:=T
 have gD:∀ {ρ'':Rho},(ρ++[pD]) <+: ρ''→ρ''[i]?=some pD:=fun P=>BD P (by rw[← hρ];simp)
 cases xs with
 | nil =>
  obtain⟨hg',q'⟩:=q'
  refine wpAny_mono (EU (s:={ s with heap:=h',toks:=t' }) ok.hh Ia' H' hg' hnI ho) ?_ (fun y y x=>x)
  intro _ s'' zx
  refine viaP fun y zf=>?_
  obtain⟨h'',rfl,rfl,H'',hs''⟩:=zx
  have F'':=F'.skip Ia' hs''
  obtain⟨m,hm,_⟩:=F''.ns
  have S:=S'.skip hI hs''
  obtain⟨l,e,q'⟩:=Cl q'
  refine zf ?_
  refine hRR hp' ρ' h'' t' l m q' e H'' (gD P') ⟨S.pre,S.new,fun b o e hb hm=>S.keep b o e hb hm (fun z=>?_),S.dom⟩ hm F''.lo
  rw[z.bare,hC] at e
  cases e
 | cons x xs =>
  obtain⟨hg',q'⟩:=q'
  refine wpAny_mono (Dr (s:={ s with heap:=h',toks:=t' }) Ia' H' hg' hnI ho) ?_ (fun y y x=>x)
  rintro _ s'' ⟨rx,h'',t'',rfl,rfl,dx,Ia'',H'',hs''⟩
  refine ET (s:={ s with heap:=h'',toks:=t'' }) Ia'' ?_
  have F'':=F'.skip Ia' hs''.extBut
  have S'':=S'.skip hI hs''.extBut
  clear F' H' Ia' S' hs''
  refine wpAny_mono (ht A ok (.d x) vs' _ hp' ρ' { s with heap:=h'',toks:=t'' } _ rx q' F'' H'' dx) ?_ (fun y y x=>x)
  intro _ s₃ zx
  refine viaP fun y zf=>?_
  obtain⟨vs₃,hp₃,ρ₃,h₃,t₃,rfl,q₃,F₃,H₃,S₃⟩:=zx
  obtain⟨oI,_,eI,_⟩:=id Ia''.dom
  have Ia₃:=Ia''.stepS S₃.wide F'' H'' ho.mu (H''.newTb hnI)
  have ho₃:=ho.stepS S₃ eI
  obtain⟨oI₃,_,eI₃,_⟩:=id Ia₃.dom
  have S₃':=S''.trans S₃
  refine zf ?_
  refine wpAny_mono (hi A ok vs₃ _ hp₃ ρ₃ { s with heap:=h₃,toks:=t₃ } _ q₃ F₃ H₃) ?_ (fun y y x=>x)
  rintro b s₄ ⟨hp₄,ρ₄,h₄,t₄,rfl,q₄,H₄,S₄⟩
  have F₄:=F₃.step H₃ S₄
  have Ia₄:=Ia₃.stepS S₄.toS F₃ H₃ ho₃.mu (H₃.newTb hnI)
  have ho₄:=ho₃.step S₄ eI₃
  obtain⟨oI₄,_,eI₄,_⟩:=id Ia₄.dom
  cases b with
  | false=>exact⟨xs.length,Nat.lt_succ_self _,xs,vs₃,hp₄,ρ₄,h₄,t₄,rfl,rfl,q₄,F₄,H₄,Ia₄,ho₄,S₃'.trans S₄.toS,(P'.trans S₃.pre).trans S₄.pre⟩
  | true =>
   refine wpAny_mono (he A ok vs₃ _ hp₄ ρ₄ { s with heap:=h₄,toks:=t₄ } _ q₄ F₄ H₄) ?_ (fun y y x=>x)
   intro rv s₅ zx
   refine viaP fun y zf=>?_
   obtain⟨v,hp₅,ρ₅,h₅,t₅,rfl,q₅,H₅,S₅,r₅⟩:=zx
   have F₅:=F₄.step H₄ S₅
   have Ia₅:=Ia₄.stepS S₅.toS F₄ H₄ ho₄.mu (H₄.newTb hnI)
   have ho₅:=ho₄.step S₅ eI₄
   obtain⟨oI₅,_,eI₅,_⟩:=id Ia₅.dom
   obtain⟨l₅,hl₅⟩:=Option.isSome_iff_exists.mp q₅.1
   have P₅:=((P'.trans S₃.pre).trans S₄.pre).trans S₅.pre
   refine zf ?_
   refine wpAny_mono (Av (r:=r) A ok ρ₅ hp₅ { s with heap:=h₅,toks:=t₅ } (.r i) l₅ (.ref pD.a) [v] [rv] _ _ q₅.2 H₅ ⟨_,gD P₅,rfl⟩ hl₅ (.cons r₅ .nil)) ?_ (fun y y x=>x)
   rintro _ s₆ ⟨v₆,hp₆,ρ₆,h₆,t₆,rfl,q₆,H₆,S₆,_⟩
   exact⟨xs.length,Nat.lt_succ_self _,xs,vs₃,hp₆,ρ₆,h₆,t₆,rfl,rfl,q₆,F₅.step H₅ S₆,H₆,Ia₅.stepS S₆.toS F₅ H₅ ho₅.mu (H₅.newTb hnI),ho₅.step S₆ eI₅,((S₃'.trans S₄.toS).trans S₅.toS).trans S₆.toS,P₅.trans S₆.pre⟩
theorem F8{A:Around}(ok:OkA r A){elt target iter:Expr}{ifs:List Expr}{scope:Scope}{pos:Pos}{on:List Str}{tgt:XT}{pi:XB}{pe:XE}{vs:List (Option V)}{hp:List O}{ρ:Rho}{s:Shared}{h₁:Heap}{I:Addr}{g:G}{xs:List PyData}{E:Value→Shared→Prop}
  {Q:List PyData→List O→Prop} {RR:Value→Addr→Result→Shared→Prop}
  (hk:scope.kind = .function) (hnc:∀ x∈scope.names,x.2≠.cell) (hfree:∀ x∈scope.names,x.2 = .free→(env.kindOf x.1=some .cell∨env.kindOf x.1=some .free)∧lk on x.1=none)
  (hown:∀ x∈scope.names,x.2 = .local→lk on x.1=none→look x.1=none)
  (ht:∀ cl C,SoundTL K r (compEnvC scope cl C env) (lkC on look) target tgt) (hi:∀ cl C,SoundI K r (compEnvC scope cl C env) (lkC on look) ifs pi) (he:∀ cl C,SoundE K r (compEnvC scope cl C env) (lkC on look) elt pe)
  (q:compL g hp.length tgt pi pe Q xs (List.replicate on.length none++vs) (hp++[.lst []])) (F:FRel K env look vs ρ h₁) (H:HRel K ρ hp h₁)
  (hk₁:∀ b o,h₁.get? b=some o→s.heap.get? b=some o) (hI:h₁.get? I=none) (Ia:IterAt ρ s.heap I g xs)
  (hRR:∀ D C hp' ρ' h' t l m,Q l hp'→hp'[hp.length]?=some (.lst l)→HRel K ρ' hp' h'→ρ'[hp.length]?=some ⟨D,D,[]⟩→Step K ρ h₁ ρ' h'→h'.Ns C m→h₁.get? C=none→K.New C→Off ρ' C →
   RR (.ref D) C (.ok .next) { s with heap:=h',toks:=t }) :
  wpAny (model K.prog K.w) A (newList []) (fun acc s₃=>wpAny (model K.prog K.w) A (newFunctionEnv scope env.globals (clo env.cells scope.names []) [] env.qual none .none (some env)) (fun cenv s₄ =>
   codeAny (model K.prog K.w) A (.compStart (.ListComp elt [⟨target,iter,ifs,0⟩] scope pos) 0 (.ref I) acc { cenv with scope:=relabel scope env }) (RR acc cenv.locals) s₄) E s₃) E s:=by
 have Hs:HRel K ρ hp s.heap:=H.grow hk₁
 have S₀:Step K ρ h₁ ρ s.heap:=Step.grow hk₁
 have hnI:=H.fresh hI
 refine wpAny_newList ?_ (Nat.zero_le _)
 refine wpAny_newFunctionEnv hnc (fun x hx=>nomatch hx) (fun h₂ hns hsb=>?_) hk
 dsimp only at hns hsb ⊢
 have hD:s.heap.get? s.heap.objs.size=none:=AA (Nat.le_refl _)
 generalize hC':(s.heap.push { cls:=.type "list", data:=.seq ([]:List Value).toArray }).objs.size=C at hns hsb ⊢
 have hCs:C=s.heap.objs.size+1:=by rw[← hC',Heap.size_push]
 have hCn:s.heap.get? C=none:=AA (by rw[hCs];exact Nat.le_succ _)
 have hDC:s.heap.objs.size≠C:=by rw[hCs];exact Nat.ne_of_lt (Nat.lt_succ_self _)
 have keep₂:∀ b o,(s.heap.push { cls:=.type "list", data:=.seq ([]:List Value).toArray }).get? b=some o→h₂.get? b=some o:=by
  intro b o e
  have hb:b≠C:=by rw[← hC'];exact Nat.ne_of_lt (Heap.lt_size e)
  exact(hsb.2 b hb).trans (Heap.get?_push_of_some _ e)
 have keepD:∀ b o,s.heap.get? b=some o→h₂.get? b=some o:=fun b o e=>keep₂ b o (Heap.get?_push_of_some _ e)
 have hLD:IsL h₂ s.heap.objs.size #[] 0:=keep₂ _ _ (Heap.get?_push_size _ rfl)
 obtain⟨H₂,S₂⟩:=Hs.add keepD (p:=⟨s.heap.objs.size,s.heap.objs.size,[]⟩) (o:=.lst []) hD ⟨_,hLD⟩ (fun z h=>nomatch h) ⟨rfl,#[],0,hLD,.nil⟩
 have hCoff:Off (ρ++[⟨s.heap.objs.size,s.heap.objs.size,[]⟩]) C:=by
  intro p hp
  rcases List.mem_append.mp hp with hp | hp
  ·exact Hs.off hCn p hp
  ·simp at hp;subst hp;exact⟨fun e=>hDC e.symm,fun h=>nomatch h⟩
 have hCnew:K.New C:=Hs.fresh hCn
 have F₂:FRel K env look vs (ρ++[⟨s.heap.objs.size,s.heap.objs.size,[]⟩]) h₂:=(F.step H S₀).step Hs S₂
 have Fc:=F₂.comp (on:=on) (C:=C) hk hnc hfree hown hCnew hCoff hns
 have hC₁:h₁.get? C=none:=AJ (fun b o e=>⟨o,hk₁ b o e⟩) hCn
 have Ia₂:IterAt (ρ++[⟨s.heap.objs.size,s.heap.objs.size,[]⟩]) h₂ I g xs:=by
  refine Ia.keeps (fun o e=>keepD _ _ e) (fun a o vs n e hd hm=>⟨keepD _ _ e,S₂.notMu e hm⟩) S₂.pre
 have hIoff:Off (ρ++[⟨s.heap.objs.size,s.heap.objs.size,[]⟩]) I:=by
  obtain⟨o,_,e,_⟩:=Ia.dom
  exact(H.off hI).step S₂ e
 have hIC:I≠C:=by
  obtain⟨o,_,e,_⟩:=Ia.dom
  exact AP hCn e
 have loop:∀ t,codeAny (model K.prog K.w) A (.compLoop (.ListComp elt [⟨target,iter,ifs,0⟩] scope pos) 0 (.ref I) (.ref s.heap.objs.size) (compEnvC scope (clo env.cells scope.names []) C env)) (RR (.ref s.heap.objs.size) C) { s with heap:=h₂,toks:=t }:=by
  intro t
  refine Cg (TurnI K (compEnvC scope (clo env.cells scope.names []) C env) (Env.bare (compEnvC scope (clo env.cells scope.names []) C env)) (lkC on look) s ρ h₁ I g (compL g hp.length tgt pi pe Q) (List.IsPrefix (ρ++[⟨s.heap.objs.size,s.heap.objs.size,[]⟩])))
   (fun n s' T=>by
    refine Iw (ce:=compEnvC scope (clo env.cells scope.names []) C env) (lk2:=lkC on look) (pD:=⟨s.heap.objs.size,s.heap.objs.size,[]⟩) (i:=hp.length) (R:=RR (.ref s.heap.objs.size) C) ok (ht (clo env.cells scope.names []) C) (hi (clo env.cells scope.names []) C) (he (clo env.cells scope.names []) C) hI hnI ?_ H.len ?_ n s' T
    ·exact hC₁
    ·intro hp' ρ' h' t l m q e H' hD S hm ho
     exact hRR s.heap.objs.size C hp' ρ' h' t l m q e H' hD S hm hC₁ hCnew ho) xs.length
   ⟨xs,_,_,_,h₂,t,rfl,rfl,q,Fc,H₂,Ia₂,hIoff,(S₀.trans S₂).toS,List.prefix_refl _⟩
 exact codeAny_compStart_list (loop _) (Ih (s:={ s with heap:=h₂,toks:=_ }) Ia₂ (loop _))
end
section
variable{K:KX}{r:Nat}{env:Env}{look:Str→Option Nat}
theorem comp_done'{m:Bool}{Q:V→List O→Prop}{l:List PyData}{hp hp':List O}{ρ ρ':Rho}{s:Shared}{h':Heap}{D:Addr}(q:compEnd m hp.length Q l hp')(e:hp'[hp.length]?=some (.lst l))(H':HRel K ρ' hp' h')
  (hD:ρ'[hp.length]?=some ⟨D,D,[]⟩) (S:Step K ρ s.heap ρ' h') (H:HRel K ρ hp s.heap):∃ v hp₂ ρ₂,Q v hp₂∧HRel K ρ₂ hp₂ h'∧Step K ρ s.heap ρ₂ h'∧VR ρ₂ h' v (.ref D)∧ρ₂ <+: ρ':=by
 have hl:=(List.getElem?_eq_some_iff.mp e).1
 have hlen:=H'.len
 have hρ:=H.len
 cases m with
 | false =>
  have C:=H'.cut S.pre (Ll (Tu (Qe hρ) hl))
  rw[H.len] at C
  obtain⟨e1,vs,n,h1,h2⟩:=H'.ob _ _ _ e hD
  refine⟨.d (.list l),_,ρ,q,C,S.cut,?_,S.pre⟩
  refine DR.list h1 ?_ (DRs.cut S.pre h2)
  intro hm
  obtain⟨u,hu⟩:=S.pre
  have nd:=H'.nd
  rw[← hu] at nd hD
  simp only[mu,List.map_append] at nd hm
  refine(List.nodup_append.mp nd).2.2 D hm D ?_ rfl
  rw[List.getElem?_append_right (Qe hρ)] at hD
  exact List.mem_map.mpr ⟨_,List.mem_of_getElem? hD,rfl⟩
 | true =>
  have pr:ρ'.take (hp.length+1) <+: ρ':=List.take_prefix ..
  have ll:(ρ'.take (hp.length+1)).length=hp.length+1:=by rw[List.length_take];lia
  have C:=H'.cut pr (by rw[ll];exact hl)
  rw[ll] at C
  refine⟨.r hp.length,_,_,q,C,⟨?_,fun p hp=>S.new p (pr.subset hp),S.keep,S.dom⟩,⟨⟨D,D,[]⟩,?_,rfl⟩,pr⟩
  ·refine List.prefix_take_iff.mpr ⟨S.pre,?_⟩
   rw[H.len];exact Lr
  ·rw[List.getElem?_take,if_pos (Nat.lt_succ_self _)];exact hD
theorem Ix{m:Bool}{Q:V→List O→Prop}{l:List PyData}{hp hp':List O}{ρ ρ':Rho}{s:Shared}{h':Heap}{D:Addr}(t:Nat)(q:compEnd m hp.length Q l hp')(e:hp'[hp.length]?=some (.lst l))(H':HRel K ρ' hp' h')
  (hD:ρ'[hp.length]?=some ⟨D,D,[]⟩) (S:Step K ρ s.heap ρ' h') (H:HRel K ρ hp s.heap):PostE K ρ s Q (.ref D) { s with heap:=h',toks:=t }:=by
 refine viaP fun z zf=>?_
 obtain⟨v,hp₂,ρ₂,q₂,H₂,S₂,r₂,_⟩:=comp_done' q e H' hD S H
 refine zf ?_
 exact⟨v,hp₂,ρ₂,h',t,rfl,q₂,H₂,S₂,r₂⟩
theorem Step.skipC{ρ ρ':Rho}{h h₁ h₂:Heap}{C:Addr}(S:Step K ρ h ρ' h₁)(hi:h.get? C=none)(hs:Heap.SameBut C h₁ h₂):Step K ρ h ρ' h₂:=S.skip hi hs.extBut
theorem Ew{h:Heap}{C:Addr}{m:Str→Option Value}(n:h.Ns C m):∀ o,h.get? C=some o→∀ vs k,o.data≠.seq vs k:=by
 obtain⟨o',es,ep,e',d,_⟩:=n
 intro o e vs k q
 rw[e] at e';cases e';rw[d] at q;cases q
theorem NR{elt target iter:Expr}{ifs:List Expr}{scope:Scope}{pos:Pos}(on:List Str){m:Bool}{tgt:XT}{it:XE}{pi:XB}{pe:XE}
  (hit:SoundE K r env look iter it)
  (ht:∀ cl C,SoundTL K r (compEnvC scope cl C env) (lkC on look) target tgt) (hi:∀ cl C,SoundI K r (compEnvC scope cl C env) (lkC on look) ifs pi) (he:∀ cl C,SoundE K r (compEnvC scope cl C env) (lkC on look) elt pe)
  (hk:scope.kind = .function) (hnc:∀ x∈scope.names,x.2≠.cell) (hfree:∀ x∈scope.names,x.2 = .free→(env.kindOf x.1=some .cell∨env.kindOf x.1=some .free)∧lk on x.1=none)
  (hown:∀ x∈scope.names,x.2 = .local→lk on x.1=none→look x.1=none) (hnames:∀ x∈scope.names,x.2 = .local→scope.names.lookup x.1=some .local)
  (hs:∀ x,foldedSetIterable iter env x=pure x) :
  SoundE K r env look (.ListComp elt [⟨target,iter,ifs,0⟩] scope pos) (xComp m on.length tgt it pi pe):=by
 intro A ok vs Q hp ρ s E q F H
 rw[eval_ListComp]
 have hsome:∀ x∈scope.names,x.2 = .free→(env.cells.lookup x.1).isSome=true:=by
  intro x hx hf
  obtain⟨c,_,_,a1,_⟩:=F.cl x.1 (hfree x hx hf).1
  simp[a1]
 refine wpAny_comprehension_free (use:=none) rfl hs (Ak hsome) hk hnames (hit.then ok q F H ?_)
 intro v hp₁ ρ₁ h₁ t₁ rv q₁ H₁ S₁ r₁ F₁
 refine wpAny_mono (CT (s:={ s with heap:=h₁,toks:=t₁ }) q₁ r₁ H₁) ?_ (fun z z x=>x)
 rintro _ s' ⟨I,g,xs,h₂,rfl,rfl,q₂,hg,Ia,hI,hk₂⟩
 refine F8 (s:={ s with heap:=h₂,toks:=t₁ }) (RR:=fun acc C=>compPost (model K.prog K.w) A E none (PostE K ρ s Q) acc C) ok hk hnc hfree hown ht hi he q₂ F₁ H₁ hk₂ hI Ia ?_
 intro D C hp' ρ' h' t l mm ql el H' hD S' hn hC hCn hCo
 refine⟨mm,hn,fun h'' hs''=>?_⟩
 have H'':HRel K ρ' hp' h'':=H'.other hCn hCo hs''.extBut (Ew hn)
 exact PostE.after S₁ (Ix (s:={ s with heap:=h₁,toks:=t₁ }) t ql el H'' hD (S'.skipC hC hs'') H₁)
theorem VR.but{ρ:Rho}{h h':Heap}{C:Addr}{m:Str→Option Value}(n:h.Ns C m)(hs:Heap.ExtBut C h h'){w:V}{rw':Value}(hw:VR ρ h w rw'):VR ρ h' w rw':=by
 obtain⟨o,es,ep,e,hd,_⟩:=n
 cases w with
 | d x=>exact DR.mono (fun a o' vs n e' q hm=>⟨hs a o' (by rintro rfl;rw[e] at e';cases e';rw[hd] at q;cases q) e',hm⟩) hw
 | r i=>exact hw
 | rng a b c =>
  obtain⟨qq,t,u,w,rfl,e1,hm⟩:=hw
  refine⟨qq,t,u,w,rfl,hs _ _ ?_ e1,hm⟩
  rintro rfl
  rw[e] at e1;cases e1
  cases hd
 | g v=>exact hw
theorem FRel.but{vs:List (Option V)}{ρ:Rho}{h h':Heap}{C:Addr}{m:Str→Option Value}(F:FRel K env look vs ρ h)(n:h.Ns C m)(hs:Heap.ExtBut C h h')(hne:env.locals≠C):FRel K env look vs ρ h':=by
 refine viaP fun z zf=>?_
 obtain⟨o,es,ep,e,hd,_⟩:=id n
 obtain⟨m',⟨o',es',ep',e',dd,rr⟩,f⟩:=F.ns
 refine zf ?_
 refine⟨F.kd,F.gl,F.bi,F.lb,F.lo,⟨m',⟨o',es',ep',hs _ _ hne e',dd,rr⟩,fun x k v a b c=>let ⟨rv,p,q⟩:=f x k v a b c;⟨rv,p,q.but n hs⟩⟩,?_,F.ci,F.ij⟩
 intro x hx
 obtain⟨c,o',ov,a1,a2,a3,a4,a5,a6⟩:=F.cl x hx
 refine⟨c,o',ov,a1,a2,a3,hs _ _ ?_ a4,a5,fun k v b1 b2=>let ⟨rv,p,q⟩:=a6 k v b1 b2;⟨rv,p,q.but n hs⟩⟩
 rintro rfl
 rw[e] at a4;cases a4;rw[hd] at a5;cases a5
theorem Mw{x:Str}{k:Nat}{pos' spos:Pos}{elt target iter:Expr}{ifs:List Expr}{scope:Scope}{pos:Pos}(on:List Str){m:Bool}{tgt:XT}{it:XE}{pi:XB}{pe:XE}
  (hit:SoundE K r env look iter it)
  (ht:∀ cl C,SoundTL K r (compEnvC scope cl C env) (lkC on look) target tgt) (hi:∀ cl C,SoundI K r (compEnvC scope cl C env) (lkC on look) ifs pi) (he:∀ cl C,SoundE K r (compEnvC scope cl C env) (lkC on look) elt pe)
  (hk:scope.kind = .function) (hnc:∀ x∈scope.names,x.2≠.cell) (hfree:∀ x∈scope.names,x.2 = .free→(env.kindOf x.1=some .cell∨env.kindOf x.1=some .free)∧lk on x.1=none)
  (hown:∀ x∈scope.names,x.2 = .local→lk on x.1=none→look x.1=none) (hnames:∀ x∈scope.names,x.2 = .local→scope.names.lookup x.1=some .local)
  (hs:∀ x,foldedSetIterable iter env x=pure x)
  (hkx:env.kindOf x=some .local) (hl:look x=some k) (hsw:swapsWith (.ListComp elt [⟨target,iter,ifs,0⟩] scope pos) (some (.Name x pos')) spos.line env=pure true) :
  SoundS K r env look (.Assign [.Name x pos'] (.ListComp elt [⟨target,iter,ifs,0⟩] scope pos) spos) (sAssign k (xComp m on.length tgt it pi pe)):=by
 intro A ok vs Q hp ρ s E q F H
 rw[exec_Assign_Name_used _ _ _ _ hsw]
 refine wpAny_bind (wpAny_standAt (wpAny_bind ?_))
 show wpAny _ A (do let _ ← comprehension (.ListComp elt [⟨target,iter,ifs,0⟩] scope pos) scope env _ (newList []) false (eval iter env) (some (assign (.Name x pos') env))) _ _ s
 have hsome:∀ x∈scope.names,x.2 = .free→(env.cells.lookup x.1).isSome=true:=by
  intro x hx hf
  obtain⟨c,_,_,a1,_⟩:=F.cl x.1 (hfree x hx hf).1
  simp[a1]
 refine wpAny_bind (wpAny_mono (wpAny_comprehension_free (use:=some (assign (.Name x pos') env)) (Q:=fun w s'=>PostS K env look ρ s Q .next s') rfl hs (Ak hsome) hk hnames (hit.then ok q F H ?_)) (fun w s' hq=>wpAny_pure (wpAny_pure hq)) fun w w e=>e)
 intro v hp₁ ρ₁ h₁ t₁ rv q₁ H₁ S₁ r₁ F₁
 refine wpAny_mono (CT (s:={ s with heap:=h₁,toks:=t₁ }) q₁ r₁ H₁) ?_ (fun w w x=>x)
 rintro _ s' ⟨I,g,xs,h₂,rfl,rfl,q₂,hg,Ia,hI,hk₂⟩
 refine F8 (s:={ s with heap:=h₂,toks:=t₁ }) (RR:=fun acc C=>compPost (model K.prog K.w) A E (some (assign (.Name x pos') env)) (fun w s'=>PostS K env look ρ s Q .next s') acc C) ok hk hnc hfree hown ht hi he q₂ F₁ H₁ hk₂ hI Ia ?_
 intro D C hp' ρ' h' t l mm ql el H' hD S' hn hC hCn hCo
 show wpAny _ A (assign (.Name x pos') env (.ref D)) _ _ _
 refine viaP fun w zf=>?_
 obtain⟨v₂,hp₂,ρ₂,q₃,H₃,S₃,r₃,pr⟩:=comp_done' (s:={ s with heap:=h₁,toks:=t₁ }) ql el H' hD S' H₁
 have F₃:=F₁.step H₁ S₃
 have hLC:env.locals≠C:=by
  obtain⟨m',⟨o,_,_,e,_⟩,_⟩:=F₁.ns
  exact AP hC e
 have hCo₂:Off ρ₂ C:=fun p hp=>hCo p (pr.subset hp)
 refine zf ?_
 refine wpAny_assign_Name (wpAny_mono (AV (s:={ s with heap:=h',toks:=t }) (.inl hkx) hl F₃ H₃ r₃) ?_ (fun w w x=>x))
 intro _ s₄ zx
 refine viaP fun w zf=>?_
 obtain⟨h₄,t₄,rfl,F₄,H₄,S₄⟩:=zx
 obtain⟨oC,esC,epC,eC,dC,rC⟩:=id hn
 have nP:¬ Place env C:=by
  rintro(z | ⟨y,hy,hc⟩)
  ·exact hLC z.symm
  ·obtain⟨c,o,ov,a1,_,_,a4,_⟩:=F₁.cl y (.inl hy)
   rw[hc] at a1;cases a1
   rw[hC] at a4;cases a4
 have hn₄:h₄.Ns C mm:=⟨oC,esC,epC,S₄.keep C oC eC (H'.newTb hCn) hCo₂.mu nP,dC,rC⟩
 refine zf ?_
 refine⟨mm,hn₄,fun h₅ hs₅=>?_⟩
 refine⟨.next,_,hp₂,ρ₂,h₅,t₄,rfl,q₃,F₄.but hn₄ hs₅.extBut hLC,H₄.other hCn hCo₂ hs₅.extBut (Ew hn₄),?_,trivial⟩
 exact(S₁.toS.trans (S₃.toS.trans S₄)).skip (AJ S₁.dom hC) hs₅.extBut
end
structure KF(K:KX)(Kf:W.Frag):Prop where
 inn:Kf.In K.h0
 ntb:∀ a o,Kf.lookup a=some o→a≠K.tb
theorem KF.now{K:KX}{Kf:W.Frag}{ρ:Rho}{hp:List O}{h:Heap}(X:KF K Kf)(H:HRel K ρ hp h):Kf.In h:=fun a o e=>H.keep a o (X.inn a o e) (X.ntb a o e)
theorem Cm{h:Heap}{a:Addr}{m:Str→Option Value}(n:h.Ns1 a m){o:Obj}(e:h.get? a=some o)(name:Str):W.lookIn name o=some (m name):=by
 obtain⟨o',es,ep,e',hd,hk,hu,hm⟩:=n
 rw[e] at e';cases e'
 unfold W.lookIn
 rw[hd,← hm name]
 simp only[nsFind,findBy]
 rw[← Array.find?_toList]
 cases hf:es.toList.find? (fun e=>e.key.isStr name) with
 | some en=>rfl
 | none =>
  have hany:es.toList.any (·.refKey)=false:=by
   rw[List.any_eq_false]
   intro x hx
   obtain⟨n,t,hh⟩:=hk x (by simpa using hx)
   simp[DictEntry.refKey,hh]
  simp[hany]
section
variable{K:KX}{r:Nat}{env:Env}{look:Str→Option Nat}{ρ:Rho}{hp:List O}{Kf:W.Frag}
def SoundK(K:KX)(r:Nat)(env:Env)(look:Str→Option Nat)(kws:List Keyword)(p:XL):Prop :=
 ∀ A,OkA r A→∀ pos vs Q hp ρ s E,p vs Q hp→FRel K env look vs ρ s.heap→HRel K ρ hp s.heap →
  wpAny (model K.prog K.w) A (evalAll ((backToKw pos (keywordEach kws env)).map (·.2))) (fun rvs s'=>rvs.length=kws.length∧PostL K ρ s Q rvs s') E s
theorem BH:SoundK K r env look [] lNil:=fun A ok pos vs Q hp ρ s E q F H=>wpAny_evalAll_nil ⟨rfl,_,hp,ρ,s.heap,s.toks,rfl,q,H,Step.refl ..,.nil⟩
theorem Dq{n:Option Str}{e:Expr}{kp:Pos}{kws:List Keyword}{a:XE}{p:XL}(ha:SoundE K r env look e a)(hp:SoundK K r env look kws p):SoundK K r env look (⟨n,e,kp⟩::kws) (lCons a p):=by
 intro A ok pos vs Q hp' ρ s E q F H
 show wpAny _ A (do let v ← (do let v ← eval e env;standAt pos;pure v);return v::(← holding [v] (evalAll ((backToKw pos (keywordEach kws env)).map (·.2))))) _ E s
 refine wpAny_bind (wpAny_bind (ha.then ok q F H ?_))
 intro va hp₁ ρ₁ h₁ t₁ ra q₁ H₁ S₁ r₁ F₁
 refine wpAny_bind (wpAny_standAt (wpAny_pure (wpAny_bind (wpAny_holding (wpAny_mono (hp A ok pos vs _ hp₁ ρ₁ { s with heap:=h₁,toks:=t₁ } E q₁ F₁ H₁) ?_ (fun z z x=>x))))))
 rintro rvs s' ⟨hlen,l,hp₂,ρ₂,h₂,t₂,rfl,q₂,H₂,S₂,r₂⟩
 exact wpAny_pure ⟨by simp[hlen],va::l,hp₂,ρ₂,h₂,t₂,rfl,q₂,H₂,S₁.trans S₂,.cons (r₁.step S₂ H₁) r₂⟩
noncomputable def knOf(kws:List Keyword):List Str:=kws.filterMap fun k=>match k with | ⟨n,_,_⟩=>n
theorem Hz(pos:Pos)(kws:List Keyword):(backToKw pos (keywordEach kws env)).filterMap (·.1)=knOf kws:=by
 induction kws with
 | nil=>rfl
 | cons k kws ih =>
  obtain⟨n,e,p⟩:=k
  show((n,_)::backToKw pos (keywordEach kws env)).filterMap (·.1)=_
  unfold knOf
  cases n with
  | none=>simpa [List.filterMap_cons,knOf] using ih
  | some n=>simpa [List.filterMap_cons,knOf] using ih
theorem K3{kws:List Keyword}(pos:Pos)(h:(backToKw pos (keywordEach kws env)).all (·.1.isSome)=true):(knOf kws).length=kws.length:=by
 induction kws with
 | nil=>rfl
 | cons k kws ih =>
  obtain⟨n,e,p⟩:=k
  have h':(((n,_)::backToKw pos (keywordEach kws env)).all (·.1.isSome))=true:=h
  simp only[List.all_cons,Bool.and_eq_true] at h'
  cases n with
  | none=>cases h'.1
  | some n =>
   have:=ih h'.2
   simp only[knOf] at this ⊢
   simp[List.filterMap_cons,this]
theorem Iq{A:Around}(ok:OkA r A){f:Value}{args:List Expr}{kws:List Keyword}{pos:Pos}{l k:XL}{vs:List (Option V)}{Q:List V→List O→Prop}{s:Shared}{E:Value→Shared→Prop}
  (hl:SoundL K r env look args l) (hk:SoundK K r env look kws k) (hb:(backTo pos (starEach args env)).any (·.1)=false) (hkn:(backToKw pos (keywordEach kws env)).all (·.1.isSome)=true)
  (q:l vs (fun vas=>k vs fun kas=>Q (vas++kas)) hp) (F:FRel K env look vs ρ s.heap) (H:HRel K ρ hp s.heap) :
  wpAny (model K.prog K.w) A (evalArgs f true (backTo pos (starEach args env)) (backToKw pos (keywordEach kws env)))
   (fun x s'=>∃ ks vas hp' ρ' h' t,x.kw=(knOf kws).zip ks∧ks.length=(knOf kws).length∧s'={ s with heap:=h',toks:=t }∧Q vas hp'∧HRel K ρ' hp' h'∧Step K ρ s.heap ρ' h'∧VRs ρ' h' vas (x.pos++ks)) E s:=by
 have second:∀ rvs s',PostL K ρ s (fun vas=>k vs fun kas=>Q (vas++kas)) rvs s'→wpAny (model K.prog K.w) A (evalAll ((backToKw pos (keywordEach kws env)).map (·.2)))
   (fun ks s₂=>∃ vas hp' ρ' h' t,(knOf kws).zip ks=(knOf kws).zip ks∧ks.length=(knOf kws).length∧s₂={ s with heap:=h',toks:=t }∧Q vas hp'∧HRel K ρ' hp' h'∧Step K ρ s.heap ρ' h'∧VRs ρ' h' vas (rvs++ks)) E s':=by
  rintro rvs s' ⟨vas,hp₁,ρ₁,h₁,t₁,rfl,q₁,H₁,S₁,r₁⟩
  refine wpAny_mono (hk A ok pos vs _ hp₁ ρ₁ { s with heap:=h₁,toks:=t₁ } E q₁ (F.step H S₁) H₁) ?_ (fun z z x=>x)
  rintro ks s₂ ⟨hlen,kas,hp₂,ρ₂,h₂,t₂,rfl,q₂,H₂,S₂,r₂⟩
  exact⟨vas++kas,hp₂,ρ₂,h₂,t₂,rfl,by rw[K3 pos hkn,hlen],rfl,q₂,H₂,S₁.trans S₂,(r₁.step S₂ H₁).append r₂⟩
 have base:=hl A ok pos vs _ hp ρ s E q F H
 revert base hb
 generalize backTo pos (starEach args env)=T
 intro hb base
 cases T with
 | nil =>
  refine evalArgs_kw_nil hkn (fun Γ p hΓ=>?_)
  have:=(wpAny_mono base second (fun z z x=>x)) Γ p hΓ Γ p hΓ
  rw[Hz]
  refine Sem.wp_mono _ _ _ ?_ (fun z z z x=>x) _ _ this
  intro ks p' s' zx
  refine viaP fun z zf=>?_
  obtain⟨vas,hp',ρ',h',t,x⟩:=zx
  refine zf ?_
  exact⟨ks,vas,hp',ρ',h',t,x⟩
 | cons x rest =>
  obtain⟨b,t⟩:=x
  simp only[List.any_cons,Bool.or_eq_false_iff] at hb
  obtain⟨rfl,_⟩:=hb
  refine evalArgs_kw hkn (wpAny_mono base ?_ (fun z z x=>x))
  intro rvs s' x
  refine wpAny_mono (second rvs s' x) ?_ (fun z z x=>x)
  intro ks s₂ zx
  refine viaP fun z zf=>?_
  obtain⟨vas,hp',ρ',h',t,x⟩:=zx
  refine zf ?_
  rw[Hz]
  exact⟨ks,vas,hp',ρ',h',t,x⟩
def atI(v:V)(hp:List O)(C:Addr)(k:Nat→List (Nat×V)→Prop):Prop:=match v with
 | .r i=>match hp[i]? with | some (.inst c fs)=>c=C∧k i fs | _=>False
 | _=>False
inductive AtI(K:KX)(ρ:Rho)(hp:List O)(h:Heap)(v:V)(rv:Value)(C:Addr)(k:Nat→List (Nat×V)→Prop):Prop
 | mk (i:Nat) (p:P) (fs:List (Nat×V)) (ox od:Obj) (m:Str→Option Value) (e1:v = .r i) (e2:rv = .ref p.a) (q:k i fs) (e3:hp[i]?=some (.inst C fs)) (e4:ρ[i]?=some p) (e5:W.InstAt h p.a ox C (some od)) (e6:ox.dict=some p.m)
   (e7:h.get? p.m=some od) (e8:h.Ns1 p.m m)
   (e9:∀ k x,K.attrs[k]?=some x→match fs.lookup k with
    | some v=>Held ρ h (m x) v∧(∀ j,v = .r j→j<i)∧isField v
    | none=>m x=none) (e10:∀ x,x ∉ K.attrs→m x=none)
set_option tactic.hygienic true in
theorem Dc{h:Heap}{v:V}{rv:Value}{C:Addr}{k:Nat→List (Nat×V)→Prop}(q:atI v hp C k)(H:HRel K ρ hp h)(hv:VR ρ h v rv) :
    AtI K ρ hp h v rv C k:=by
  cases v with
  | r i =>
    obtain⟨p,ep,rfl⟩:=hv
    unfold atI at q
    dsimp only at q
    generalize e:hp[i]?=o at q
    cases o with
    | none=>exact q.elim
    | some o=>cases o with
     | inst c fs =>
      obtain⟨rfl,q⟩:=q
      obtain⟨o,od,m,h1,h2,h3,h4,h5,h7,h8,h9,h10,h11⟩:=H.at e ep
      refine⟨i,p,fs,o,od,m,rfl,rfl,q,e,ep,⟨h1,h2,by unfold W.notCls;rw[h4],?_⟩,h3,h7,h9,h10,h11⟩
      rw[h3];exact h7
     | _=>exact q.elim
  | _=>exact q.elim
theorem Ik{h:Heap}{v:V}{rv:Value}(hv:VR ρ h v rv):W.handedIn rv=true:=by
 cases v with
 | d x=>cases hv<;>rfl
 | r i=>obtain⟨p,_,rfl⟩:=hv;rfl
 | rng a b c=>obtain⟨q,_,_,_,rfl,_⟩:=hv;rfl
 | g v=>obtain⟨rfl,h⟩:=hv;cases rv<;>first | rfl | exact h.elim
def getF(C:Addr)(k:Nat)(v:V)(Q:V→List O→Prop)(hp:List O):Prop:=atI v hp C fun z fs=>match fs.lookup k with | some w=>Q w hp | none=>False
theorem Il(X:KF K Kf){C:Addr}{k:Nat}{x:Str}{attr:Option Value}{expr:Bool}(hx:K.attrs[k]?=some x)(hg:W.plainGet Kf C x=true)(hh:W.hasDictIn Kf C=true)(ha:W.findIn Kf (.ref C) x=some attr)(hn:W.noGet Kf attr=true) :
  Sound1 K r (fun v=>getAttr v x expr) (getF C k):=by
 intro A ok ρ hp s va ra Q E q H hv
 obtain⟨i,p,fs,ox,od,m,rfl,rfl,qq,e,ep,I,hd,ho,n,hf,_⟩:=Dc q H hv
 have hf:=hf k x hx
 clear q
 generalize hw:fs.lookup k=o at hf qq
 cases o with
 | none=>exact qq.elim
 | some w =>
  obtain⟨⟨rv,hm,hr⟩,_⟩:=hf
  refine W.get_value (X.now H) I (W.plainGet_of hg).1 (W.findObj_own hh ha hn (by rw[Cm n ho,hm])) (Ik hr) ?_
  exact PostE.pure _ qq H hr
end
section
variable{K:KX}{r:Nat}{env:Env}{look:Str→Option Nat}{ρ:Rho}{hp:List O}{Kf:W.Frag}
def xUn(f:V→(V→List O→Prop)→List O→Prop)(a:XE):XE:=fun vs Q=>a vs fun v=>f v Q
theorem CU{value:Expr}{attr:Str}{pos:Pos}{f:V→(V→List O→Prop)→List O→Prop}{a:XE}(hf:Sound1 K r (fun v=>getAttr v attr true) f)(ha:SoundE K r env look value a)
  (he:eval (.Attribute value attr pos) env=(do
   let o ← eval value env
   standAt pos.atName
   let r ← holding [o] (getAttr o attr true)
   letTemporaryGo value o r
   pure r)) (hg:∀ o r,letTemporaryGo value o r=pure ()):SoundE K r env look (.Attribute value attr pos) (xUn f a):=by
 intro A ok vs Q hp ρ s E q F H
 rw[he]
 refine wpAny_bind (ha.then ok q F H ?_)
 intro va hp₁ ρ₁ h₁ t₁ ra q₁ H₁ S₁ r₁ F₁
 refine wpAny_bind (wpAny_standAt (wpAny_bind (wpAny_holding (wpAny_mono (hf A ok ρ₁ hp₁ { s with heap:=h₁,toks:=t₁ } va ra Q E q₁ H₁ r₁) ?_ (fun z z x=>x)))))
 intro rv s' p
 rw[hg]
 exact wpAny_bind (wpAny_pure (wpAny_pure (PostE.after S₁ p)))
noncomputable def putFs(k:Nat)(w:V)(fs:List (Nat×V)):List (Nat×V):=(k,w)::fs.filter (fun x=>x.1 != k)
theorem Bu(k j:Nat)(w:V)(fs:List (Nat×V)):(putFs k w fs).lookup j=if j=k then some w else fs.lookup j:=by
 unfold putFs
 rw[List.lookup_cons]
 by_cases h:j=k
 ·subst h;simp
 ·have hb:(j == k)=false:=by simpa using h
  rw[hb,if_neg h]
  simp only
  induction fs with
  | nil=>rfl
  | cons x fs ih =>
   obtain⟨n,v⟩:=x
   rw[List.filter_cons]
   split
   ·rw[List.lookup_cons,List.lookup_cons,ih]
   ·rename_i hn
    have:n=k:=by simpa using hn
    subst this
    rw[List.lookup_cons,hb,ih]
def setF(C:Addr)(k:Nat)(v w:V)(Q:List O→Prop)(hp:List O):Prop:=atI v hp C fun i fs=>((match w with | .r j=>j<i | .rng ..=>False | .g _=>False | _=>True):Prop)∧Q (hp.set i (.inst C (putFs k w fs)))
inductive SetW(K:KX)(ρ:Rho)(Q:List O→Prop)(s s':Shared):Prop
 | mk (hp':List O) (h':Heap) (t:Tok):s'={ s with heap:=h',toks:=t }→Q hp'→HRel K ρ hp' h'→Step K ρ s.heap ρ h'→SetW K ρ Q s s'
theorem IQ(X:KF K Kf){C:Addr}{k:Nat}{x:Str}(hx:K.attrs[k]?=some x)(huniq:∀ j,K.attrs[j]?=some x→j=k)(hl:K.attrs.length≤1000)(hs:W.findIn Kf (.ref C) "__setattr__" = some (some (.builtin "object.__setattr__")))
  (hov:W.plainOver Kf C=true) (ht:W.takerIn Kf C x=some none) (hh:W.hasDictIn Kf C=true) {A:Around} {ρ:Rho} {hp:List O} {s:Shared} {v w:V} {rv rw':Value} {Q:List O→Prop} {E:Value→Shared→Prop}
  (q:setF C k v w Q hp) (H:HRel K ρ hp s.heap) (hv:VR ρ s.heap v rv) (hw:VR ρ s.heap w rw') :
  wpAny (model K.prog K.w) A (setAttr rv x rw') (fun _x=>SetW K ρ Q s) E s:=by
 obtain⟨i,p,fs,ox,od,m,rfl,rfl,qq,e,ep,I,hd,ho,n,hf,hout⟩:=Dc q H hv
 clear q
 have q:=qq
 clear qq
 obtain⟨hlow,q⟩:=q
 have hpm:=List.mem_of_getElem? ep
 obtain⟨oo,oo',mm,g1,g2,g3,g4,g5,g7,g8,g9,g10,g11⟩:=H.at e ep
 refine W.set_plain (X.now H) I hs (W.osa_open (s:={ s with toks:=s.toks+1 }) (X.now H) I hov ht fun b=>?_)
 obtain⟨cd,hc,hd'⟩:=W.any_some hh
 obtain⟨hxo,hcl,hn,-⟩:=I
 obtain⟨oc,odi,oda,osl⟩:=ox
 dsimp only at hcl hd
 subst hcl hd
 refine wpAny_bind (wpAny_pure (wpAny_bind (wpAny_bind (wpAny_loadPart hxo (wpAny_bind (W.Looks.here (s:={ s with toks:=s.toks+1 }) (W.looks_clsIn (X.now H) hc) ?_))))))
 rw[hd']
 refine wpAny_pure (a:=some p.m) (wpAny_bind (wpAny_pure (wpAny_bind ?_)))
 refine wpAny_nsSet1EFk (s:={ s with toks:=s.toks+1 }) n fun h' n' hsb hcls=>?_
 have hwn:Within (fun y=>if y=x then some rw' else m y) K.attrs:=by
  intro y hy
  apply Classical.byContradiction
  intro hn'
  apply hy
  have:y≠x:=by rintro rfl;exact hn' (List.mem_of_getElem? hx)
  simp[this,hout y hn']
 obtain⟨o₂,es₂,ep₂,e₂,d₂,z₂⟩:=n'.count hwn
 refine wpAny_bind (wpAny_lookBehind e₂ (by rw[d₂];exact pastItsLine_dict (by rw[sizeLine_eq];omega)) ?_)
 refine wpAny_pure ?_
 have S:Step K ρ s.heap ρ h':=Step.own hpm hsb ⟨_,e₂⟩
 refine viaP fun _x zf=>?_
 obtain⟨od',e3,c3,_⟩:=hcls od ho
 have hox:h'.get? p.a=some ⟨.ref C,some p.m,oda,osl⟩:=by
  have hne:p.a≠p.m:=by
   intro z
   have:=(H.fx p hpm p.a g5).1
   exact this (z ▸ List.mem_map.mpr ⟨p,hpm,rfl⟩)
  exact(hsb.2 _ hne).trans hxo
 refine zf ?_
 refine⟨hp.set i (.inst C (putFs k w fs)),h',_,rfl,q,?_,S⟩
 refine H.own ep (List.getElem?_eq_some_iff.mp e).1 hsb ?_ ⟨_,e₂⟩
 rw[g1] at hxo;cases hxo
 rw[g7] at ho;cases ho
 refine⟨_,od',_,hox,rfl,rfl,g4,g5,e3,by rw[c3];exact g8,n',?_,?_⟩
 ·intro j y hy
  rw[Bu]
  by_cases hj:j=k
  ·subst hj
   rw[if_pos rfl]
   rw[hx] at hy;cases hy
   refine⟨⟨rw',by simp,hw.step S H⟩,?_,?_⟩
   ·rintro j rfl;exact hlow
   ·cases w with
    | rng=>exact hlow.elim
    | g=>exact hlow.elim
    | _=>trivial
  ·rw[if_neg hj]
   have hyx:y≠x:=by rintro rfl;exact hj (huniq j hy)
   have:=hf j y hy
   revert this
   cases fs.lookup j with
   | none=>intro z;simp[hyx,z]
   | some u=>rintro⟨⟨ru,z1,z2⟩,z3,z4⟩;exact⟨⟨ru,by simp[hyx,z1],z2.step S H⟩,z3,z4⟩
 ·intro y hy
  have hyx:y≠x:=by rintro rfl;exact hy (List.mem_of_getElem? hx)
  simp[hyx,hout y hy]
end
section
variable{K:KX}{r:Nat}{env:Env}{look:Str→Option Nat}{ρ:Rho}{hp:List O}{Kf:W.Frag}
def SoundSet(K:KX)(x:Str)(p:V→V→(List O→Prop)→List O→Prop):Prop :=
 ∀ A ρ hp s v w rv rw' Q E,p v w Q hp→HRel K ρ hp s.heap→VR ρ s.heap v rv→VR ρ s.heap w rw' →
  wpAny (model K.prog K.w) A (setAttr rv x rw') (fun z=>SetW K ρ Q s) E s
def sSetF(p:V→V→(List O→Prop)→List O→Prop)(o value:XE):XS:=fun vs Q=>value vs fun w=>o vs fun v=>p v w fun hp=>Q .next vs hp
theorem FP{x:Str}{p:V→V→(List O→Prop)→List O→Prop}{o value:Expr}{pos' pos:Pos}{a b:XE}(hp:SoundSet K x p)(ha:SoundE K r env look o a)(hb:SoundE K r env look value b)
  (hs:swapsWith value (some (.Attribute o x pos')) pos.line env=pure false):SoundS K r env look (.Assign [.Attribute o x pos'] value pos) (sSetF p a b):=by
 intro A ok vs Q hp' ρ s E q F H
 refine plainObj_wpAny_Assign_Attribute (hb.then ok q F H ?_) hs
 intro w hp₁ ρ₁ h₁ t₁ rw' q₁ H₁ S₁ r₁ F₁
 refine ha.then ok (s:={ s with heap:=h₁,toks:=t₁ }) q₁ F₁ H₁ ?_
 intro v hp₂ ρ₂ h₂ t₂ rv q₂ H₂ S₂ r₂ F₂
 refine wpAny_mono (hp A ρ₂ hp₂ { s with heap:=h₂,toks:=t₂ } v w rv rw' _ E q₂ H₂ r₂ (r₁.step S₂ H₁)) ?_ (fun z z x=>x)
 rintro _ s' ⟨hp₃,h₃,t₃,rfl,q₃,H₃,S₃⟩
 exact⟨.next,vs,hp₃,ρ₂,h₃,t₃,rfl,q₃,F₂.step H₂ S₃,H₃,((S₁.trans S₂).trans S₃).toS,trivial⟩
def sAugF(g:V→(V→List O→Prop)→List O→Prop)(op:V→V→(V→List O→Prop)→List O→Prop)(p:V→V→(List O→Prop)→List O→Prop)(o value:XE):XS :=
 fun vs Q=>o vs fun v=>g v fun old=>value vs fun w=>op old w fun new=>p v new fun hp=>Q .next vs hp
theorem Mx{x:Str}{g:V→(V→List O→Prop)→List O→Prop}{op:V→V→(V→List O→Prop)→List O→Prop}{oper:Operator}{p:V→V→(List O→Prop)→List O→Prop}{o value:Expr}{pos' pos:Pos}{a b:XE}
  (hg:Sound1 K r (fun v=>getAttr v x true) g) (hop:Sound2 K r (inplaceOp oper) op) (hp:SoundSet K x p) (ha:SoundE K r env look o a) (hb:SoundE K r env look value b) :
  SoundS K r env look (.AugAssign (.Attribute o x pos') oper value pos) (sAugF g op p a b):=by
 intro A ok vs Q hp' ρ s E q F H
 refine wpAny_AugAssign_AttributeAny (ha.then ok q F H ?_)
 intro v hp₁ ρ₁ h₁ t₁ rv q₁ H₁ S₁ r₁ F₁
 refine wpAny_mono (hg A ok ρ₁ hp₁ { s with heap:=h₁,toks:=t₁ } v rv _ E q₁ H₁ r₁) ?_ (fun z z x=>x)
 rintro ro s' ⟨old,hp₂,ρ₂,h₂,t₂,rfl,q₂,H₂,S₂,r₂⟩
 have F₂:=F₁.step H₁ S₂
 refine hb.then ok (s:={ s with heap:=h₂,toks:=t₂ }) q₂ F₂ H₂ ?_
 intro w hp₃ ρ₃ h₃ t₃ rw' q₃ H₃ S₃ r₃ F₃
 refine wpAny_mono (hop A ok ρ₃ hp₃ { s with heap:=h₃,toks:=t₃ } old w ro rw' _ E q₃ H₃ (r₂.step S₃ H₂) r₃) ?_ (fun z z x=>x)
 rintro rn s' ⟨new,hp₄,ρ₄,h₄,t₄,rfl,q₄,H₄,S₄,r₄⟩
 refine wpAny_mono (hp A ρ₄ hp₄ { s with heap:=h₄,toks:=t₄ } v new rv rn _ E q₄ H₄ (((r₁.step S₂ H₁).step S₃ H₂).step S₄ H₃) r₄) ?_ (fun z z x=>x)
 rintro _ s' ⟨hp₅,h₅,t₅,rfl,q₅,H₅,S₅⟩
 exact⟨.next,vs,hp₅,ρ₄,h₅,t₅,rfl,q₅,(F₃.step H₃ S₄).step H₄ S₅,H₅,((((S₁.trans S₂).trans S₃).trans S₄).trans S₅).toS,trivial⟩
theorem Gy(X:KF K Kf){C:Addr}{k:Nat}{x:Str}(hx:K.attrs[k]?=some x)(huniq:∀ j,K.attrs[j]?=some x→j=k)(hl:K.attrs.length≤1000)(hs:W.findIn Kf (.ref C) "__setattr__" = some (some (.builtin "object.__setattr__")))
  (hov:W.plainOver Kf C=true) (ht:W.takerIn Kf C x=some none) (hh:W.hasDictIn Kf C=true):SoundSet K x (setF C k) :=
 fun A ρ hp s v w rv rw' Q E q H hv hw=>IQ X hx huniq hl hs hov ht hh q H hv hw
def xMeth(C:Addr)(F:FT)(a:XE)(l k:XL):XE:=fun vs Q=>a vs fun v hp=>(atI v hp C fun z z=>True)∧l vs (fun vas=>k vs fun kas=>F (v::(vas++kas)) Q) hp
theorem NO(X:KF K Kf){C f:Addr}{fd:FuncData}{body:List Stmt}{o:Expr}{name:Str}{args:List Expr}{kws:List Keyword}{apos pos:Pos}{F:FT}{a:XE}{l k:XL}
  (hF:SoundF K r (.ref f) (knOf kws) F) (Y:FnAt K f fd body) (ho:SoundE K r env look o a) (hl:SoundL K r env look args l) (hk:SoundK K r env look kws k)
  (hg:W.plainGet Kf C name=true) (hf:W.findIn Kf (.ref C) name=some (some (.ref f))) (ht:W.typeIn Kf (.ref f)=some (.type "function")) (hn:name ∉ K.attrs)
  (hbase:attributeBase o name env (eval o env)=eval o env) (hb:(backTo pos (starEach args env)).any (·.1)=false) (hkn:(backToKw pos (keywordEach kws env)).all (·.1.isSome)=true)
  (hform:methodCallForm (args.length+kws.length) (backTo pos (starEach args env)) (backToKw pos (keywordEach kws env))=true) (hline:(apos.endLine == pos.line)=true) :
  SoundE K r env look (.Call (.Attribute o name apos) args kws pos) (xMeth C F a l k):=by
 intro A ok vs Q hp ρ s E q FR H
 rw[arm_eval_Call,hbase]
 refine wpAny_bind (ho.then ok q FR H ?_)
 intro v hp₁ ρ₁ h₁ t₁ rv q₁ H₁ S₁ r₁ F₁
 refine wpAny_bind (wpAny_standAt ?_)
 have hpos:methodCallPos true o env apos pos=pure pos:=by unfold methodCallPos;simp[hline]
 unfold methodCall
 rw[hform]
 obtain⟨i,p,fs,ox,od,m,rfl,rfl,_,e,ep,I,hd,hod,n,hfld,hout⟩:=Dc q₁.1 H₁ r₁
 refine wpAny_bind (wpAny_holding (W.method_fn (s:={ s with heap:=h₁,toks:=t₁ }) (X.now H₁) I (W.plainGet_of hg).1 (W.plainGet_of hg).2 hf ht ?_ ?_))
 ·unfold W.shadowIn
  simp only
  rw[Cm n hod,hout name hn];rfl
 refine wpAny_bind (wpAny_of_eq hpos ?_)
 obtain⟨of,hof,hdf⟩:=Y.ob
 refine callWith_function_kw (o:=of) (fd:=fd) ?_
 refine wpAny_mono (Iq (s:={ s with heap:=h₁,toks:=t₁ }) (Q:=fun l=>F (V.r i::l) Q) ok hl hk hb hkn q₁.2 F₁ H₁) ?_ (fun y y x=>x)
 intro x s' zx
 refine viaP fun y zf=>?_
 obtain⟨ks,vas,hp₂,ρ₂,h₂,t₂,hkw,hlen,rfl,q₂,H₂,S₂,r₂⟩:=zx
 refine zf ?_
 refine⟨⟨H₂.keep _ _ hof Y.tb,hdf⟩,?_⟩
 rw[hkw]
 have r₁':VR ρ₂ h₂ (.r i) (.ref p.a):=r₁.step S₂ H₁
 exact wpAny_mono (hF.call A ok ρ₂ hp₂ { s with heap:=h₂,toks:=t₂ } _ ([.ref p.a]++x.pos) ks Q E hlen q₂ H₂ (by rw[List.append_assoc];exact .cons r₁' r₂)) (fun y y z=>PostE.after (S₁.trans S₂) z) (fun y y z=>z)
end
section
variable{K:KX}{mg mb:Str→Option Value}{r:Nat}{env:Env}{look:Str→Option Nat}{ρ:Rho}{hp:List O}{Kf:W.Frag}
def xG(v:Value):XE:=fun z Q=>Q (.g v)
theorem KQ(G:KG K mg mb){f:Str}{a:Addr}{p:Pos}(hk:env.kindOf f=some .globalImplicit)(hg:mg f=some (.ref a))(hd:(f == ("__debug__" : Str))=false):SoundE K r env look (.Name f p) (xG (.ref a)):=by
 intro A ok vs Q hp ρ s E q FR H
 refine Calls.Name_function_global FR.kd hk (Calls.loadGlobal_global (mg:=mg) ?_ hg (PostE.pure0 q H ⟨rfl,trivial⟩)) hd
 rw[FR.gl];exact H.nsOf G.g G.g'
theorem I8(G:KG K mg mb){f:Str}{T:String}{p:Pos}(hk:env.kindOf f=some .globalImplicit)(hg:mg f=none)(hm:mb f=some (.type T))(hd:(f == ("__debug__" : Str))=false):SoundE K r env look (.Name f p) (xG (.type T)):=by
 intro A ok vs Q hp ρ s E q FR H
 refine Calls.Name_function_global FR.kd hk (Calls.loadGlobal_builtin (mg:=mg) (mb:=mb) ?_ hg ?_ hm (PostE.pure0 q H ⟨rfl,trivial⟩)) hd
 ·rw[FR.gl];exact H.nsOf G.g G.g'
 ·rw[FR.bi];exact H.nsOf G.b G.b'
noncomputable def tyOf:PyData→Option String
 | .str _=>some "str"
 | .list _=>some "list"
 | _=>none
def fType:FT:=fun vas Q hp=>match vas with
 | [v]=>match dget v hp with | some x=>(match tyOf x with | some T=>Q (.g (.type T)) hp | none=>False) | none=>False
 | _=>False
set_option tactic.hygienic true in
theorem KN:SoundV K r (.type "type") fType:=by
 intro A ok ρ hp s vas ras Q E q H R
 cases R with
 | nil=>exact q.elim
 | cons a b=>cases b with
  | cons=>exact q.elim
  | nil =>
   rename_i v rv
   have fin:∀ T,s.TypeIs rv T→(T = "str" ∨ T = "list")→Q (.g (.type T)) hp→wpAny (model K.prog K.w) A (call (.type "type") [rv]) (PostE K ρ s Q) E s:=by
    intro T key h q
    refine call_type_of key ?_ (PostE.pure0 q H ⟨rfl,trivial⟩)
    rcases h with rfl | rfl<;>decide
   cases v with
   | d y=>cases y with
    | str=>cases a;exact fin _ (typeIs_str _ _ _) (.inl rfl) q
    | list=>cases a with | list h1=>exact fin _ ⟨_,h1,rfl⟩ (.inr rfl) q
    | _=>exact q.elim
   | r i =>
    obtain⟨p,ep,rfl⟩:=a
    cases e:dget (.r i) hp with
    | none=>change (match dget (.r i) hp with | some x=>_ | none=>False) at q;rw[e] at q;exact q.elim
    | some x =>
     obtain⟨l,hl,rfl⟩:=KU e
     obtain⟨ha,vs,n,hL,_⟩:=H.at hl ep
     change (match dget (.r i) hp with | some x=>_ | none=>False) at q
     rw[e] at q
     exact fin "list" ⟨_,ha ▸ hL,rfl⟩ (.inr rfl) q
   | _=>exact q.elim
noncomputable def tyV:V→Option String | .g (.type T)=>some T | _=>none
theorem Hc{v:V}{T:String}(h:tyV v=some T):v = .g (.type T):=by
 cases v with
 | g w=>cases w<;>cases h<;>rfl
 | _=>cases h
def opIsT(neg:Bool):Op2:=fun va vb Q hp=>match tyV va with | some T=>(match tyV vb with | some U=>Q (.d (.bool (if neg then !(Value.type T == Value.type U) else (Value.type T == Value.type U)))) hp | none=>False) | none=>False
theorem I5{neg:Bool}{va vb:V}{Q:V→List O→Prop}{hp:List O}(q:opIsT neg va vb Q hp):∃ T U,va = .g (.type T)∧vb = .g (.type U)∧Q (.d (.bool (if neg then !(Value.type T == Value.type U) else (Value.type T == Value.type U)))) hp:=by
 unfold opIsT at q
 cases e1:tyV va with
 | none=>rw[e1] at q;exact q.elim
 | some T=>cases e2:tyV vb with
  | none=>rw[e1,e2] at q;exact q.elim
  | some U=>rw[e1,e2] at q;exact⟨T,U,Hc e1,Hc e2,q⟩
theorem O5:Sound2 K r (compareOp .Is) (opIsT false):=by
 intro A ok ρ hp s va vb ra rb Q E q H ha hb
 obtain⟨T,U,rfl,rfl,q⟩:=I5 q
 ·obtain⟨rfl,_⟩:=ha
  obtain⟨rfl,_⟩:=hb
  exact wpAny_is_plain rfl (PostE.pure0 q H (.bool _))
theorem JQ:Sound2 K r (compareOp .IsNot) (opIsT true):=by
 intro A ok ρ hp s va vb ra rb Q E q H ha hb
 obtain⟨T,U,rfl,rfl,q⟩:=I5 q
 ·obtain⟨rfl,_⟩:=ha
  obtain⟨rfl,_⟩:=hb
  exact wpAny_isNot_plain rfl (PostE.pure0 q H (.bool _))
end
section
variable{K:KX}{mg mb:Str→Option Value}{r:Nat}{env:Env}{look:Str→Option Nat}{ρ:Rho}{hp:List O}{Kf:W.Frag}
theorem OV(G:KG K mg mb)(X:KF K Kf){f:Str}{C:Addr}{e:Expr}{rest:List Expr}{p pos:Pos}{F:FT}{l:XL}(hF:SoundF K r (.ref C) [] F)(hl:SoundL K r env look (e::rest) l)
  (hkp:W.keepIn Kf (.ref C)=true) (hk:env.kindOf f=some .globalImplicit) (hg:mg f=some (.ref C)) (hd:(f == ("__debug__" : Str))=false)
  (he:starEach (e::rest) env=(false,eval e env)::starEach rest env) (hplain:(backTo pos (starEach rest env)).any (·.1)=false) :
  SoundE K r env look (.Call (.Name f p) (e::rest) [] pos) (xCall F l):=by
 intro A ok vs Q hp ρ s E q FR H
 refine wpAny_Call_Name_kw (Calls.Name_function_global FR.kd hk (Calls.loadGlobal_global (mg:=mg) ?_ hg ?_) hd)
 ·rw[FR.gl];exact H.nsOf G.g G.g'
 refine W.callWith_K X.inn hkp (wpAny_mono (hl A ok pos vs _ hp ρ s E q FR H) ?_ (fun z z x=>x)) he hplain
 rintro rvs s' ⟨l,hp₁,ρ₁,h₁,t₁,rfl,q₁,H₁,S₁,r₁⟩
 refine⟨X.now H₁,?_⟩
 exact wpAny_mono (hF.call A ok ρ₁ hp₁ { s with heap:=h₁,toks:=t₁ } l rvs [] Q E rfl q₁ H₁ (by rw[List.append_nil];exact r₁)) (fun z z x=>PostE.after S₁ x) (fun z z x=>x)
end
section
variable{K:KX}{mg mb:Str→Option Value}{r:Nat}{env:Env}{look:Str→Option Nat}{ρ:Rho}{hp:List O}{Kf:W.Frag}
end
section
variable{K:KX}
theorem Kh{fd:FuncData}{kn ps:List Str}(h:∀ ras ks:List Value,ks.length=kn.length→ras.length+ks.length=ps.length→bindArgs fd ⟨ras,kn.zip ks⟩=pure (ps.zip (ras++ks))):SoundBind K fd kn ps (bPlain ps.length):=by
 intro A hh ρ hp s vas ras ks Q E hk q H R
 have hl:=R.length
 rw[List.length_append] at hl
 have hq:=q.1
 rw[h ras ks hk (by lia)]
 exact wpAny_pure ⟨vas,ras++ks,hp,ρ,s.heap,s.toks,rfl,rfl,by rw[List.length_append];lia,q.2,H,Step.refl ..,R⟩
def bStar:BT:=fun vas Q hp=>match vas with
 | v::rest=>match datas rest with | some ds=>ds.length≤sizeLine∧Q [v,.d (.tuple ds)] hp | none=>False
 | []=>False
set_option tactic.hygienic true in
theorem Nb{fd:FuncData}{p1 p2:Str}(h:∀ (a:Value) (rest:List Value),bindArgs fd ⟨a::rest,[]⟩=(newTuple rest >>= fun t=>pure [(p1,a),(p2,t)])):SoundBind K fd [] [p1,p2] bStar:=by
 intro A hh ρ hp s vas ras ks Q E hk q H R
 cases ks with
 | cons _ _=>simp at hk
 | nil =>
  rw[List.append_nil] at R
  cases R with
  | nil=>exact q.elim
  | @cons v rest ra rs a b =>
   unfold bStar at q
   dsimp only at q
   generalize e:datas rest=o at q
   cases o with
   | none=>exact q.elim
   | some ds =>
    have d:=Dt b e
    have hz:=d.length
    rw[show([]:List Str).zip ([]:List Value)=[] from rfl,h]
    refine wpAny_bind (wpAny_newTuple ?_ (Tt (Qe hz) q.1))
    refine wpAny_pure ⟨[v,.d (.tuple ds)],[ra,.ref s.heap.objs.size],hp,ρ,_,s.toks,rfl,rfl,rfl,q.2,H.push _,Step.push ..,?_⟩
    exact .cons (a.step (Step.push K ..) H) (.cons (.tuple (n:=0) (vs:=rs.toArray) (Heap.get?_push_size _ rfl) H.sizeMu (d.step (Step.push K ..) H)) .nil)
end
theorem D0{M:Model}{A:Around}{E:Value→Shared→Prop}{s:Shared}{f:Value}{pos:List Value}{Q:Value→Shared→Prop}
  (hc:codeAny M A (.call f ⟨pos,[]⟩) (fun r s'=>match r with | .ok (.ret v)=>Q v s' | .ok _=>False | .error e=>E e s') s):wpAny M A (callBorrowed f pos) Q E s:=by
 intro Γ p hΓ
 have h:=hc (Γ.enter (.call f ⟨pos,[]⟩) none p) p rfl (hΓ.enter _ none p (by intro x;cases x))
 have e:Sem.wp M Γ (callBorrowed f pos) (fun a z s'=>Q a s') (fun e z s'=>E e s') p s =
   wpCode M (Γ.enter (.call f ⟨pos,[]⟩) none p) (fun r s'=>match r with | .ok (.ret v)=>Q v s' | .ok _=>False | .error e=>E e s') p s:=by
  unfold callBorrowed
  show wpCode M _ _ p s=_
  congr 1
  funext r s'
  cases r with
  | error e=>rfl
  | ok f=>cases f<;>rfl
 rw[e];exact h
theorem slot_ci:Slot "callable_iterator" "__next__" "callable_iterator.__next__" :=
 .of (owner := "callable_iterator") (n := "__next__") (by rw[typeLookup_type,builtinLookup_eq_fast];kernel_rfl) (by decide +kernel) (by decide +kernel) (by decide +kernel)
  (by first | exact .inl (by decide +kernel) | exact .inr (by decide +kernel)) (by rw[isSubtype_type];kernel_rfl)
theorem Gd:entryFor table "callable_iterator.__next__" = some Builtin.«callable_iterator.__next__»:=entryFor_of_tree (by kernel_rfl)
theorem IJ(a:Value):argsOk "callable_iterator.__next__" ⟨[a],[]⟩:=by unfold argsOk;kernel_rfl
theorem GI:Slot "callable_iterator" "__iter__" "callable_iterator.__iter__" :=
 .of (owner := "callable_iterator") (n := "__iter__") (by rw[typeLookup_type,builtinLookup_eq_fast];kernel_rfl) (by decide +kernel) (by decide +kernel) (by decide +kernel)
  (by first | exact .inl (by decide +kernel) | exact .inr (by decide +kernel)) (by rw[isSubtype_type];kernel_rfl)
theorem Ir:entryFor table "callable_iterator.__iter__" = some Builtin.«dict_keyiterator.__iter__»:=entryFor_alias (id' := "dict_keyiterator.__iter__") (by kernel_rfl) rfl (by decide +kernel) (by kernel_rfl)
theorem Ki(a:Value):argsOk "callable_iterator.__iter__" ⟨[a],[]⟩:=by unfold argsOk;kernel_rfl
section
variable{K:KX}{r:Nat}{ρ:Rho}{hp:List O}
theorem Ek{α:Type}{A:Around}{s:Shared}{Q:α→Shared→Prop}{E:Value→Shared→Prop}(hh:A.handled=none)
  (h:∀ h' e,(∀ b o,s.heap.get? b=some o→h'.get? b=some o)→({ s with heap:=h' }:Shared).TypeIs e "StopIteration" → E e { s with heap:=h' }):wpAny (model K.prog K.w) A (PySem.Builtin.SmallTypes.stopIteration:Sem α) Q E s:=by
 show wpAny _ _ (newExc (.type "StopIteration") [] >>= _) _ _ _
 refine wpAny_bind ?_
 dsimp only[newExc,newTuple]
 refine wpAny_bind (wpAny_newObj_type ?_ (by size_fits))
 refine wpAny_bind (m:=firstArgMember _ _) (wpAny_of_eq (a:=Value.none) (by first | rfl | (dsimp only[firstArgMember];rfl)) ?_)
 refine wpAny_newObj_type ?_ (by size_fits)
 dsimp only[raiseNew]
 refine wpAny_bind (wpAny_handled ?_)
 rw[hh]
 refine wpAny_bind (wpAny_pure (wpAny_throw ?_))
 exact h _ _ (fun b o e=>Heap.get?_push_of_some _ (Heap.get?_push_of_some _ e)) ⟨_,Heap.get?_push_size _ rfl,rfl⟩
theorem borrows{A:Around}{s:Shared}{M f:Addr}{self:Value}{of:Obj}{fd:FuncData}{Q:Bool→Shared→Prop}{E:Value→Shared→Prop}(hM:s.heap.get? M=some (W.methodObj (.ref f) self))(hf:s.heap.get? f=some of)(hd:of.data = .func fd)(h:Q true s) :
  wpAny (model K.prog K.w) A (borrowsExactly (.ref M)) Q E s:=by
 unfold borrowsExactly
 refine wpAny_bind (wpAny_load hM ?_)
 show wpAny _ A (do match (← load f).data with | .func _=>pure true | _=>pure false) _ E s
 refine wpAny_bind (wpAny_load hf ?_)
 rw[hd]
 exact wpAny_pure h
def nextC(i:Nat)(F:FT)(Q:Option V→List O→Prop)(hp:List O):Prop:=match hp[i]? with
 | some (.citer none)=>Q none hp
 | some (.citer (some j))=>F [.r j] (fun v hp'=>hp'[i]?=some (.citer (some j))∧match v with
   | .d (.str x)=>if (⟨#[]⟩:Str)=x then Q none (hp'.set i (.citer none)) else Q (some v) hp'
   | _=>False) hp
 | _=>False
inductive PostN(K:KX)(ρ:Rho)(s:Shared)(Q:Option V→List O→Prop)(rr:Option Value)(s':Shared):Prop
 | mk (ov:Option V) (hp':List O) (ρ':Rho) (h':Heap) (t:Nat) (e:s'={ s with heap:=h',toks:=t }) (q:Q ov hp') (H:HRel K ρ' hp' h') (S:Step K ρ s.heap ρ' h') (r:match ov,rr with | none,none=>True | some v,some rv=>VR ρ' h' v rv | _,_=>False)
set_option tactic.hygienic true in
theorem N6{F:FT}{fd:FuncData}{body:List Stmt}(hF:SoundF K r (.ref K.readChar) [] F)(Y:FnAt K K.readChar fd body){i:Nat}{Q:Option V→List O→Prop}{A:Around}(ok:OkA (r+1) A){s:Shared}{E:Value→Shared→Prop}{p:P}
  (q:nextC i F Q hp) (H:HRel K ρ hp s.heap) (ep:ρ[i]?=some p):wpAny (model K.prog K.w) A (pyNext (.ref p.a)) (PostN K ρ s Q) E s:=by
 have hh:A.in1.handled=none:=ok.hh
 unfold nextC at q
 generalize e:hp[i]?=o at q
 cases o with
 | none=>exact q.elim
 | some o =>
 obtain⟨c,rfl⟩:∃ c,o = .citer c:=by cases o with | citer c=>exact⟨c,rfl⟩ | _=>exact q.elim
 cases c with
 | none =>
  obtain⟨ea,o,vs,h1,h2,h3,rfl⟩:=H.at e ep
  rw[ea]
  have hT:s.TypeIs (.ref p.m) "callable_iterator" := ⟨o,h1,h2⟩
  unfold pyNext
  refine wpAny_bind (wpAny_attempt (wpAny_callSpecial?_slot (name:=Str.ofString "__next__") hT slot_ci (wpAny_call_entry slot_ci hT Gd ?_ (IJ _))))
  show wpAny _ _ (field (.ref p.m) 2 >>= _) _ _ s
  refine wpAny_bind (wpAny_field h1 h3 (x:=.bool true) rfl ?_)
  rw[if_pos (by decide)]
  refine wpAny_bind (wpAny_rule (wpAny_bind (Ek hh ?_)))
  intro h' ev hk hTe
  refine wpAny_bind (wpAny_isInstance (T := "StopIteration") (b:=true) hTe isSubtype_stop ?_)
  exact wpAny_pure ⟨none,hp,ρ,h',s.toks,rfl,q,H.grow hk,Step.grow hk,trivial⟩
 | some j =>
  refine viaP fun z zf=>?_
  obtain⟨ea,o,vs,h1,h2,h3,hj,M,t,qq,rfl,hM,hMf,eq⟩:=H.at e ep
  refine zf ?_
  rw[ea]
  have hT:s.TypeIs (.ref p.m) "callable_iterator" := ⟨o,h1,h2⟩
  obtain⟨of,hof,hdf⟩:=Y.ob
  unfold pyNext
  refine wpAny_bind (wpAny_attempt (wpAny_callSpecial?_slot (name:=Str.ofString "__next__") hT slot_ci (wpAny_call_entry slot_ci hT Gd ?_ (IJ _))))
  show wpAny _ _ (field (.ref p.m) 2 >>= _) _ _ s
  refine wpAny_bind (wpAny_field h1 h3 (x:=.bool false) rfl ?_)
  rw[if_neg (by decide)]
  refine wpAny_bind (wpAny_field h1 h3 (x:=.ref M) rfl ?_)
  refine wpAny_bind (wpAny_attempt ?_)
  unfold callOutOfASlot
  refine wpAny_bind (borrows hM (H.keep _ _ hof Y.tb) hdf ?_)
  rw[if_pos rfl]
  have ok':OkA r A.in1:=⟨ok.hh,by have:=ok.dp;show A.depth+r<_;exact Ll this,by have:=ok.un;show A.units+1+_+200<_;lia⟩
  refine D0 (W.method_call hM ?_)
  refine codeAny_mono (hF A.in1 ok' ρ hp s [.r j] [.ref qq.a] [] _ (fun z z=>False) rfl q H (.cons ⟨qq,eq,rfl⟩ .nil)) ?_
  intro rr s' hr
  rcases rr with e' | (rv | _ | _ | _)
  ·exact hr.elim
  all_goals first | exact hr.elim | skip
  refine viaP fun z zf=>?_
  obtain⟨v,hp',ρ',h',t',rfl,⟨e',q'⟩,H',S',rv'⟩:=hr
  have ep':=S'.get ep
  obtain⟨_,o',vs',g1,g2,g3,gj,M',t2,q2,rfl,gM,gMf,geq⟩:=H'.at e' ep'
  refine zf ?_
  dsimp only
  refine wpAny_bind (wpAny_field (s:={ s with heap:=h',toks:=t' }) g1 g3 (x:=.bool false) rfl ?_)
  rw[if_neg (by decide)]
  refine wpAny_bind (wpAny_field (s:={ s with heap:=h',toks:=t' }) g1 g3 (x:=.str ⟨#[]⟩ t2) rfl ?_)
  obtain⟨x,rfl,q'⟩:=C0 q'
  ·cases rv'
   refine wpAny_bind (wpAny_holding (wpAny_eqBool_str ?_))
   split at q'
   ·rename_i hx
    rw[decide_eq_true hx]
    rw[if_neg (by decide)]
    refine wpAny_bind (wpAny_rule (wpAny_bind ?_))
    show wpAny _ _ (field (.ref p.m) 0 >>= _) _ _ _
    refine wpAny_bind (wpAny_field (s:={ s with heap:=h',toks:=t' }) g1 g3 (x:=.ref M') rfl ?_)
    refine wpAny_bind ?_
    unfold slotLetsGo
    refine wpAny_bind (borrows (s:={ s with heap:=h',toks:=t' }) gM (H'.keep _ _ hof Y.tb) hdf ?_)
    rw[if_pos rfl]
    refine wpAny_pure ?_
    obtain⟨oc,od,oda,osl⟩:=o'
    dsimp only at g2 g3
    subst g3
    have u1:(h'.update p.m (Obj.mapFields fun x=>x.setIfInBounds 0 .none)).get? p.m=some ⟨oc,od,.fields #[.none,.str ⟨#[]⟩ t2,.bool false],osl⟩:=Heap.get?_update_self _ g1 rfl
    have u2:((h'.update p.m (Obj.mapFields fun x=>x.setIfInBounds 0 .none)).update p.m (Obj.mapFields fun x=>x.setIfInBounds 1 .none)).get? p.m=some ⟨oc,od,.fields #[.none,.none,.bool false],osl⟩:=Heap.get?_update_self _ u1 rfl
    have u3:(((h'.update p.m (Obj.mapFields fun x=>x.setIfInBounds 0 .none)).update p.m (Obj.mapFields fun x=>x.setIfInBounds 1 .none)).update p.m (Obj.mapFields fun x=>x.setIfInBounds 2 (.bool true))).get? p.m=some ⟨oc,od,.fields #[.none,.none,.bool true],osl⟩:=Heap.get?_update_self _ u2 rfl
    refine wpAny_bind (wpAny_setField (s:={ s with heap:=h',toks:=t' }) g1 rfl (by simp) ?_)
    refine wpAny_bind (wpAny_setField u1 rfl (by simp) ?_)
    refine wpAny_setField u2 rfl (by simp) ?_
    have hs:Heap.SameBut p.m h' (((h'.update p.m (Obj.mapFields fun x=>x.setIfInBounds 0 .none)).update p.m (Obj.mapFields fun x=>x.setIfInBounds 1 .none)).update p.m (Obj.mapFields fun x=>x.setIfInBounds 2 (.bool true))) :=
     ((Heap.SameBut.update ..).trans (Heap.SameBut.update ..)).trans (Heap.SameBut.update ..)
    have H₂:=H'.own (o:=.citer none) ep' (List.getElem?_eq_some_iff.mp e').1 hs ⟨ea,_,_,u3,g2,rfl,rfl⟩ ⟨_,u3⟩
    have S₂:Step K ρ' h' ρ' _:=Step.own (List.mem_of_getElem? ep') hs ⟨_,u3⟩
    refine Ek hh ?_
    intro h'' ev hk hTe
    refine wpAny_bind (wpAny_isInstance (T := "StopIteration") (b:=true) hTe isSubtype_stop ?_)
    exact wpAny_pure ⟨none,_,ρ',h'',t',rfl,q',H₂.grow hk,(S'.trans S₂).trans (Step.grow hk),trivial⟩
   ·rename_i hx
    rw[decide_eq_false hx]
    rw[if_pos (by decide)]
    exact wpAny_pure ⟨_,rfl,wpAny_pure ⟨some (.d (.str x)),hp',ρ',h',t',rfl,q',H',S',.str ..⟩⟩
end
section
variable{K:KX}{mg mb:Str→Option Value}{r:Nat}{env:Env}{look:Str→Option Nat}{ρ:Rho}{hp:List O}{Kf:W.Frag}
noncomputable def forC(i:Nat)(F:FT)(tgt:XT)(body:XS)(Q:QS):Nat→List (Option V)→List O→Prop
 | 0,_,_=>False
 | n+1,vs,hp=>nextC i F (fun ov hp'=>match ov with
  | none=>Q .next vs hp'
  | some v=>tgt v vs (fun vs' hp''=>body vs' (fun fl vs'' hp3=>match fl with
   | .next=>forC i F tgt body Q n vs'' hp3
   | .cont=>forC i F tgt body Q n vs'' hp3
   | .brk=>Q .next vs'' hp3
   | .ret v=>Q (.ret v) vs'' hp3) hp'') hp') hp
def isC:List O→Nat→Prop:=fun hp i=>match hp[i]? with | some (.citer _)=>True | _=>False
theorem LR{hp:List O}{i:Nat}(h:isC hp i):∃ c,hp[i]?=some (.citer c):=by
 unfold isC at h
 generalize hp[i]?=o at h ⊢
 cases o with
 | none=>exact h.elim
 | some o=>cases o with
  | citer c=>exact⟨c,rfl⟩
  | _=>exact h.elim
def sForC(F:FT)(tgt:XT)(it:XE)(body:XS):XS:=fun vs Q=>it vs fun v hp=>match v with | .r i=>isC hp i∧∃ n,forC i F tgt body Q n vs hp | _=>False
set_option tactic.hygienic true in
theorem Mu{F:FT}{fd:FuncData}{bodyF:List Stmt}(hF:SoundF K r (.ref K.readChar) [] F)(Y:FnAt K K.readChar fd bodyF){target iter:Expr}{body:List Stmt}{pos:Pos}{tgt:XT}{it:XE}{b:XS}
  (ht:SoundT K (r+1) env look target tgt) (hi:SoundE K (r+1) env look iter it) (hb:SoundSs K (r+1) env look body b)
  (hs:∀ x,foldedSetIterable iter env x=pure x) (hlo:∀ it v,letOwnedTupleGo target it v=pure ()):SoundS K (r+1) env look (.For target iter body [] pos) (sForC F tgt it b):=by
 intro A ok vs Q hp ρ s E q FR H
 refine wpAny_For (hi.then ok q FR H ?_) hs
 intro v hp₁ ρ₁ h₁ t₁ rv q₁ H₁ S₁ r₁ F₁
 cases v with
 | r i =>
  obtain⟨p,ep,rfl⟩:=r₁
  obtain⟨hc,N,q₁⟩:=q₁
  have hT:({ s with heap:=h₁,toks:=t₁ }:Shared).TypeIs (.ref p.a) "callable_iterator" := by
   obtain⟨c,e⟩:=LR hc
   obtain⟨ea,o,vs,g1,g2,_⟩:=H₁.at e ep
   exact⟨o,ea ▸ g1,g2⟩
  refine wpAny_pyIter_slot hT GI (wpAny_call_entry GI hT Ir ?_ (Ki _))
  show wpAny _ _ (ret (.ref p.a)) _ _ _
  refine wpAny_pure ⟨_,rfl, "callable_iterator", _,hT,slot_ci.lookup,?_⟩
  refine codeAny_forLoop_any (fun n=>TurnW K env look s ρ₁ h₁ (forC i F tgt b Q n)) ?_ N
   ⟨vs,hp₁,ρ₁,h₁,t₁,rfl,q₁,F₁,H₁,StepS.refl ..⟩
  rintro n s' ⟨vs',hp',ρ',h',t',rfl,q',F',H',S'⟩
  cases n with
  | zero=>exact q'.elim
  | succ n =>
   have ep':=BD S'.pre ep
   refine wpAny_mono (N6 (s:={ s with heap:=h',toks:=t' }) hF Y ok q' H' ep') ?_ (fun z z x=>x)
   rintro rr s'' ⟨ov,hp₂,ρ₂,h₂,t₂,rfl,q₂,H₂,S₂,rv₂⟩
   have F₂:=F'.step H' S₂
   have S₂':=S'.trans S₂.toS
   cases ov with
   | none =>
    cases rr with
    | some _=>exact rv₂.elim
    | none=>exact wpAny_execs_nil ⟨.next,vs',hp₂,ρ₂,h₂,t₂,rfl,q₂,F₂,H₂,S₁.toS.trans S₂',trivial⟩
   | some v =>
    cases rr with
    | none=>exact rv₂.elim
    | some rx =>
     refine wpAny_of_eq (hlo _ _) ?_
     refine wpAny_mono (ht A ok v vs' _ hp₂ ρ₂ { s with heap:=h₂,toks:=t₂ } _ rx q₂ F₂ H₂ rv₂) ?_ (fun z z x=>x)
     rintro _ s₃ ⟨vs₃,hp₃,ρ₃,h₃,t₃,rfl,q₃,F₃,H₃,S₃⟩
     refine wpAny_mono (hb A ok vs₃ _ hp₃ ρ₃ { s with heap:=h₃,toks:=t₃ } _ q₃ F₃ H₃) ?_ (fun z z x=>x)
     rintro fl s₄ ⟨af,vs₄,hp₄,ρ₄,h₄,t₄,rfl,q₄,F₄,H₄,S₄,fr⟩
     have S₄':=(S₂'.trans S₃).trans S₄
     cases af<;>cases fl<;>first | exact fr.elim | skip
     ·exact⟨n,Nat.lt_succ_self n,vs₄,hp₄,ρ₄,h₄,t₄,rfl,q₄,F₄,H₄,S₄'⟩
     ·exact⟨.next,vs₄,hp₄,ρ₄,h₄,t₄,rfl,q₄,F₄,H₄,S₁.toS.trans S₄',trivial⟩
     ·exact⟨n,Nat.lt_succ_self n,vs₄,hp₄,ρ₄,h₄,t₄,rfl,q₄,F₄,H₄,S₄'⟩
     ·exact⟨.ret _,vs₄,hp₄,ρ₄,h₄,t₄,rfl,q₄,F₄,H₄,S₁.toS.trans S₄',fr⟩
 | _=>exact q₁.elim
end
end Mine
namespace Mine
open PySem PySem.Spec PySem.Calls PyProof.Rows Builtin Builtin.ObjectAttr
theorem HR:entryFor table "iter" = some Builtin.«iter»:=entryFor_of_tree (by kernel_rfl)
theorem HU(a b:Value):argsOk "iter" ⟨[a,b],[]⟩:=by unfold argsOk;kernel_rfl
theorem Ig:builtinKind "iter" = none:=by decide +kernel
theorem H9:plainId "iter" = true:=by decide +kernel
theorem IY:typeLookup (.type "method") "__call__" = pure (some (.builtin "method.__call__")):=by rw[typeLookup_type,builtinLookup_eq_fast];kernel_rfl
section
variable{K:KX}{mg mb:Str→Option Value}{r:Nat}{env:Env}{look:Str→Option Nat}{ρ:Rho}{hp:List O}{Kf:W.Frag}
def xIter(C:Addr)(a:XE):XE:=fun vs Q=>a vs fun v hp=>atI v hp C fun i z=>Q (.r hp.length) (hp++[.citer (some i)])
theorem NQ(G:KG K mg mb)(X:KF K Kf){C:Addr}{f name:Str}{o:Expr}{ap p cp pos:Pos}{ck:Nat}{a:XE}(ho:SoundE K r env look o a)
  (hk:env.kindOf f=some .globalImplicit) (hg:mg f=none) (hm:mb f=some (.builtin "iter")) (hd:(f == ("__debug__" : Str))=false)
  (hpg:W.plainGet Kf C name=true) (hh:W.hasDictIn Kf C=true) (ha:W.findIn Kf (.ref C) name=some (some (.ref K.readChar))) (hft:W.typeIn Kf (.ref K.readChar)=some (.type "function"))
  (hgf:W.specialIn Kf (.ref K.readChar) "__get__" = some (some (.builtin "function.__get__"))) (htk:W.takesIn Kf (.ref K.readChar)=some false) (hcn:W.copiedNames.contains name=false) (hn:name ∉ K.attrs)
  (he:eval (.Attribute o name ap) env=(do
   let o' ← eval o env
   standAt ap.atName
   let r ← holding [o'] (getAttr o' name true)
   letTemporaryGo o o' r
   pure r)) (hgo:∀ o' r,letTemporaryGo o o' r=pure ())
  (he1:starEach [.Attribute o name ap,.Constant (.str ⟨#[]⟩) ck cp] env=(false,eval (.Attribute o name ap) env)::starEach [.Constant (.str ⟨#[]⟩) ck cp] env)
  (he2:starEach [.Constant (.str ⟨#[]⟩) ck cp] env=(false,eval (.Constant (.str ⟨#[]⟩) ck cp) env)::starEach [] env)
  (hb:(backTo pos (starEach [.Attribute o name ap,.Constant (.str ⟨#[]⟩) ck cp] env)).any (·.1)=false) :
  SoundE K r env look (.Call (.Name f p) [.Attribute o name ap,.Constant (.str ⟨#[]⟩) ck cp] [] pos) (xIter C a):=by
 intro A ok vs Q hp ρ s E q FR H
 refine wpAny_Call_Name_kw (Calls.Name_function_global FR.kd hk (Calls.loadGlobal_builtin (mg:=mg) (mb:=mb) ?_ hg ?_ hm ?_) hd)
 ·rw[FR.gl];exact H.nsOf G.g G.g'
 ·rw[FR.bi];exact H.nsOf G.b G.b'
 refine AO hb (spliced_more ?_ he1)
 rw[he]
 refine wpAny_bind (ho.then ok q FR H ?_)
 intro v hp₁ ρ₁ h₁ t₁ rv q₁ H₁ S₁ r₁ F₁
 obtain⟨i,pp,fs,ox,od,m,rfl,rfl,qq,e,ep,I,hdd,hod,n,hfld,hout⟩:=Dc q₁ H₁ r₁
 clear q₁
 have q₁:=qq
 clear qq
 have Xn:=X.now H₁
 refine wpAny_bind (wpAny_standAt (wpAny_bind (wpAny_holding ?_)))
 refine W.get_bind (s:={ s with heap:=h₁,toks:=t₁ }) Xn I (W.plainGet_of hpg).1 (W.findObj_fn hh ha hgf htk hcn (by rw[Cm n hod,hout name hn])) (W.plainGet_of hpg).2 ?_
 refine wpAny_call (W.fn_get (s:={ s with heap:=h₁,toks:=t₁+1 }) Xn hft (W.handed_on rfl ?_))
 rw[hgo]
 refine wpAny_bind (wpAny_pure (wpAny_pure ?_))
 refine spliced_more (wpAny_Constant_str ?_) he2
 refine spliced_none ?_
 have n1:h₁.get? h₁.objs.size=none:=AA (Nat.le_refl _)
 have gM:(h₁.push (W.methodObj (.ref K.readChar) (.ref pp.a))).get? h₁.objs.size=some (W.methodObj (.ref K.readChar) (.ref pp.a)):=Heap.get?_push_size _ rfl
 refine call_function_entry Ig H9 HR (HU _ _) ?_
 have keep:∀ b o,h₁.get? b=some o→((h₁.push (W.methodObj (.ref K.readChar) (.ref pp.a))).push { cls:=.type "callable_iterator", data:=.fields #[.ref h₁.objs.size,.str ⟨#[]⟩ (t₁+1),.bool false] }).get? b=some o :=
  fun b o e=>Heap.get?_push_of_some _ (Heap.get?_push_of_some _ e)
 have n2:h₁.get? (h₁.objs.size+1)=none:=AA (Nat.le_succ _)
 have gI:((h₁.push (W.methodObj (.ref K.readChar) (.ref pp.a))).push { cls:=.type "callable_iterator", data:=.fields #[.ref h₁.objs.size,.str ⟨#[]⟩ (t₁+1),.bool false] }).get? (h₁.objs.size+1)=some { cls:=.type "callable_iterator", data:=.fields #[.ref h₁.objs.size,.str ⟨#[]⟩ (t₁+1),.bool false] }:=by
  have:=Heap.get?_push_size (o:={ cls:=.type "callable_iterator", data:=.fields #[.ref h₁.objs.size,.str ⟨#[]⟩ (t₁+1),.bool false] }) (h₁.push (W.methodObj (.ref K.readChar) (.ref pp.a))) rfl
  rwa[Heap.size_push] at this
 have gM':=Heap.get?_push_of_some { cls:=.type "callable_iterator", data:=.fields #[.ref h₁.objs.size,.str ⟨#[]⟩ (t₁+1),.bool false] } gM
 have hil:i<hp₁.length:=(List.getElem?_eq_some_iff.mp e).1
 obtain⟨H',S'⟩:=H₁.add keep (p:=⟨h₁.objs.size+1,h₁.objs.size+1,[h₁.objs.size]⟩) (o:=.citer (some i)) n2 ⟨_,gI⟩ (by
   intro a ha
   simp at ha;subst ha
   exact⟨n1,⟨_,gM'⟩,Nat.ne_of_lt (Nat.lt_succ_self _)⟩) (by
   refine⟨rfl,_,_,gI,rfl,rfl,hil,h₁.objs.size,t₁+1,pp,rfl,gM',by simp,?_⟩
   rw[List.getElem?_append_left (by rw[H₁.len];exact hil)];exact ep)
 show wpAny _ _ (someArgs "iter" 1 2 _ >>= _) _ _ _
 refine wpAny_bind (wpAny_pure ?_)
 show wpAny _ _ (specialOf (.ref h₁.objs.size) "__call__" >>= _) _ _ _
 refine wpAny_bind (wpAny_specialOf (T := "method") ⟨_,gM,rfl⟩ IY ?_)
 rw[if_neg (by decide)]
 refine wpAny_bind (wpAny_rule (wpAny_bind (wpAny_newObj_type ?_ (by size_fits))))
 refine wpAny_pure ⟨_,rfl,?_⟩
 rw[Heap.size_push]
 exact⟨.r hp₁.length,_,_,_,_,rfl,q₁,H',S₁.trans S',⟨⟨h₁.objs.size+1,h₁.objs.size+1,[h₁.objs.size]⟩,by rw[← H₁.len];simp,rfl⟩⟩
end
theorem fslot:Slot "function" "__getattribute__" "object.__getattribute__" :=
 .of (owner := "object") (n := "__getattribute__") (by rw[typeLookup_type,builtinLookup_eq_fast];kernel_rfl) (by decide +kernel) (by decide +kernel) (by decide +kernel)
  (by first | exact .inl (by decide +kernel) | exact .inr (by decide +kernel)) (by rw[isSubtype_type];kernel_rfl)
theorem flk2:typeLookup (.type "function") "__getattr__" = pure none:=by rw[typeLookup_type,builtinLookup_eq_fast];kernel_rfl
theorem flk3:typeLookup (.type "function") "read" = pure none:=by rw[typeLookup_type,builtinLookup_eq_fast];kernel_rfl
theorem fentry:entryFor table "object.__getattribute__" = some Builtin.«object.__getattribute__»:=entryFor_of_tree (by kernel_rfl)
theorem fargs(a b:Value):argsOk "object.__getattribute__" ⟨[a,b],[]⟩:=by unfold argsOk;kernel_rfl
section
variable{prog:Program}{w:World}{A:Around}{E:Value→Shared→Prop}{h:Heap}{g:Array GenState}{d:Drawn}{t:Nat}{os:OsState}{a D:Addr}{o:Obj}{m:Str→Option Value}{v:Value}{fd:FuncData}
theorem KH{tk:Tok}{Q:Fin→Shared→Prop}(hx:h.get? a=some o)(hc:o.cls = .type "function")(hdt:o.data = .func fd)(hdi:o.dict=some D)(n:h.Ns D m)(hm:m "read" = some v)(hq:Q (.done (.ret v)) ⟨h,g,d,t,os⟩) :
  wpAny (model prog w) A (Builtin.«object.__getattribute__» ⟨[.ref a,.str "read" tk],[]⟩) Q E ⟨h,g,d,t,os⟩:=by
 have hT:(⟨h,g,d,t,os⟩:Shared).TypeIs (.ref a) "function" := ⟨_,hx,hc⟩
 unfold Builtin.«object.__getattribute__»
 refine wpAny_bind (wpAny_pure (a:=(Value.ref a,[Value.str "read" tk])) ?_)
 refine wpAny_bind (wpAny_pure (wpAny_bind (wpAny_typeOf hT (wpAny_bind ?_))))
 unfold find
 refine wpAny_bind (wpAny_of_eq flk3 (wpAny_bind (wpAny_pure (wpAny_bind (wpAny_pure ?_)))))
 dsimp only
 unfold ownThenClass
 refine wpAny_bind ?_
 unfold inOwnDict ownDict
 refine wpAny_bind (wpAny_bind (wpAny_loadPart hx ?_))
 rw[hdt]
 unfold instanceDict
 refine wpAny_bind (wpAny_loadPart hx ?_)
 rw[hc]
 dsimp only
 rw[hdi]
 refine wpAny_pure ?_
 refine wpAny_nsGet (s:=⟨h,g,d,t,os⟩) n ?_
 rw[hm]
 exact wpAny_bind (wpAny_rule (wpAny_pure (wpAny_pure hq)))
theorem HP{Q:Value→Shared→Prop}{ex:Bool}(hx:h.get? a=some o)(hc:o.cls = .type "function")(hdt:o.data = .func fd)(hdi:o.dict=some D)(n:h.Ns D m)(hm:m "read" = some v)(hv:W.handedIn v=true)
  (hq:Q v ⟨h,g,d,t+1,os⟩):wpAny (model prog w) A (getAttr (.ref a) "read" ex) Q E ⟨h,g,d,t,os⟩:=by
 have hT1:(⟨h,g,d,t+1,os⟩:Shared).TypeIs (.ref a) "function" := ⟨_,hx,hc⟩
 unfold getAttr
 refine wpAny_bind (wpAny_mkText ?_)
 unfold getAttrBy
 refine wpAny_holding (wpAny_bind (wpAny_typeOf hT1 (wpAny_bind (wpAny_of_eq fslot.lookup ?_))))
 dsimp only
 rw[if_neg (by decide)]
 unfold getAttrByItsOwn
 refine wpAny_bind (wpAny_pure (wpAny_bind (wpAny_attempt (wpAny_holding ?_))))
 unfold callGetattribute
 rw[if_neg (show ¬ (ex && onTheHeap (Value.builtin "object.__getattribute__"))=true by cases ex<;>decide)]
 unfold boundAndCalled
 rw[fslot.bind]
 refine wpAny_bind (wpAny_pure (wpAny_call ?_))
 refine codeAny_call_builtin fslot.plain fentry (fslot.check _ _ _ _ _ _ _ _ hT1 (fargs _ _) (KH hx hc hdt hdi n hm ?_))
 show wpAny _ _ (handedOut v) _ _ _
 rw[W.handedOut_of hv]
 exact wpAny_pure hq
theorem Ft{Q:Value×List Value→Shared→Prop}{pl:Sem Bool}(hx:h.get? a=some o)(hc:o.cls = .type "function")(hdt:o.data = .func fd)(hdi:o.dict=some D)(n:h.Ns D m)(hm:m "read" = some v)(hv:W.handedIn v=true)
  (hq:Q (v,[]) ⟨h,g,d,t+1,os⟩):wpAny (model prog w) A (getMethod (.ref a) "read" pl) Q E ⟨h,g,d,t,os⟩:=by
 have hT:(⟨h,g,d,t,os⟩:Shared).TypeIs (.ref a) "function" := ⟨_,hx,hc⟩
 have hcan:=PySem.F.canon_object_ga
 unfold getMethod
 refine wpAny_bind (wpAny_specialOf hT fslot.lookup ?_)
 dsimp only
 rw[hcan,if_neg (by decide)]
 refine wpAny_bind (wpAny_specialOf hT flk2 ?_)
 rw[if_neg (by decide)]
 refine wpAny_bind (wpAny_specialOf hT flk3 ?_)
 exact wpAny_bind (HP hx hc hdt hdi n hm hv (wpAny_pure hq))
end
end Mine
namespace Mine
open PySem PySem.Spec PySem.Calls PyProof.Rows
theorem Jc:typeOf (.builtin "list.pop")=pure (.type "method_descriptor"):=by kernel_rfl
section
variable{K:KX}{mg mb:Str→Option Value}{r:Nat}{ρ:Rho}{hp:List O}
structure ReadText(K:KX)(size:Str)(body:List Stmt):Prop where
 bd:K.readFd.body = .stmts body
 form:∃ p1 p2 p3 k p4 p5 p6 p7 p8 p9 p10,body=[.If (.Compare (.Name "left" p1) [.Eq] [.List [] p2] p3) [.Return (some (.Constant (.str ⟨#[]⟩) k p4)) p5] [] p6,
  .Return (some (.Call (.Attribute (.Name "left" p7) "pop" p8) [] [] p9)) p10]∧(p8.endLine == p9.line)=true
 co:K.readFd.scope.isCoroutine=false
 gen:K.readFd.scope.isGenerator=false
 kd:K.readFd.scope.kind = .function
 nc:∀ x∈K.readFd.scope.names,x.2≠.cell
 lf:K.readFd.scope.names.lookup ("left" : Str)=some NameKind.free
 sz:K.readFd.scope.names.lookup size=some NameKind.local
 bind:∀ (fd:FuncData),fd.params=K.readFd.params→fd.defaults = .none→fd.kwdefaults = .none→∀ v,bindArgs fd ⟨[v],[]⟩=pure [(size,v)]
noncomputable def strL(l:List Nat):PyData:=.list (l.reverse.map fun c=>.str ⟨#[c]⟩)
def readS(j:Nat)(Q:V→List O→Prop)(hp:List O):Prop:=match hp[j]? with
 | some (.stream [])=>Q (.d (.str ⟨#[]⟩)) hp
 | some (.stream (c::l))=>(l.length+1≤sizeLine∧okD (strL (c::l))=true)∧Q (.d (.str ⟨#[c]⟩)) (hp.set j (.stream l))
 | _=>False
theorem HRel.codeAt{K:KX}{ρ:Rho}{hp:List O}{h:Heap}{p:P}{d:SD}(H:HRel K ρ hp h)(Y:SA K.hg K.tb K.readFd h p d):h.get? d.cc=some d.oc' :=
 Y.d2.elim (fun q=>q.1) (fun q=>H.keepG _ _ q.1 q.2)
theorem IV(G:KG K mg mb){size:Str}{body:List Stmt}(X:ReadText K size body){A:Around}(ok:OkA (r+1) A){j:Nat}{p:P}{l:List Nat}{s:Shared}{Q:V→List O→Prop}{E:Value→Shared→Prop}(H:HRel K ρ hp s.heap)(e:hp[j]?=some (.stream l))(ep:ρ[j]?=some p)
  (q:readS j Q hp) {v:Value}:∃ d:SD,SA K.hg K.tb K.readFd s.heap p d∧∀ t,codeAny (model K.prog K.w) A (.call (.ref d.R) ⟨[v],[]⟩) (fun r s'=>match r with | .ok (.ret v)=>PostE K ρ s Q v s' | .ok _=>False | .error e=>E e s') { s with toks:=t }:=by
 obtain⟨d,Y,f1,f4⟩:=H.at e ep
 refine⟨d,Y,fun t=>?_⟩
 refine codeAny_call_function (fd:=d.rfd) (s:={ s with toks:=t }) (by have:=ok.dp;lia) Y.c1 Y.c4 (by rw[Y.c9];exact X.co) (by rw[Y.c9];exact X.gen) (Y.c8.trans X.bd) ⟨d.cc,d.oc',d.cvs,d.t,Y.d1,H.codeAt Y,Y.d3,Y.d4⟩ ?_
 rw[X.bind d.rfd Y.c7 Y.c12 Y.c13 v]
 refine wpAny_pure ?_
 rw[Y.c9,Y.c11]
 refine wpAny_newFunctionEnv X.nc (by intro x hx;simp at hx;subst hx;exact X.sz) (fun h₁ hns hsb=>?_) X.kd
 dsimp only at hns hsb ⊢
 have keep:∀ b o,s.heap.get? b=some o→h₁.get? b=some o:=by
  intro b o eb
  have hb:b≠s.heap.objs.size:=Nat.ne_of_lt (Heap.lt_size eb)
  exact(hsb.2 b hb).trans (Heap.get?_push_of_some _ eb)
 have H₁:HRel K ρ hp h₁:=H.grow keep
 have S₁:Step K ρ s.heap ρ h₁:=Step.grow keep
 refine⟨H₁.limOf G,codeAny_func ?_⟩
 refine viaP fun w zf=>?_
 obtain⟨p1,p2,p3,k,p4,p5,p6,p7,p8,p9,p10,rfl,hline⟩:=X.form
 refine zf ?_
 generalize hE:newEnv K.readFd.scope s.heap.objs.size d.rfd.globals [(("left" : Str),d.c)] (d.rfd.qualname++Str.ofString ".<locals>.") (some d.R) d.rfd.code none d.rfd.builtins=env
 have hkd:env.scope.kind = .function:=by rw[← hE];exact X.kd
 have hkl:env.kindOf "left" = some .free:=by rw[← hE];exact X.lf
 have hcl:env.cells.lookup ("left" : Str)=some d.c:=by rw[← hE];rfl
 have left:∀ {s':Shared} {pos:Pos} {Q':Value→Shared→Prop} {E':Value→Shared→Prop} {A':Around},s'.heap.get? d.c=some d.oc→Q' (.ref p.m) s'→wpAny (model K.prog K.w) A' (eval (.Name "left" pos) env) Q' E' s':=by
  intro s' pos Q' E' A' hc' hq'
  exact wpAny_Name (wpAny_loadName_free hkd hkl hcl ⟨d.oc,hc',Y.e2⟩ hq' (by decide)) (by decide)
 refine wpAny_execs_cons (wpAny_If (wpAny_isTrue_Compare1 (left (keep _ _ Y.e1) ?_) rfl))
 have ok':(A.deeper env).units+60<cLine:=by have:=ok.un;show A.units+3+60<_;lia
 show wpAny _ _ (do standAt p2;newList (← spliced (backTo p2 (starEach [] env)))) _ _ _
 refine wpAny_bind (wpAny_standAt (wpAny_bind (spliced_none (wpAny_newList ?_ (Nat.zero_le _)))))
 have new₂:(h₁.push { cls:=.type "list", data:=.seq ([]:List Value).toArray }).get? h₁.objs.size=some { cls:=.type "list", data:=.seq ([]:List Value).toArray }:=Heap.get?_push_size _ rfl
 have keep₂:∀ b o,h₁.get? b=some o→(h₁.push { cls:=.type "list", data:=.seq ([]:List Value).toArray }).get? b=some o:=fun b o e=>Heap.get?_push_of_some _ e
 have H₂:HRel K ρ hp (h₁.push { cls:=.type "list", data:=.seq ([]:List Value).toArray }):=H₁.push { cls:=.type "list", data:=.seq ([]:List Value).toArray }
 have S₂:Step K ρ s.heap ρ (h₁.push { cls:=.type "list", data:=.seq ([]:List Value).toArray }):=S₁.trans (Step.push ..)
 generalize (h₁.push { cls:=.type "list", data:=.seq ([]:List Value).toArray })=h₂ at new₂ keep₂ H₂ S₂ ⊢
 have L₁:IsL h₂ p.m d.vs d.n:=keep₂ _ _ (keep _ _ f1)
 have f4':DRs h₂ (mu ρ) d.vs.toList (l.reverse.map fun c=>.str ⟨#[c]⟩):=f4.step S₂ H
 obtain⟨as,ra⟩:=f4'.reads
 have R1:Reads h₂ (.ref p.m) (.list (l.reverse.map fun c=>.str ⟨#[c]⟩)) _:=.list L₁ rfl rfl ra
 have R2:Reads h₂ (.ref h₁.objs.size) (.list []) _:=.list new₂ rfl rfl .nil
 have hlay:(PyData.list (l.reverse.map fun c=>.str ⟨#[c]⟩)).canLay0=true:=by
  unfold readS at q
  rw[e] at q
  cases l with
  | nil=>rfl
  | cons c l=>exact(B5 q.1.2).1
 refine SeqAt.compareEq_reads R1 R2 hlay rfl ?_ ?_
 ·have:(PyData.list []).depth≤50:=by decide
  have:=Nat.min_le_right (PyData.list (l.reverse.map fun c=>.str ⟨#[c]⟩)).depth (PyData.list []).depth
  lia
 refine wpAny_truthy_bool ?_
 unfold readS at q
 rw[e] at q
 cases l with
 | nil =>
  refine wpAny_execs_cons (wpAny_Return_some (wpAny_Constant_str ?_))
  exact⟨.d (.str ⟨#[]⟩),hp,ρ,_,_,rfl,q,H₂,S₂,.str ..⟩
 | cons x l =>
  have hne:(PyData.list ((x::l).reverse.map fun c=>.str ⟨#[c]⟩)).eqv (.list [])=false:=by
   cases hh:(x::l).reverse.map (fun c=>(PyData.str ⟨#[c]⟩:PyData)) with
   | nil=>simp at hh
   | cons a b=>rfl
  rw[hne]
  refine wpAny_execs_nil ?_
  refine wpAny_execs_cons (wpAny_Return_some ?_)
  refine wpAny_Call_method_lateS rfl rfl hline (left (keep₂ _ _ (keep _ _ Y.e1)) ?_)
  refine⟨"list", "list.pop", PySem.F.plainAttrs_list,PySem.F.slot_list_pop,Jc,⟨_,L₁,rfl⟩,(fun a e=>by cases e;exact⟨_,L₁,rfl⟩),AO rfl (spliced_none ?_)⟩
  have z:=f4'.length
  simp only[Array.length_toList,List.length_map,List.length_reverse,List.length_cons] at z
  obtain⟨y,ey,dy⟩:=f4'.get (k:=d.vs.size-1) (x:=.str ⟨#[x]⟩) (by rw[z];simp)
  refine call_meets PySem.F.slot_list_pop ⟨_,L₁,rfl⟩ PySem.F.entry_list_pop (PySem.F.args_list_pop_1 _) (MeetsSeq.list_pop_last p.m d.vs d.n y (by simpa using ey) (by have:=q.1.1;lia)) ⟨L₁,?_⟩
  have hs:Heap.SameBut p.m h₂ (h₂.update p.m (Obj.mapSeq fun xs=>xs.eraseIdxIfInBounds (d.vs.size-1))):=Heap.SameBut.update ..
  have hu:=L₁.update (fun xs=>xs.eraseIdxIfInBounds (d.vs.size-1))
  have S₃:Step K ρ h₂ ρ (h₂.update p.m (Obj.mapSeq fun xs=>xs.eraseIdxIfInBounds (d.vs.size-1))):=Step.own (List.mem_of_getElem? ep) hs ⟨_,hu⟩
  have H₃:HRel K ρ (hp.set j (.stream l)) (h₂.update p.m (Obj.mapSeq fun xs=>xs.eraseIdxIfInBounds (d.vs.size-1))):=by
   refine H₂.own ep (List.getElem?_eq_some_iff.mp e).1 hs ?_ ⟨_,hu⟩
   have fx:=H.fx p (List.mem_of_getElem? ep)
   have hpm:p.m∈mu ρ:=List.mem_map.mpr ⟨p,List.mem_of_getElem? ep,rfl⟩
   have kk:∀ b o,b∈p.f→s.heap.get? b=some o→(h₂.update p.m (Obj.mapSeq fun xs=>xs.eraseIdxIfInBounds (d.vs.size-1))).get? b=some o:=by
    intro b o hb eb
    refine(hs.2 b ?_).trans (keep₂ _ _ (keep _ _ eb))
    rintro rfl;exact(fx _ hb).1 hpm
   exact⟨{ d with vs:=d.vs.eraseIdxIfInBounds (d.vs.size-1),n:=_ },(Y.keeps (fun b o e m=>kk b o m e)).vs _ _,hu,by
    show DRs _ _ (d.vs.eraseIdxIfInBounds (d.vs.size-1)).toList _
    rw[EZ]
    have:=(f4'.step S₃ H₂).dropLast
    simpa using this⟩
  exact⟨.d (.str ⟨#[x]⟩),_,ρ,_,_,rfl,q.2,H₃,S₂.trans S₃,dy.step S₃ H₂⟩
end
section
variable{K:KX}{mg mb:Str→Option Value}{r:Nat}{env:Env}{look:Str→Option Nat}{ρ:Rho}{hp:List O}
def xRead(a:XE):XE:=fun vs Q=>a vs fun v hp=>match v with | .r j=>readS j Q hp | _=>False
theorem NM(G:KG K mg mb){size:Str}{body:List Stmt}(X:ReadText K size body){o:Expr}{apos pos cp:Pos}{ck:Nat}{i:Int}{a:XE}(ho:SoundE K (r+1) env look o a)
  (hbase:attributeBase o "read" env (eval o env)=eval o env) (hline:(apos.endLine == pos.line)=true)
  (he:backTo pos (starEach [.Constant (.int i) ck cp] env)=[(false,eval (.Constant (.int i) ck cp) env)]) :
  SoundE K (r+1) env look (.Call (.Attribute o "read" apos) [.Constant (.int i) ck cp] [] pos) (xRead a):=by
 intro A ok vs Q hp ρ s E q FR H
 rw[arm_eval_Call,hbase]
 refine wpAny_bind (ho.then ok q FR H ?_)
 intro v hp₁ ρ₁ h₁ t₁ rv q₁ H₁ S₁ r₁ F₁
 refine wpAny_bind (wpAny_standAt ?_)
 have hpos:methodCallPos true o env apos pos=pure pos:=by unfold methodCallPos;simp[hline]
 have hform:methodCallForm ([Expr.Constant (.int i) ck cp].length+([]:List Keyword).length) (backTo pos (starEach [.Constant (.int i) ck cp] env)) (backToKw pos (keywordEach [] env))=true:=by
  rw[he];rfl
 unfold methodCall
 rw[hform,he]
 cases v with
 | r j =>
  obtain⟨p,ep,rfl⟩:=r₁
  obtain⟨l,e⟩:∃ l,hp₁[j]?=some (.stream l):=by
   change (match hp₁[j]? with | some (.stream [])=>_ | some (.stream (c::l))=>_ | _=>False) at q₁
   revert q₁
   generalize hp₁[j]?=o
   intro q
   cases o with
   | none=>exact q.elim
   | some o=>cases o with
    | stream l=>exact⟨l,rfl⟩
    | _=>exact q.elim
  obtain⟨d,Y,hc⟩:=IV (s:={ s with heap:=h₁,toks:=t₁ }) (Q:=Q) (E:=E) (v:=.int i (t₁+1)) G X ok H₁ e ep q₁
  refine wpAny_bind (wpAny_holding (Ft Y.a1 Y.a2 Y.a4 Y.a3 Y.b3 Y.b6 rfl ?_))
  refine wpAny_bind (wpAny_of_eq hpos ?_)
  refine callWith_function_kw (o:=d.oR) (fd:=d.rfd) ?_
  show wpAny _ A (evalArgs (.ref d.R) true [(false,eval (.Constant (.int i) ck cp) env)] []) _ _ _
  refine Calls.evalArgs_plain (Calls.spliced_cons (wpAny_Constant_int (Calls.spliced_nil ?_)))
  refine⟨⟨Y.c1,Y.c4⟩,wpAny_mono (wpAny_call (hc _)) (fun y y z=>PostE.after S₁ z) (fun y y z=>z)⟩
 | _=>exact q₁.elim
end
noncomputable def compOk(scope:Scope)(env:Env)(look:Str→Option Nat)(on:List Str):Bool :=
 decide (scope.kind = .function) && scope.names.all fun x=>decide (x.2≠.cell) &&
  (decide (x.2≠.free) || ((decide (env.kindOf x.1=some .cell) || decide (env.kindOf x.1=some .free)) && (lk on x.1).isNone)) &&
  (decide (x.2≠.local) || (((lk on x.1).isSome || (look x.1).isNone) && decide (scope.names.lookup x.1=some .local)))
theorem Ea{scope:Scope}{env:Env}{look:Str→Option Nat}{on:List Str}(h:compOk scope env look on=true) :
  scope.kind = .function∧(∀ x∈scope.names,x.2≠.cell)∧(∀ x∈scope.names,x.2 = .free→(env.kindOf x.1=some .cell∨env.kindOf x.1=some .free)∧lk on x.1=none) ∧
   (∀ x∈scope.names,x.2 = .local→lk on x.1=none→look x.1=none)∧(∀ x∈scope.names,x.2 = .local→scope.names.lookup x.1=some .local):=by
 unfold compOk at h
 simp only[Bool.and_eq_true,decide_eq_true_eq,List.all_eq_true,Bool.or_eq_true,Option.isNone_iff_eq_none] at h
 obtain⟨h1,h2⟩:=h
 refine⟨h1,fun x hx=>(h2 x hx).1.1,fun x hx hf=>?_,fun x hx hl hn=>?_,fun x hx hl=>?_⟩
 ·rcases(h2 x hx).1.2 with z | z
  ·exact absurd hf z
  ·exact z
 ·rcases(h2 x hx).2 with z | z
  ·exact absurd hl z
  ·rcases z.1 with y | y
   ·rw[hn] at y;cases y
   ·exact y
 ·rcases(h2 x hx).2 with z | z
  ·exact absurd hl z
  ·exact z.2
section
variable{K:KX}{r:Nat}{env:Env}{look:Str→Option Nat}
theorem Be{elt target iter:Expr}{ifs:List Expr}{scope:Scope}{pos:Pos}(on:List Str){m:Bool}{tgt:XT}{it:XE}{pi:XB}{pe:XE}
  (hit:SoundE K r env look iter it)
  (ht:∀ cl C,SoundTL K r (compEnvC scope cl C env) (lkC on look) target tgt) (hi:∀ cl C,SoundI K r (compEnvC scope cl C env) (lkC on look) ifs pi) (he:∀ cl C,SoundE K r (compEnvC scope cl C env) (lkC on look) elt pe)
  (hok:compOk scope env look on=true) (hs:∀ x,foldedSetIterable iter env x=pure x) :
  SoundE K r env look (.ListComp elt [⟨target,iter,ifs,0⟩] scope pos) (xComp m on.length tgt it pi pe) :=
 let ⟨a,b,c,d,e⟩:=Ea hok
 NR on hit ht hi he a b c d e hs
theorem FU{x:Str}{k:Nat}{pos' spos:Pos}{elt target iter:Expr}{ifs:List Expr}{scope:Scope}{pos:Pos}(on:List Str){m:Bool}{tgt:XT}{it:XE}{pi:XB}{pe:XE}
  (hit:SoundE K r env look iter it)
  (ht:∀ cl C,SoundTL K r (compEnvC scope cl C env) (lkC on look) target tgt) (hi:∀ cl C,SoundI K r (compEnvC scope cl C env) (lkC on look) ifs pi) (he:∀ cl C,SoundE K r (compEnvC scope cl C env) (lkC on look) elt pe)
  (hok:compOk scope env look on=true) (hs:∀ x,foldedSetIterable iter env x=pure x)
  (hkx:env.kindOf x=some .local) (hl:look x=some k) (hsw:swapsWith (.ListComp elt [⟨target,iter,ifs,0⟩] scope pos) (some (.Name x pos')) spos.line env=pure true) :
  SoundS K r env look (.Assign [.Name x pos'] (.ListComp elt [⟨target,iter,ifs,0⟩] scope pos) spos) (sAssign k (xComp m on.length tgt it pi pe)) :=
 let ⟨a,b,c,d,e⟩:=Ea hok
 Mw on hit ht hi he a b c d e hs hkx hl hsw
end
end Mine
namespace Mine
open PySem PySem.Spec PySem.Calls PyProof.Rows Builtin Builtin.Re
theorem Hm:Slot "re.Pattern" "search" "re.Pattern.search" :=
 .of (owner := "re.Pattern") (n := "search") (by rw[typeLookup_type,builtinLookup_eq_fast];kernel_rfl) (by decide +kernel) (by decide +kernel) (by decide +kernel)
  (by first | exact .inl (by decide +kernel) | exact .inr (by decide +kernel)) (by rw[isSubtype_type];kernel_rfl)
theorem JW:entryFor table "re.Pattern.search" = some Builtin.«re.Pattern.search»:=entryFor_of_tree (by kernel_rfl)
theorem LF(a b:Value):argsOk "re.Pattern.search" ⟨[a,b],[]⟩:=by unfold argsOk;kernel_rfl
theorem LD:typeOf (.builtin "re.Pattern.search")=pure (.type "method_descriptor"):=by kernel_rfl
theorem JU:PlainAttrs "re.Pattern" := ⟨⟨"object.__getattribute__", by rw[typeLookup_type,builtinLookup_eq_fast];kernel_rfl,by decide +kernel⟩,by rw[typeLookup_type,builtinLookup_eq_fast];kernel_rfl⟩
noncomputable def nameCode:Array Nat:=#[14,10,4,1,1,22,0,31,16,127,0,13,7,22,0,31,16,127,0,1]
noncomputable def valueCode:Array Nat:=#[14,14,4,1,1,9,4294966783,0,0,2147483648,0,0,0,0,0,13,11,9,4294966783,0,0,2147483648,0,0,0,0,0,1]
noncomputable def okC(c:Nat):Bool:=decide (32≤c) && decide (c<127)
theorem HJ{c:Nat}(h:okC c=true)(seen:Sre.Seen):∃ seen',Sre.inSet nameCode c 20 5 true seen = .ok (false,seen'):=by
 simp only[okC,Bool.and_eq_true,decide_eq_true_eq] at h
 refine⟨((seen.add 22).add 16).add 0,?_⟩
 show(if (decide (0≤c) && decide (c≤31))=true then _ else if (c == 127)=true then _ else (Except.ok (false,((seen.add 22).add 16).add 0):Except String (Bool×Sre.Seen)))=_
 rw[if_neg (by simp;exact h.1),if_neg (by simp;exact Nl h.2)]
theorem JF:∀ c:Fin 127,32≤c.val→(valueCode.getD (5+(1+c.val / 32)) 0).testBit (c.val % 32)=false:=by decide +kernel
theorem GV{c:Nat}(h:okC c=true)(seen:Sre.Seen):∃ seen',Sre.inSet valueCode c 28 5 true seen = .ok (false,seen'):=by
 simp only[okC,Bool.and_eq_true,decide_eq_true_eq] at h
 refine⟨(seen.add 9).add 0,?_⟩
 show(if (decide (c<256) && (valueCode.getD (5+(1+c / 32)) 0).testBit (c % 32))=true then _ else (Except.ok (false,(seen.add 9).add 0):Except String (Bool×Sre.Seen)))=_
 have:=JF ⟨c,h.2⟩ h.1
 simp only at this
 rw[if_neg (by rw[this];simp)]
def okCode(code:Array Nat):Prop:=code=nameCode∨code=valueCode
theorem K7{code:Array Nat}(hc:okCode code){c:Nat}(h:okC c=true)(seen:Sre.Seen):∃ seen',Sre.inSet code c code.size 5 true seen = .ok (false,seen'):=by
 rcases hc with rfl | rfl
 ·exact HJ h seen
 ·exact GV h seen
theorem Cz{m:Sre.M}(hc:okCode m.code)(ht:∀ k,k<m.lim→okC (m.text.getD k 0)=true):∀ (fuel s:Nat) (seen:Sre.Seen),∃ seen',Sre.M.admitted m fuel s seen = .ok (none,seen')
 | 0,s,seen=>⟨_,rfl⟩
 | fuel+1,s,seen=>by
  unfold Sre.M.admitted
  by_cases hs:s ≥ m.lim
  ·exact⟨seen,by rw[if_pos hs]⟩
  ·rw[if_neg hs]
   obtain⟨seen',e⟩:=K7 hc (ht s (by lia)) seen
   rw[e]
   exact Cz hc ht fuel (s+1) seen'
theorem Im{m:Sre.M}(hc:okCode m.code)(ht:∀ k,k<m.lim→okC (m.text.getD k 0)=true)(s:Nat)(first:Bool):∃ seen',m.attemptFrom s first={ m with seen:=seen',answer:=some false }:=by
 unfold Sre.M.attemptFrom
 have:m.hasFirstSet=true:=by
  unfold Sre.M.hasFirstSet
  rcases hc with e | e<;>rw[e]<;>decide +kernel
 rw[this]
 obtain⟨seen',e⟩:=Cz hc ht (m.lim+1-s) s m.seen
 rw[if_neg (by decide),e]
 exact⟨seen',rfl⟩
theorem GK{code text:Array Nat}(hc:okCode code)(ht:∀ k,k<text.size→okC (text.getD k 0)=true) :
  (Sre.forSearch code text 0 0 text.size false).outcome=none∧(Sre.forSearch code text 0 0 text.size false).answer=some false∧(Sre.forSearch code text 0 0 text.size false).frames=[]:=by
 unfold Sre.forSearch
 dsimp only
 split
 ·exact⟨rfl,rfl,rfl⟩
 ·rename_i h
  generalize hm:({ (_:Sre.M) with lastStart:=_ }:Sre.M)=m
  have e1:m.code=code:=by rw[← hm];rfl
  have e2:m.text=text:=by rw[← hm];rfl
  have e3:m.lim=text.size:=by rw[← hm];rfl
  have e4:m.outcome=none:=by rw[← hm];rfl
  have e5:m.frames=[]:=by rw[← hm];rfl
  obtain⟨seen',e⟩:=Im (m:=m) (by rw[e1];exact hc) (by rw[e2,e3];exact ht) 0 true
  rw[e]
  exact⟨e4,rfl,e5⟩
theorem JT{m:Sre.M}(h1:m.outcome=none)(h2:m.answer=some false)(h3:m.frames=[]):m.runFor reTurnSteps={ m with outcome:=some .failed }:=by
 have s1:m.step={ m with outcome:=some .failed }:=by
  unfold Sre.M.step
  rw[h1,h2,h3]
  rfl
 show Sre.M.runFor (3+1) m=_
 unfold Sre.M.runFor
 rw[h1,s1]
 rw[if_neg (by decide)]
 unfold Sre.M.runFor
 rfl
theorem JV(v:Value):reNamed "re.Pattern.search" "search" ["string", "pos", "endpos"] 1 [v] []=pure [some v,none,none]:=rfl
structure ReAt(K:KX)(a:Addr):Prop where
 ob:∃ o fs c oc vs n,K.h0.get? a=some o∧o.cls = .type "re.Pattern" ∧ o.data = .fields fs∧fs.getD 5 .none = .ref c∧reRawNat (fs.getD 2 .none)=0∧reRawNat (fs.getD 6 .none)=0 ∧
  K.h0.get? c=some oc∧oc.cls = .type "tuple" ∧ oc.data = .seq vs n∧okCode ((vs.map reRawOf).map (·.toNat))∧c≠K.tb
 tb:a≠K.tb
noncomputable def cleanS(x:Str):Bool:=x.cps.toList.all okC
theorem Io{M:Model}{A:Around}{E:Value→Shared→Prop}{s:Shared}{m:Sre.M}{l:List Nat}{Q:PUnit→Shared→Prop}(q:Q ⟨⟩ s) :
  wpAny M A (forIn l PUnit.unit fun i z=>if m.seen.has i=true then (do rule (Sre.names.getD i "");pure (ForInStep.yield PUnit.unit)) else (pure (ForInStep.yield PUnit.unit):Sem (ForInStep PUnit))) Q E s:=by
 induction l with
 | nil=>exact wpAny_pure q
 | cons i l ih =>
  rw[List.forIn_cons]
  refine wpAny_bind ?_
  split
  ·exact wpAny_bind (wpAny_rule (wpAny_pure ih))
  ·exact wpAny_pure ih
section
variable{K:KX}{r:Nat}{env:Env}{look:Str→Option Nat}
theorem LE{A:Around}{s:Shared}{ρ:Rho}{hp:List O}{a:Addr}{x:Str}{t:Tok}{E:Value→Shared→Prop}{Q:Value→Shared→Prop}(R:ReAt K a)(H:HRel K ρ hp s.heap)(hx:cleanS x=true)(hz:x.length≤sizeLine)(q:Q .none s) :
  wpAny (model K.prog K.w) A (call (.builtin "re.Pattern.search") [.ref a,.str x t]) Q E s:=by
 refine viaP fun z zf=>?_
 obtain⟨o,fs,c,oc,vs,n,e1,e2,e3,e4,e5,e6,e7,e8,e9,hc,hct⟩:=R.ob
 have g1:=H.keep _ _ e1 R.tb
 have g7:=H.keep _ _ e7 hct
 have hT:s.TypeIs (.ref a) "re.Pattern" := ⟨o,g1,e2⟩
 refine zf ?_
 refine wpAny_call_entry Hm hT JW ?_ (LF _ _)
 show wpAny _ _ (reTarget "re.Pattern.search" "search" ⟨[.ref a,.str x t],[]⟩ >>= _) _ _ s
 refine wpAny_bind ?_
 unfold reTarget
 dsimp only
 rw[JV]
 refine wpAny_bind (wpAny_pure ?_)
 dsimp only
 refine wpAny_bind (wpAny_pure (wpAny_bind (wpAny_pure (wpAny_bind (wpAny_fieldsOf g1 e3 ?_)))))
 refine wpAny_bind (m:=reTextOf _) ?_
 unfold reTextOf
 refine wpAny_bind (wpAny_pure ?_)
 refine wpAny_pure ?_
 dsimp only
 rw[e6]
 rw[if_neg (by decide)]
 refine wpAny_bind (wpAny_pure ?_)
 try rw[if_neg (by decide)]
 refine wpAny_bind ?_
 unfold reRawItems
 rw[e4]
 refine wpAny_bind (wpAny_seqItems g7 e9 (wpAny_pure (wpAny_pure ?_)))
 dsimp only
 rw[e5]
 have h63:(2 ^ 63-1:Int).toNat=2 ^ 63-1:=by decide
 have h':x.cps.size≤sizeLine:=hz
 rw[sizeLine_eq] at h'
 have hl:Min.min (2 ^ 63-1:Int).toNat x.cps.size=x.cps.size:=Nat.min_eq_right (Lb hz)
 rw[hl]
 have ht:∀ k,k<x.cps.size→okC (x.cps.getD k 0)=true:=by
  intro k hk
  have:=List.all_eq_true.mp hx (x.cps[k]) (by simp)
  simpa [Array.getD,hk] using this
 obtain⟨m1,m2,m3⟩:=GK hc ht
 have m4:=JT m1 m2 m3
 rw[Option.getD_some]
 revert m4
 show(Sre.forSearch _ x.cps 0 0 x.cps.size false).runFor reTurnSteps=_→wpAny _ _ (reAnswer _ (Sre.forSearch _ x.cps 0 0 x.cps.size false)) _ _ _
 generalize Sre.forSearch _ x.cps 0 0 x.cps.size false=m
 intro m4
 unfold reAnswer reRunToEnd
 refine wpAny_bind (wpAny_bind ?_)
 have e64:(2 ^ 64:Nat)=(2 ^ 64-1)+1:=by decide
 rw[e64]
 generalize (2 ^ 64-1:Nat)=N
 unfold reDrive
 dsimp only
 rw[m4]
 rw[if_pos (by rfl)]
 refine wpAny_pure (wpAny_bind ?_)
 refine Io ?_
 exact wpAny_pure (wpAny_pure ⟨.none,rfl,q⟩)
end
end Mine
namespace Mine
open PySem PySem.Spec PySem.Calls PyProof.Rows
section
variable{K:KX}{r:Nat}{env:Env}{look:Str→Option Nat}
def xRe(ps:List Addr)(a b:XE):XE:=fun vs Q=>a vs fun v hp=>match v with
 | .g (.ref p)=>p∈ps∧b vs (fun w hp=>match w with
  | .d (.str x)=>cleanS x=true∧x.length≤sizeLine∧Q (.d .none) hp
  | _=>False) hp
 | _=>False
set_option tactic.hygienic true in
theorem Ol{ps:List Addr}(X:∀ p∈ps,ReAt K p∧∀ o,K.h0.get? p=some o→o.dict=none){o e:Expr}{apos pos:Pos}{a b:XE}(ho:SoundE K r env look o a)(hb:SoundE K r env look e b)
    (hbase:attributeBase o "search" env (eval o env)=eval o env)
    (hfew:((backTo pos (starEach [e] env)).all (fun x => !x.1) && (backToKw pos (keywordEach [] env)).all (fun x=>x.1.isSome)
      && decide ([e].length+([]:List Keyword).length+(if ([]:List Keyword).isEmpty then 0 else 1)<30))=true)
    (he:starEach [e] env=(false,eval e env)::starEach [] env)
    (hline:(apos.endLine == pos.line)=true):SoundE K r env look (.Call (.Attribute o "search" apos) [e] [] pos) (xRe ps a b):=by
  intro A ok vs Q hp' ρ s E q F H
  refine wpAny_Call_method_lateS hbase hfew hline (ho.then ok q F H ?_)
  intro vo hp₁ ρ₁ h₁ t₁ ra q₁ H₁ S₁ r₁ F₁
  cases vo with
  | g v=>cases v with
   | ref p =>
    refine viaP fun z zf=>?_
    obtain⟨rfl,hv⟩:=r₁
    obtain⟨hp,q₁⟩:=q₁
    have ls:SoundL K r env look [e] (lCons b lNil):=K2 hb A6 he
    have base:=ls A ok pos vs (fun l hp=>match l with
      | [.d (.str x)]=>cleanS x=true∧x.length≤sizeLine∧Q (.d .none) hp
      | _=>False) hp₁ ρ₁ { s with heap:=h₁,toks:=t₁ } E (by
        show b vs _ hp₁
        refine cast ?_ q₁
        congr 1
        funext w hp
        cases w with
        | d x=>cases x<;>rfl
        | _=>rfl) F₁ H₁
    obtain⟨o,fs,c,oc,vs',n,e1,e2,_⟩:=(X p hp).1.ob
    have ed:=(X p hp).2 o e1
    have g1:=H₁.keep _ _ e1 (X p hp).1.tb
    refine zf ?_
    refine⟨"re.Pattern", "re.Pattern.search", JU,Hm,LD,⟨o,g1,e2⟩,(fun a' e'=>by cases e';exact⟨o,g1,ed⟩),AO ?_ ?_⟩
    · have:=hfew
      simp only[Bool.and_eq_true,List.all_eq_true,Bool.not_eq_true'] at this
      rw[List.any_eq_false]
      intro y hy;simpa using this.1.1 y hy
    · refine wpAny_mono base ?_ (fun z z x=>x)
      rintro rvs s' ⟨l',hp₂,ρ₂,h₂,t₂,rfl,q₂,H₂,S₂,r₂⟩
      cases r₂ with
      | nil=>exact q₂.elim
      | @cons y _ _ _ ra rb=>cases y with
        | d x=>cases x with
          | str x=>cases rb with
            | nil=>cases ra with
              | str _ t=>exact LE (X _ hp).1 H₂ q₂.1 q₂.2.1 (PostE.after (S₁.trans S₂) (PostE.pure0 (s:={ s with heap:=h₂,toks:=t₂ }) q₂.2.2 H₂ DR.none))
            | cons _ _=>exact q₂.elim
          | _=>exact q₂.elim
        | _=>exact q₂.elim
   | _=>exact q₁.elim
  | _=>exact q₁.elim
def sDead:XS:=fun z z z=>False
theorem D6{e:Stmt}:SoundS K r env look e sDead:=fun A ok vs Q hp ρ s E q F H=>q.elim
end
end Mine
namespace Mine
open PySem PySem.Spec PySem.Calls PyProof.Rows Builtin Builtin.ObjectAttr
theorem sslot:Slot "function" "__setattr__" "object.__setattr__" :=
 .of (owner := "object") (n := "__setattr__") (by rw[typeLookup_type,builtinLookup_eq_fast];kernel_rfl) (by decide +kernel) (by decide +kernel) (by decide +kernel)
  (by first | exact .inl (by decide +kernel) | exact .inr (by decide +kernel)) (by rw[isSubtype_type];kernel_rfl)
theorem sargs(a b c:Value):argsOk "object.__setattr__" ⟨[a,b,c],[]⟩:=by unfold argsOk;kernel_rfl
theorem fmro:∃ l,mroOf (.type "function")=pure l∧∀ self,refuseLoop self "__setattr__" l=pure ():=by
 refine⟨[.type "function", .type "object"],by kernel_rfl,fun self=>?_⟩
 kernel_rfl
section
variable{prog:Program}{w:World}{A:Around}{E:Value→Shared→Prop}{h:Heap}{g:Array GenState}{d:Drawn}{t:Nat}{os:OsState}{a:Addr}{o:Obj}{v:Value}{fd:FuncData}
theorem HO{Q:Unit→Shared→Prop}(hx:h.get? a=some o)(hc:o.cls = .type "function")(hdt:o.data = .func fd)(hdi:o.dict=none)
  (hq:∀ h' D m tk,h.get? D=none→h'.get? a=some { o with dict:=some D }→h'.Ns D m→m "read" = some v→(∀ y,y≠("read" : Str)→m y=none) →
   (∀ b ob,b≠a→h.get? b=some ob→h'.get? b=some ob)→Q () ⟨h',g,d,tk,os⟩) :
  wpAny (model prog w) A (setAttr (.ref a) "read" v) Q E ⟨h,g,d,t,os⟩:=by
 have hT:∀ t,(⟨h,g,d,t,os⟩:Shared).TypeIs (.ref a) "function" := fun t=>⟨_,hx,hc⟩
 obtain⟨l,hl,hpass⟩:=fmro
 unfold setAttr
 refine wpAny_bind (wpAny_mkText ?_)
 refine wpAny_bind ?_
 refine wpAny_callSpecial?_slot (hT _) sslot ?_
 refine wpAny_call_entry sslot (hT _) PySem.F.entry_object_setattr ?_ (sargs _ _ _)
 rw[W.osa_eq]
 refine wpAny_bind ?_
 rw[refuse_eq]
 refine wpAny_bind (wpAny_typeOf (hT _) (wpAny_bind (wpAny_of_eq hl (wpAny_of_eq (hpass _) ?_))))
 refine wpAny_bind (wpAny_typeOf (hT _) (wpAny_bind (wpAny_of_eq flk3 (wpAny_bind (wpAny_pure ?_)))))
 dsimp only
 unfold storeInOwnDict
 refine wpAny_bind (wpAny_pure ?_)
 rw[if_neg (by decide)]
 refine wpAny_bind ?_
 unfold ownDictForStores
 dsimp only
 unfold instanceDict
 refine wpAny_bind (wpAny_loadPart hx ?_)
 rw[hc]
 dsimp only
 rw[hdi]
 dsimp only
 rw[if_neg (by decide)]
 rw[hdt]
 dsimp only
 have hxs:a≠h.objs.size:=Nat.ne_of_lt (Heap.lt_size hx)
 have hx₁:(h.push { cls:=.type "dict", data:=.dict #[] }).get? a=some o:=Heap.get?_push_of_some _ hx
 refine wpAny_bind (wpAny_alloc' ?_)
 refine wpAny_bind (wpAny_update' hx₁ ?_)
 unfold dictMade
 dsimp only
 rw[if_neg (by decide)]
 refine wpAny_pure ?_
 have hgd:((h.push { cls:=.type "dict", data:=.dict #[] }).update a fun o=>{ cls:=o.cls,dict:=some h.objs.size,data:=o.data,slots:=o.slots }).get? h.objs.size
   = some { cls:=.type "dict", data:=.dict #[] } :=
  (Heap.get?_update_ne _ _ _ _ hxs.symm).trans (Heap.get?_push_at rfl rfl)
 have hnd:((h.push { cls:=.type "dict", data:=.dict #[] }).update a fun o=>{ cls:=o.cls,dict:=some h.objs.size,data:=o.data,slots:=o.slots }).Ns h.objs.size (fun z=>none) :=
  ⟨_,#[],_,hgd,rfl,fun e he=>absurd he (by simp),fun z=>rfl⟩
 dsimp only
 unfold storeInDict newKeyGuard
 refine wpAny_bind (wpAny_pure (wpAny_bind (wpAny_nsSet1 (Heap.Ns1.of_empty hnd) fun h' hn' hs=>?_)))
 refine viaP fun z zf=>?_
 obtain⟨oD,esD,epD,hoD,hdD,hcD⟩:=hn'.count (Within.cons "read" v Within.nil)
 refine zf ?_
 refine wpAny_bind (wpAny_lookBehind hoD (by rw[hdD];exact pastItsLine_dict (Nat.le_trans hcD (by rw[List.length_cons,List.length_nil,sizeLine_eq];omega))) ?_)
 refine wpAny_pure ⟨_,rfl,wpAny_pure ?_⟩
 have hx':h'.get? a=some { cls:=o.cls,dict:=some h.objs.size,data:=o.data,slots:=o.slots }:=by
  refine(hs.2 a hxs).trans (Heap.get?_update_self _ hx₁ ?_)
  have hfr:=(Heap.get?_some_iff.mp hx).2
  obtain⟨oc,od,odt,osl⟩:=o
  cases odt<;>first | rfl | exact hfr
 refine hq h' h.objs.size _ _ (AA (Nat.le_refl _)) hx' hn'.ns (if_pos rfl) (fun y hy=>if_neg hy) (fun b ob hb e=>?_)
 exact(hs.2 b (Nat.ne_of_lt (Heap.lt_size e))).trans ((Heap.get?_update_ne _ _ _ _ hb).trans (Heap.get?_push_of_some _ e))
end
end Mine
namespace Mine
open PySem PySem.Spec PySem.Calls PyProof.Rows
section
variable{K:KX}{mg mb:Str→Option Value}{r:Nat}{env:Env}{look:Str→Option Nat}{ρ:Rho}{hp:List O}{Kf:W.Frag}
def bDef(n:Nat)(x:PyData):BT:=fun vas Q hp=>vas.length=n∧Q (vas++[.d x]) hp
def sAssignT(t:XT)(a:XE):XS:=fun vs Q=>a vs fun v=>t v vs fun vs' hp=>Q .next vs' hp
theorem IS{elts:List Expr}{k:Nat}{tpos pos:Pos}{value:Expr}{t:XT}{a:XE}(ha:SoundE K r env look value a)(ht:SoundT K r env look (.Tuple elts k tpos) t)
  (hs:swapsWithSole [.Tuple elts k tpos] value pos.line env=pure false) (hw:swappedStores [.Tuple elts k tpos] value env=pure none) :
  SoundS K r env look (.Assign [.Tuple elts k tpos] value pos) (sAssignT t a):=by
 intro A ok vs Q hp ρ s E q F H
 refine PyProof.Rows.Assign_Tuple (ha.then ok q F H ?_) hs hw
 intro va hp₁ ρ₁ h₁ t₁ ra q₁ H₁ S₁ r₁ F₁
 refine wpAny_mono (ht A ok va vs _ hp₁ ρ₁ { s with heap:=h₁,toks:=t₁ } _ ra q₁ F₁ H₁ r₁) ?_ (fun z z x=>x)
 rintro _ s' ⟨vs',hp₂,ρ₂,h₂,t₂,rfl,q₂,F₂,H₂,S₂⟩
 exact⟨.next,vs',hp₂,ρ₂,h₂,t₂,rfl,q₂,F₂,H₂,S₁.toS.trans S₂,trivial⟩
end
end Mine
namespace Mine
open PySem PySem.Builtin PySem.Builtin.Str PySem.StrLaws
noncomputable def scan(p:List Nat):Nat→List Nat→Nat→List Nat
 | _,[],_=>[]
 | k+1,_::l,i=>scan p k l (i+1)
 | 0,c::l,i=>if p.isPrefixOf (c::l) then i::scan p (p.length-1) l (i+1) else scan p 0 l (i+1)
noncomputable def repL(p q:List Nat):Nat→List Nat→List Nat
 | _,[]=>[]
 | k+1,_::l=>repL p q k l
 | 0,c::l=>if p.isPrefixOf (c::l) then q++repL p q (p.length-1) l else c::repL p q 0 l
theorem FJ{x p:List Nat}{i:Nat}(h:(x.drop i)≠[]):(i+p.length≤x.length∧subAt ⟨x.toArray⟩ ⟨p.toArray⟩ i=true)↔p.isPrefixOf (x.drop i)=true:=by
 rw[subAt_eq]
 rw[List.isPrefixOf_iff_prefix,List.prefix_iff_eq_take]
 simp only[Str.length,List.size_toArray,beq_iff_eq]
 constructor
 ·rintro⟨h1,h2⟩;exact h2.symm
 ·intro e
  refine⟨?_,e.symm⟩
  have:=congrArg List.length e
  rw[List.length_take,List.length_drop] at this
  have:i<x.length:=by
   rcases Nat.lt_or_ge i x.length with q | q
   ·exact q
   ·exact absurd (List.drop_eq_nil_of_le q) h
  lia
theorem Jj(x p:List Nat)(hp:p≠[]):∀ (l:List Nat) (i k:Nat) (st:Array Nat×Nat),x.drop i=l→i≤x.length→(st.2≤i∧k=0∨st.2=i+k)→st.1.size≤i →
  (forIn (List.range' i (l.length+1)) st (occBody ⟨x.toArray⟩ ⟨p.toArray⟩ x.length (x.length+1))).run.fst.toList=st.1.toList++scan p k l i:=by
 have hpl:0<p.length:=List.length_pos_iff.mpr hp
 intro l
 induction l with
 | nil =>
  intro i k st e hi hf hs
  have hil:x.length≤i:=by have:=congrArg List.length e;simp at this;lia
  rw[List.length_nil,Nat.zero_add,show List.range' i 1=[i] from rfl,List.forIn_cons]
  unfold occBody
  rw[if_neg (by
   rintro⟨⟨_,h⟩,_⟩
   have:i+p.length≤x.length:=by simpa [Str.length] using h
   lia)]
  simp[scan]
 | cons c l ih =>
  intro i k st e hi hf hs
  have hlt:i<x.length:=by
   rcases Nat.lt_or_ge i x.length with q | q
   ·exact q
   ·rw[List.drop_eq_nil_of_le q] at e;cases e
  have e':x.drop (i+1)=l:=by rw[← List.drop_drop,e];rfl
  have hne:x.drop i≠[]:=by rw[e];simp
  rw[List.length_cons,List.range'_succ,List.forIn_cons]
  cases k with
  | succ k =>
   have h2:st.2=i+(k+1):=hf.elim (fun h=>nomatch h.2) id
   unfold occBody
   rw[if_neg (by rintro⟨⟨⟨_,h⟩,_⟩,_⟩;lia)]
   exact ih (i+1) k (st.1,st.2) e' hlt (.inr (by show st.2=_;lia)) (by show st.1.size≤_;exact Tt hs Lr)
  | zero =>
   have h2:st.2≤i:=by rcases hf with h | h<;>lia
   by_cases hm:p.isPrefixOf (c::l)=true
   ·have:=(FJ (p:=p) hne).mpr (by rw[e];exact hm)
    unfold occBody
    rw[if_pos ⟨⟨⟨by lia,h2⟩,by simpa [Str.length] using this.1⟩,this.2⟩]
    refine(ih (i+1) (p.length-1) (st.1.push i,i+(⟨p.toArray⟩:Str).length) e' hlt (.inr (by simp[Str.length];lia)) (by simp;exact hs)).trans ?_
    simp[scan,hm]
   ·have hno:¬ (i+p.length≤x.length∧subAt ⟨x.toArray⟩ ⟨p.toArray⟩ i=true):=fun h=>hm (by rw[← e];exact(FJ hne).mp h)
    unfold occBody
    rw[if_neg (by rintro⟨⟨_,h⟩,h'⟩;exact hno ⟨by simpa [Str.length] using h,h'⟩)]
    refine(ih (i+1) 0 (st.1,st.2) e' hlt (.inl ⟨by show st.2≤_;exact Tt h2 Lr,rfl⟩) (by show st.1.size≤_;exact Tt hs Lr)).trans ?_
    simp[scan,hm]
theorem Fj(x p:List Nat)(hp:p≠[]):occurrences ⟨x.toArray⟩ ⟨p.toArray⟩ 0 x.length (x.length+1)=scan p 0 x 0:=by
 rw[occ_eq]
 have:=Jj x p hp x 0 0 (#[],0) rfl (Nat.zero_le _) (.inl ⟨Nat.le_refl _,rfl⟩) (Nat.zero_le _)
 simpa using this
theorem Ey{q s:Str}{l:List Str}(h:l≠[]):Str.join q (s::l)=s++q++Str.join q l:=by
 cases l with
 | nil=>exact absurd rfl h
 | cons x l=>rfl
theorem HA(x p q:List Nat)(hp:p≠[]):∀ (l:List Nat) (i a:Nat) (k:Nat),x.drop i=l→(k=0∧a≤i∨a=i+k)→i≤x.length→a≤x.length →
    (Str.join ⟨q.toArray⟩ (partsFrom ⟨x.toArray⟩ p.length a (scan p k l i))).cps.toList=((x.drop a).take (i-a))++repL p q k l:=by
  have hpl:0<p.length:=List.length_pos_iff.mpr hp
  have hx:(⟨x.toArray⟩:Str).length=x.length:=by simp[Str.length]
  intro l
  induction l with
  | nil =>
    intro i a k e h hi ha
    have hil:x.length≤i:=by have:=congrArg List.length e;simp at this;lia
    have:scan p k [] i=[]:=by cases k<;>rfl
    rw[this]
    show(strSub ⟨x.toArray⟩ a (⟨x.toArray⟩:Str).length).cps.toList=_
    rw[strSub_toList,hx]
    have:repL p q k []=[]:=by cases k<;>rfl
    rw[this,List.append_nil]
    have:i=x.length:=Nat.le_antisymm hi hil
    rw[this]
  | cons c l ih =>
    intro i a k e h hi ha
    have hlt:i<x.length:=by
      rcases Nat.lt_or_ge i x.length with q | q
      · exact q
      · rw[List.drop_eq_nil_of_le q] at e;cases e
    have e':x.drop (i+1)=l:=by rw[← List.drop_drop,e];rfl
    have hne:x.drop i≠[]:=by rw[e];simp
    have hxi:x[i]?=some c:=by
      have:=congrArg (fun m=>m[0]?) e
      simpa [List.getElem?_drop] using this
    cases k with
    | succ k =>
      have h2:a=i+(k+1):=h.elim (fun h=>nomatch h.1) id
      show(Str.join ⟨q.toArray⟩ (partsFrom ⟨x.toArray⟩ p.length a (scan p k l (i+1)))).cps.toList=_
      rw[ih (i+1) a k e' (.inr (by lia)) hlt ha]
      show _=_++repL p q k l
      rw[show i+1-a=0 from by lia,show i-a=0 from by lia]
    | zero =>
      have h2:a≤i:=by rcases h with h | h<;>lia
      by_cases hm:p.isPrefixOf (c::l)=true
      · have hpx:=((FJ (p:=p) hne).mpr (by rw[e];exact hm)).1
        have es:scan p 0 (c::l) i=i::scan p (p.length-1) l (i+1):=by simp[scan,hm]
        rw[es]
        show(Str.join ⟨q.toArray⟩ (strSub ⟨x.toArray⟩ a i::partsFrom ⟨x.toArray⟩ p.length (i+p.length) (scan p (p.length-1) l (i+1)))).cps.toList=_
        obtain⟨r,rs,er⟩:=partsFrom_ne ⟨x.toArray⟩ p.length (i+p.length) (scan p (p.length-1) l (i+1))
        rw[Ey (by rw[er];simp)]
        simp only[Str.cps_append,Array.toList_append]
        rw[strSub_toList,ih (i+1) (i+p.length) (p.length-1) e' (.inr (by lia)) hlt hpx]
        rw[show i+1-(i+p.length)=0 from by lia]
        simp[repL,hm]
      · have es:scan p 0 (c::l) i=scan p 0 l (i+1):=by simp[scan,hm]
        rw[es,ih (i+1) a 0 e' (.inl ⟨rfl,Tt h2 Lr⟩) hlt ha]
        have:repL p q 0 (c::l)=c::repL p q 0 l:=by simp[repL,hm]
        rw[this]
        have t:(x.drop a).take (i+1-a)=(x.drop a).take (i-a)++[c]:=by
          rw[show i+1-a=(i-a)+1 from by lia,List.take_add_one]
          rw[List.getElem?_drop,show a+(i-a)=i from by lia,hxi]
          rfl
        rw[t,List.append_assoc]
        rfl
theorem Hl{x p q:List Nat}(hp:p≠[])(hx:∀ c∈x,c<128)(hpa:∀ c∈p,c<128):Txt.join ⟨q.toArray⟩ (Txt.split ⟨x.toArray⟩ ⟨p.toArray⟩)=⟨(repL p q 0 x).toArray⟩:=by
 have k1:∀ l:List Nat,(∀ c∈l,c<128)→Builtin.Str.strKind ⟨l.toArray⟩=1:=by
  intro l h
  unfold Builtin.Str.strKind
  rw[if_pos]
  simp
  intro c hc
  have:=h c hc
  lia
 have main:Txt.join ⟨q.toArray⟩ (partsBetween ⟨x.toArray⟩ (occurrences ⟨x.toArray⟩ ⟨p.toArray⟩ 0 (⟨x.toArray⟩:Str).length ((⟨x.toArray⟩:Str).length+1)) (⟨p.toArray⟩:Str).length)=⟨(repL p q 0 x).toArray⟩:=by
  have e1:(⟨x.toArray⟩:Str).length=x.length:=by simp[Str.length]
  have e2:(⟨p.toArray⟩:Str).length=p.length:=by simp[Str.length]
  rw[e1,e2,Fj x p hp]
  unfold Txt.join
  rw[glued_eq_join,partsBetween_eq]
  apply Str.ext'
  apply Array.toList_inj.mp
  rw[HA x p q hp x 0 0 0 rfl (.inl ⟨rfl,Nat.le_refl _⟩) (Nat.zero_le _) (Nat.zero_le _)]
  simp
 have same:(occurrences ⟨x.toArray⟩ ⟨p.toArray⟩ 0 (⟨x.toArray⟩:Str).length ((⟨x.toArray⟩:Str).length+1)).isEmpty=true →
   Txt.join ⟨q.toArray⟩ [⟨x.toArray⟩]=⟨(repL p q 0 x).toArray⟩:=by
  intro h
  have h':=List.isEmpty_iff.mp h
  rw[h'] at main
  rw[← main]
  rw[partsBetween_eq]
  show Txt.join _ _=Txt.join _ [strSub ⟨x.toArray⟩ 0 (⟨x.toArray⟩:Str).length]
  rw[sub_whole]
 unfold Txt.split
 split
 ·rename_i h
  rw[k1 x hx,k1 p hpa] at h
  have hlt:x.length<p.length:=by simpa [Str.length] using h
  refine same ?_
  have e1:(⟨x.toArray⟩:Str).length=x.length:=by simp[Str.length]
  rw[e1,Fj x p hp]
  have:∀ (l:List Nat) (i k:Nat),l.length<p.length→scan p k l i=[]:=by
   intro l
   induction l with
   | nil=>intro i k _;cases k<;>rfl
   | cons c l ih =>
    intro i k h
    have h':l.length<p.length:=by simp at h;exact Ll h
    cases k with
    | succ k=>exact ih _ _ h'
    | zero =>
     have:p.isPrefixOf (c::l)=false:=by
      cases hh:p.isPrefixOf (c::l) with
      | false=>rfl
      | true=>have:=(List.isPrefixOf_iff_prefix.mp hh).length_le;lia
     simp[scan,this,ih _ _ h']
  rw[this x 0 0 hlt];rfl
 ·split
  ·rename_i h;exact same h
  ·exact main
end Mine
namespace Mine
open PySem
noncomputable def Wt:List Nat→Nat
 | []=>0
 | c::l=>(l.length+1)*c+Wt l
end Mine
namespace Mine
open PySem PySem.Spec PySem.Calls PyProof.Rows
section
variable{K:KX}{r:Nat}{env:Env}{look:Str→Option Nat}
def opGe:Op2:=fun va vb Q hp=>match va,vb with
 | .d (.int a),.d (.int b)=>Q (.d (.bool (decide (b≤a)))) hp
 | _,_=>False
theorem O7:Sound2 K r (compareOp .GtE) opGe:=by
 intro A ok ρ hp s va vb ra rb Q E q H ha hb
 obtain⟨_,_,rfl,rfl,q⟩:=CL q
 cases ha;cases hb
 exact PyProof.Rows.ge_int (PostE.pure0 q H (.bool ..))
def opNotIn:Op2:=fun va vb Q hp=>match va,vb with
 | .d (.str y),.d (.str x)=>Q (.d (.bool (!Txt.contains x y))) hp
 | va,vb=>∃ x l,dget va hp=some x∧lget vb hp=some l∧okD x=true∧okD (.list l)=true∧Q (.d (.bool (!l.any fun y=>y.eqv x))) hp
theorem EA:Sound2 K r (compareOp .NotIn) opNotIn:=by
 intro A ok ρ hp s va vb ra rb Q E q H ha hb
 obtain⟨_,_,rfl,rfl,q⟩ | q:=GB q
 ·cases ha;cases hb
  exact SB.notContains (PostE.pure0 q H (.bool ..))
 ·obtain⟨x,l,e1,e2,o1,o2,q⟩:=q
  obtain⟨as,r1⟩:=CN H ha e1
  obtain⟨b,ys,n',rfl,h2,d2⟩:=Aj H hb e2
  obtain⟨bs,r2⟩:=d2.reads
  have:=(B5 o1).2
  have:=ok.un
  exact SeqAt.notIn_list_reads (.list h2 rfl rfl r2) r1 (F6 o2).1 (B5 o1).1 (by lia) (PostE.pure0 q H (.bool ..))
def opIs:Op2:=fun va vb Q hp=>match isNoneV vb with | true=>Q (.d (.bool (isNoneV va))) hp | false=>False
theorem JR:Sound2 K r (compareOp .Is) opIs:=by
 intro A ok ρ hp s va vb ra rb Q E q H ha hb
 have e:=C2 hb
 unfold opIs at q
 cases h:isNoneV vb with
 | false=>rw[h] at q;exact q.elim
 | true =>
  rw[h] at q e
  cases eq_of_beq e
  exact is_none (PostE.pure0 q H (by rw[C2 ha];exact .bool ..))
def mCount:MS:=fun x vas Q hp=>match vas with | [v]=>(match v with | .d (.str y)=>Q (.d (.int (Txt.count x y))) hp | _=>False) | _=>False
theorem LP:SoundMS K r "str.count" mCount:=by
 intro A ok ρ hp s x t vas ras Q E q H hv
 cases hv with
 | nil=>exact q.elim
 | cons a b=>cases b with
  | cons=>exact q.elim
  | nil=>obtain⟨_,rfl,q⟩:=C0 q;cases a;exact SC.count (PostE.pure _ q H (.int ..))
def sAugItem(f:Op2)(o i a:XE):XS:=fun vs Q=>o vs fun vo=>i vs fun vi hp=>match vi with
 | .d (.int k)=>(-2 ^ 63≤k∧k<2 ^ 63)∧∃ l y,lget vo hp=some l∧(seqIndex? k l.length).bind (l[·]?)=some y∧a vs (fun v=>f (.d y) v fun w hp=>isD w fun x=>putItem vo vi x (fun hp'=>Q .next vs hp') hp) hp
 | _=>False
theorem IR{op:Operator}{o i value:Expr}{pos' pos:Pos}{f:Op2}{po pi a:XE}(hf:Sound2 K r (inplaceOp op) f)(ho:SoundE K r env look o po)(hi:SoundE K r env look i pi)(ha:SoundE K r env look value a)
  (hs:∀ ov iv new,augStore i ov iv new=(do holding [new,ov,iv] (setItem ov iv new);release [new,ov,iv] [];pure .next)) :
  SoundS K r env look (.AugAssign (.Subscript o i pos') op value pos) (sAugItem f po pi a):=by
 intro A ok vs Q hp ρ s E q F H
 refine wpAny_AugAssign_SubscriptAny (ho.then ok q F H ?_) hs
 intro vo hp₁ ρ₁ h₁ t₁ ro q₁ H₁ S₁ r₁ F₁
 refine hi.then ok (s:={ s with heap:=h₁,toks:=t₁ }) q₁ F₁ H₁ ?_
 intro vi hp₂ ρ₂ h₂ t₂ ri q₂ H₂ S₂ r₂ F₂
 refine viaP fun u zf=>?_
 obtain⟨k,rfl,⟨hlo,hhi⟩,l,y,el,ey,q₂⟩:=BZ q₂
 have r₁':=r₁.step S₂ H₁
 obtain⟨ad,xs,n,rfl,hL,d⟩:=Aj H₂ r₁' el
 obtain⟨j,hj,hy⟩:=Option.bind_eq_some_iff.mp ey
 obtain⟨w,hw,dw⟩:=d.get hy
 have z:=d.length
 simp only[Array.length_toList] at z
 obtain⟨p1,p2,p3⟩:=CR hj
 have key:wpAny (model K.prog K.w) A (eval value env) (fun v s₄=>wpAny (model K.prog K.w) A (inplaceOp op w v) (fun new s₅ =>
   wpAny (model K.prog K.w) A (setItem (.ref ad) ri new) (fun u=>PostS K env look ρ s Q .next) E s₅) E s₄) E { s with heap:=h₂,toks:=t₂ }:=by
  refine ha.then ok (s:={ s with heap:=h₂,toks:=t₂ }) q₂ F₂ H₂ ?_
  intro va hp₃ ρ₃ h₃ t₃ ra q₃ H₃ S₃ r₃ F₃
  refine wpAny_mono (hf A ok ρ₃ hp₃ { s with heap:=h₃,toks:=t₃ } (.d y) va w ra _ E q₃ H₃ (DR.step S₃ H₂ dw) r₃) ?_ (fun u u x=>x)
  rintro rn s' ⟨new,hp₄,ρ₄,h₄,t₄,rfl,q₄,H₄,S₄,r₄⟩
  cases new with
  | d x =>
   refine wpAny_mono (GO (s:={ s with heap:=h₄,toks:=t₄ }) (Q:=fun hp'=>Q .next vs hp') (vo:=vo) (vi:=.d (.int k)) (x:=x) (hp:=hp₄) q₄ H₄ ((r₁'.step S₃ H₂).step S₄ H₃) ((r₂.step S₃ H₂).step S₄ H₃) r₄) ?_ (fun u u x=>x)
   rintro _ s' ⟨hp',h',rfl,q',H',S'⟩
   exact⟨.next,vs,hp',ρ₄,h',t₄,rfl,q',(F₃.step H₃ S₄).step H₄ S',H',((((S₁.trans S₂).trans S₃).trans S₄).trans S').toS,trivial⟩
  | _=>exact q₄.elim
 cases r₂
 refine zf ?_
 rcases Int.lt_or_le k 0 with hneg | hpos
 ·have:=p3 hneg
  exact wpAny_getItem_list_neg hL.isList hneg (by lia) hlo (by rw[z,this.2];simpa using hw) key
 ·exact wpAny_getItem_list hL.isList hpos hhi (by rw[p2 hpos];simpa using hw) key
end
section
variable{K:KX}{Kf:W.Frag}{mg mb:Str→Option Value}{r:Nat}{env:Env}{look:Str→Option Nat}
def lStar(a:XE):XL:=fun vs Q=>a vs fun v hp=>∃ l,lget v hp=some l∧l.length≤sizeLine∧Q (l.map .d) hp
theorem ES{e:Expr}{p:Pos}{a:XE}(ha:SoundE K r env look e a)(he:starEach [.Starred e p] env=(true,eval e env)::starEach [] env):SoundL K r env look [.Starred e p] (lStar a):=by
 intro A ok pos vs Q hp ρ s E q F H
 refine W.items_star (ha.then ok q F H ?_) he
 intro va hp₁ ρ₁ h₁ t₁ ra q₁ H₁ S₁ r₁ F₁
 refine viaP fun y zf=>?_
 obtain⟨l,el,hz,q₁⟩:=q₁
 obtain⟨b,xs,n,rfl,hL,d⟩:=Aj H₁ r₁ el
 have z:=d.length
 simp only[Array.length_toList] at z
 refine zf ?_
 unfold W.StarOf notIterableAtAll
 refine wpAny_bind (wpAny_specialOf (s:={ s with heap:=h₁,toks:=t₁ }) (T := "list") ⟨_,hL,rfl⟩ PySem.F.slot_list_iter.lookup (wpAny_pure ⟨rfl,?_⟩))
 refine wpAny_collect_seq b (.inl rfl) hL rfl rfl (fun h₂ k₂=>?_) (Tt (Qe z) hz)
 have S₂:Step K ρ₁ h₁ ρ₁ h₂:=Step.grow k₂
 refine spliced_none ?_
 rw[List.append_nil]
 exact⟨l.map .d,hp₁,ρ₁,h₂,t₁,rfl,q₁,H₁.grow k₂,S₁.trans S₂,(d.step S₂ H₁).vrs⟩
theorem Db(G:KG K mg mb)(X:KF K Kf){f:Str}{a:Addr}{e:Expr}{args:List Expr}{p pos:Pos}{F:FT}{l:XL}(hF:SoundF K r (.ref a) [] F)(hl:SoundL K r env look (e::args) l)
  (hkp:W.keepIn Kf (.ref a)=true) (hk:env.kindOf f=some .globalImplicit) (hg:mg f=some (.ref a)) (hd:(f == ("__debug__" : Str))=false)
  (he:starEach (e::args) env=(false,eval e env)::starEach args env) (hst:(backTo pos (starEach args env)).any (·.1)=true) :
  SoundE K r env look (.Call (.Name f p) (e::args) [] pos) (xCall F l):=by
 intro A ok vs Q hp ρ s E q FR H
 refine wpAny_Call_Name_kw (Calls.Name_function_global FR.kd hk (Calls.loadGlobal_global (mg:=mg) ?_ hg ?_) hd)
 ·rw[FR.gl];exact H.nsOf G.g G.g'
 refine W.callWith_S2 (X.now H) hkp (wpAny_mono (hl A ok pos vs _ hp ρ s E q FR H) ?_ (fun z z x=>x)) he hst
 rintro rvs s' ⟨l,hp₁,ρ₁,h₁,t₁,rfl,q₁,H₁,S₁,r₁⟩
 refine⟨X.now H₁,?_⟩
 exact wpAny_mono (hF.call A ok ρ₁ hp₁ { s with heap:=h₁,toks:=t₁ } l rvs [] Q E rfl q₁ H₁ (by rw[List.append_nil];exact r₁)) (fun z z x=>PostE.after S₁ x) (fun z z x=>x)
end
section
variable{K:KX}{Kf:W.Frag}{mg mb:Str→Option Value}{r:Nat}{env:Env}{look:Str→Option Nat}
def xRepl(x y:Str)(a:XE):XE:=fun vs Q=>a vs fun v hp=>match v with | .d (.str z)=>z.length+(z.length+1)*y.length≤16777216∧Q (.d (.str (Txt.replace z x y))) hp | _=>False
theorem IU{A:Around}{ρ:Rho}{s:Shared}{E:Value→Shared→Prop}{Q:V→List O→Prop}(ht:1≤s.toks)
  {o:Expr} {x y:Str} {k1 k2:Nat} {p1 p2 apos pos:Pos} (hxy:(x == y)=false)
  (hbase:attributeBase o "replace" env (eval o env)=eval o env)
  (hfew:((backTo pos (starEach [.Constant (.str x) k1 p1,.Constant (.str y) k2 p2] env)).all (fun x => !x.1) && (backToKw pos (keywordEach [] env)).all (fun x=>x.1.isSome)
   && decide (([.Constant (.str x) k1 p1,.Constant (.str y) k2 p2]:List Expr).length+([]:List Keyword).length+(if ([]:List Keyword).isEmpty then 0 else 1)<30))=true)
  (hline:(apos.endLine == pos.line)=true)
  (he:backTo pos (starEach [.Constant (.str x) k1 p1,.Constant (.str y) k2 p2] env)=[(false,eval (.Constant (.str x) k1 p1) env),(false,eval (.Constant (.str y) k2 p2) env)])
  (h:wpAny (model K.prog K.w) A (eval o env) (PostE K ρ s (fun v hp=>match v with | .d (.str z)=>z.length+(z.length+1)*y.length≤16777216∧Q (.d (.str (Txt.replace z x y))) hp | _=>False)) E s) :
  wpAny (model K.prog K.w) A (eval (.Call (.Attribute o "replace" apos) [.Constant (.str x) k1 p1,.Constant (.str y) k2 p2] [] pos) env) (PostE K ρ s Q) E s:=by
 refine wpAny_Call_method_lateS hbase hfew hline (wpAny_with_toks ht (wpAny_mono h ?_ (fun w w x w=>x)))
 rintro ra s₁ ⟨va,hp₁,ρ₁,h₁,t₁,rfl,q₁,H₁,S₁,r₁⟩ ht₁
 obtain⟨z,rfl,hz,q₁⟩:=C0 q₁
 cases r₁
 rename_i t
 refine⟨"str", "str.replace", PySem.F.plainAttrs_str,PySem.F.slot_str_replace,PySem.F.type_str_replace,typeIs_str _ _ _,(fun w e=>nomatch e),AO (by rw[he];rfl) ?_⟩
 rw[he]
 refine Calls.spliced_cons (wpAny_Constant_str (Calls.spliced_cons (wpAny_Constant_str (Calls.spliced_nil ?_))))
 refine SC.replace (Nat.ne_of_gt ht₁) (Nat.succ_ne_zero _) (Nat.ne_of_lt (Nat.lt_succ_self _)) hxy hz fun t' k=>?_
 exact⟨_,hp₁,ρ₁,h₁,k,rfl,q₁,H₁,S₁,.str ..⟩
end
section
variable{K:KX}{Kf:W.Frag}{mg mb:Str→Option Value}{r:Nat}{env:Env}{look:Str→Option Nat}
structure Zs(K:KX)(ρ:Rho)(h:Heap)(m:Addr)(Z:Addr→Prop):Prop where
 new:∀ a,Z a→K.New a
 off:∀ a,Z a→a≠m→Off ρ a
 mem:m∈mu ρ
 kind:∀ a,Z a→∀ o,h.get? a=some o→o.cls≠.type "range" ∧ (∀ es n,o.data≠.dict es n)∧(∀ v,o.data≠.cell v)∧((∀ vs n,o.data≠.seq vs n)∨a=m)
theorem Zs.seq{ρ:Rho}{h:Heap}{m:Addr}{Z:Addr→Prop}(z:Zs K ρ h m Z){a:Addr}{o:Obj}{vs:Array Value}{n:Nat}(e:h.get? a=some o)(hd:o.data = .seq vs n)(hm:a ∉ mu ρ):¬ Z a:=fun za =>
 (z.kind a za o e).2.2.2.elim (fun q=>q _ _ hd) (fun q=>hm (q ▸ z.mem))
theorem VR.many{ρ:Rho}{h h':Heap}{m:Addr}{Z:Addr→Prop}(z:Zs K ρ h m Z)(hs:∀ c o,¬ Z c→h.get? c=some o→h'.get? c=some o){v:V}{rv:Value}(d:VR ρ h v rv):VR ρ h' v rv:=by
 cases v with
 | d x=>exact DR.mono (fun a o vs n e hd hm=>⟨hs a o (z.seq e hd hm) e,hm⟩) d
 | r i=>exact d
 | rng a b c =>
  obtain⟨q,t,u,w,rfl,e,hm⟩:=d
  exact⟨q,t,u,w,rfl,hs _ _ (fun zq=>(z.kind q zq _ e).1 rfl) e,hm⟩
 | g v=>exact d
theorem FRel.many{vs:List (Option V)}{ρ:Rho}{h h':Heap}{m:Addr}{Z:Addr→Prop}(F:FRel K env look vs ρ h)(z:Zs K ρ h m Z)(hs:∀ c o,¬ Z c→h.get? c=some o→h'.get? c=some o):FRel K env look vs ρ h':=by
 obtain⟨mm,⟨o',es,ep,e',dd,rr⟩,f⟩:=F.ns
 refine⟨F.kd,F.gl,F.bi,F.lb,F.lo,⟨mm,⟨o',es,ep,hs _ _ (fun zq=>(z.kind _ zq _ e').2.1 _ _ dd) e',dd,rr⟩,fun x k v a b c=>let ⟨rv,p,q⟩:=f x k v a b c;⟨rv,p,q.many z hs⟩⟩,?_,F.ci,F.ij⟩
 intro x hx
 obtain⟨c,o',ov,a1,a2,a3,a4,a5,a6⟩:=F.cl x hx
 exact⟨c,o',ov,a1,a2,a3,hs _ _ (fun zq=>(z.kind _ zq _ a4).2.2.1 _ a5) a4,a5,fun k v b1 b2=>let ⟨rv,p,q⟩:=a6 k v b1 b2;⟨rv,p,q.many z hs⟩⟩
theorem StepS.many{ρ₁ ρ':Rho}{h₁ h h':Heap}{Z:Addr→Prop}(S:StepS K env ρ₁ h₁ ρ' h)(hz:∀ a,Z a→h₁.get? a=none)(hs:∀ c o,¬ Z c→h.get? c=some o→h'.get? c=some o):StepS K env ρ₁ h₁ ρ' h' :=
 have nz:∀ {b o},h₁.get? b=some o→¬ Z b:=fun e zb=>by rw[hz _ zb] at e;cases e
 ⟨S.pre,S.new,fun b o e h1 h2 h3=>hs b o (nz e) (S.keep b o e h1 h2 h3),fun b o e=>let ⟨o',e'⟩:=S.dom b o e;⟨o',hs b o' (nz e) e'⟩⟩
theorem HRel.many{ρ:Rho}{hp:List O}{h h':Heap}{Z:Addr→Prop}{j:Nat}{p:P}(H:HRel K ρ hp h)(ej:hp[j]?=some .own)(ep:ρ[j]?=some p)(z:Zs K ρ h p.m Z)
  (hs:∀ c o,¬ Z c→h.get? c=some o→h'.get? c=some o) (ho:OR K ρ h' j p .own):HRel K ρ hp h':=by
 have pm:=List.mem_of_getElem? ep
 have hd:∃ o,h'.get? p.m=some o:=let ⟨_,_,_,e⟩:=ho;⟨_,e⟩
 have nm:∀ {i:Nat} {q:P},ρ[i]?=some q→i≠j→q.m≠p.m:=by
  intro i q eq hij heq
  have h1:(mu ρ)[i]?=some p.m:=by simp[mu,eq,heq]
  have h2:(mu ρ)[j]?=some p.m:=by simp[mu,ep]
  exact hij ((List.getElem?_inj (List.getElem?_eq_some_iff.mp h1).1 H.nd).mp (h1.trans h2.symm))
 have nf:∀ {q:P} {a:Addr},q∈ρ→a∈q.f→¬ Z a:=by
  intro q a hq ha za
  have hne:a≠p.m:=fun e=>(H.fx q hq a ha).1 (e ▸ List.mem_map.mpr ⟨p,pm,rfl⟩)
  exact(z.off a za hne q hq).2 ha
 have nq:∀ {q:P},q∈ρ→q.m≠p.m→¬ Z q.m:=fun hq hne zq=>(z.off _ zq hne _ hq).1 rfl
 refine⟨H.tbd,fun b o e q=>hs b o (fun zb=>KX.ne (z.new b zb) e rfl) (H.keepG b o e q),
  let ⟨m,okm,e⟩:=H.tab;⟨m,okm,hs _ _ (fun zb=>H.newTb (z.new _ zb) rfl) e⟩,H.len,H.nd,H.hi,H.fx,fun q hq=>⟨?_,fun a ha=>let ⟨o,e⟩:=(H.lt q hq).2 a ha;⟨o,hs _ _ (nf hq ha) e⟩⟩,?_⟩
 ·by_cases hm:q.m=p.m
  ·rw[hm];exact hd
  ·obtain⟨o,e⟩:=(H.lt q hq).1
   exact⟨o,hs _ _ (nq hq hm) e⟩
 ·intro i oi q e e'
  by_cases hij:i=j
  ·subst hij
   rw[ej] at e;rw[ep] at e'
   cases e;cases e'
   exact ho
  ·have hq:=List.mem_of_getElem? e'
   refine(H.ob i oi q e e').keeps H (fun b ob x y=>hs b ob ?_ x) (fun a o vs n e hd hm=>⟨hs a o (z.seq e hd hm) e,hm⟩) (List.prefix_refl _)
   rcases y with y | rfl
   ·exact nf hq y
   ·exact nq hq (nm e' hij)
noncomputable def zipD(a b:List PyData):List PyData:=List.zipWith (fun x y=>.tuple [x,y]) a b
def twoL(l:List V)(k:List PyData→List PyData→Prop):Prop:=match l with
 | [v,w]=>(match v with | .d x=>(match x with | .list a=>(match w with | .d y=>(match y with | .list b=>a.length=b.length∧k a b | _=>False) | _=>False) | _=>False) | _=>False)
 | _=>False
theorem Hg{l:List V}{k:List PyData→List PyData→Prop}(q:twoL l k):∃ a b,l=[.d (.list a),.d (.list b)]∧a.length=b.length∧k a b:=by
  cases l with
  | nil=>exact q.elim
  | cons v l=>cases l with
   | nil=>exact q.elim
   | cons w l=>cases l with
   | cons _ _=>exact q.elim
   | nil=>cases v with
    | d x=>cases x with
      | list a=>cases w with
        | d y=>cases y with
          | list b=>exact⟨a,b,rfl,q⟩
          | _=>exact q.elim
        | _=>exact q.elim
      | _=>exact q.elim
    | _=>exact q.elim
noncomputable def forZ(j:Nat)(tgt:XT)(body:XS)(Q:QS):List PyData→List (Option V)→List O→Prop
 | [],vs,hp=>hp[j]?=some .own∧Q .next vs hp
 | x::xs,vs,hp=>hp[j]?=some .own∧tgt (.d x) vs (fun vs' hp'=>body vs' (fun fl vs'' hp''=>match fl with
  | .next=>forZ j tgt body Q xs vs'' hp''
  | .cont=>forZ j tgt body Q xs vs'' hp''
  | .brk=>Q .next vs'' hp''
  | .ret v=>Q (.ret v) vs'' hp'') hp') hp
def sForZ(tgt:XT)(p:XL)(body:XS):XS:=fun vs Q=>p vs fun l hp=>twoL l fun a b=>forZ hp.length tgt body Q (zipD a b) vs (hp++[.own])
def ZZ(n:Addr)(a:Addr):Prop:=a=n+4∨a=n+3∨a=n∨a=n+1
structure ZipS(h:Heap)(n l1 l2:Addr)(k:Nat)(xs ys:Array Value)(f:Value):Prop where
 z:IsZip h (n+4) (n+2) (n+3) f
 ti:IsPair h (n+2) (.ref n) (.ref (n+1))
 g1:h.IsListIter n l1 k
 g2:h.IsListIter (n+1) l2 k
 h1:h.IsList l1 xs
 h2:h.IsList l2 ys
theorem ZipS.zs{ρ:Rho}{h:Heap}{n l1 l2:Addr}{k:Nat}{xs ys:Array Value}{f:Value}{p:P}(X:ZipS h n l1 l2 k xs ys f)(hn:∀ a,ZZ n a→K.New a)(ho:∀ a,ZZ n a→a≠n+3→Off ρ a)(hp:p∈ρ)(e:p.m=n+3)
  (hT:∃ a b:Value,h.get? (n+3)=some { cls:=.type "tuple", data:=.seq #[a,b] }):Zs K ρ h (n+3) (ZZ n) where
 new:=hn
 off:=ho
 mem:=List.mem_map.mpr ⟨p,hp,e⟩
 kind:=by
  refine viaP fun z zf=>?_
  obtain⟨o1,a1,a2,a3⟩:=X.g1
  obtain⟨o2,b1,b2,b3⟩:=X.g2
  obtain⟨u,v,hT⟩:=hT
  refine zf ?_
  rintro a (rfl | rfl | rfl | rfl) o e
  ·rw[X.z] at e;cases e;exact⟨by simp,(fun z z q=>nomatch q),(fun z q=>nomatch q),.inl (fun z z q=>nomatch q)⟩
  ·rw[hT] at e;cases e;exact⟨by simp,(fun z z q=>nomatch q),(fun z q=>nomatch q),.inr rfl⟩
  ·rw[a1] at e;cases e;rw[a2,a3];exact⟨by simp,(fun z z q=>nomatch q),(fun z q=>nomatch q),.inl (fun z z q=>nomatch q)⟩
  ·rw[b1] at e;cases e;rw[b2,b3];exact⟨by simp,(fun z z q=>nomatch q),(fun z q=>nomatch q),.inl (fun z z q=>nomatch q)⟩
inductive TurnZ(K:KX)(env:Env)(look:Str→Option Nat)(s:Shared)(ρ₁:Rho)(h₁:Heap)(j:Nat)(l1 l2:Addr)(xs ys:Array Value)(W:List PyData→List (Option V)→List O→Prop)(n:Nat)(s':Shared):Prop
 | mk (k:Nat) (a b:List PyData) (vs':List (Option V)) (hp':List O) (ρ':Rho) (h':Heap) (t:Nat) (p:P) (en:n=a.length) (el:a.length=b.length) (e:s'={ s with heap:=h',toks:=t }) (q:W (zipD a b) vs' hp')
   (F:FRel K env look vs' ρ' h') (H:HRel K ρ' hp' h') (X:ZipS h' h₁.objs.size l1 l2 k xs ys .none) (d1:DRs h' (mu ρ') (xs.toList.drop k) a) (d2:DRs h' (mu ρ') (ys.toList.drop k) b)
   (ep:ρ'[j]?=some p) (pm:p.m=h₁.objs.size+3) (off:∀ a,ZZ h₁.objs.size a→a≠h₁.objs.size+3→Off ρ' a) (nm:∀ a,(a=h₁.objs.size+2∨a=l1∨a=l2)→a ∉ mu ρ') (S:StepS K env ρ₁ h₁ ρ' h')
theorem HZ{A:Around}{s:Shared}{E:Value→Shared→Prop}{prog:Program}{w:World}{z TI TO i1 i2 l1:Addr}{k:Nat}{xs:Array Value}{Q:Option Value→Shared→Prop}(hh:A.handled=none)(hne:i1≠z)(hlz:l1≠z)
  (hz:IsZip s.heap z TI TO .none) (hTI:IsPair s.heap TI (.ref i1) (.ref i2)) (h1:s.heap.IsListIter i1 l1 k) (hl1:s.heap.IsList l1 xs) (hx:xs[k]?=none)
  (hQ:∀ h',(∀ c o,c≠z→c≠i1→s.heap.get? c=some o→h'.get? c=some o)→Q none { s with heap:=h' }):wpAny (model prog w) A (pyNext (.ref z)) Q E s:=by
 have hT:s.TypeIs (.ref z) "zip" := ⟨_,hz,rfl⟩
 unfold pyNext
 refine wpAny_bind (wpAny_attempt (wpAny_callSpecial?_slot (name:=Str.ofString "__next__") hT F.slot_zip_next
  (wpAny_call_entry F.slot_zip_next hT F.entry_zip_next ?_ (F.args_zip_next_1 _))))
 show wpAny _ _ (field (.ref z) 2 >>= _) _ _ _
 refine wpAny_bind (wpAny_field hz rfl (x:=.bool false) rfl ?_)
 show wpAny _ _ (field (.ref z) 3 >>= _) _ _ _
 refine wpAny_bind (wpAny_field hz rfl (x:=.ref TI) rfl ?_)
 refine wpAny_bind (wpAny_seqItems hTI rfl ?_)
 show wpAny _ _ (Builtin.SmallTypes.ownedTupleIsFree (.ref z) >>= _) _ _ _
 refine wpAny_bind ?_
 unfold Builtin.SmallTypes.ownedTupleIsFree
 refine wpAny_bind (wpAny_field hz rfl (x:=.none) rfl (wpAny_pure ?_))
 simp only[if_true]
 refine wpAny_bind (wpAny_rule (wpAny_bind (wpAny_field hz rfl (x:=.ref TO) rfl (wpAny_bind (wpAny_setField_rec hz (by simp) fun h₁ hz₁ hs₁=>?_)))))
 replace hz₁:IsZip h₁ z TI TO .ellipsis:=hz₁
 refine wpAny_bind ?_
 simp only[List.zipIdx_cons,List.zipIdx_nil,List.forIn_cons,List.forIn_nil]
 refine wpAny_bind (wpAny_bind (wpAny_onRaise ?_))
 show wpAny _ _ (Builtin.SmallTypes.nextOf (.ref i1) >>= _) _ _ _
 refine wpAny_bind (wpAny_nextOf_list_end (A:=A.in1) hh (h1.extBut hs₁.extBut hne) (hl1.extBut hs₁.extBut hlz) hx fun h₂ e hs₂ he=>?_)
 obtain⟨oe,hoe,hce⟩:=he
 have hz₂:IsZip h₂ z TI TO .ellipsis:=hs₂ _ _ hne.symm hz₁
 have hez:e≠z:=fun x=>by subst x;rw[hz₂] at hoe;cases hoe;simp at hce
 refine wpAny_setField_rec hz₂ (by simp) fun h₃ y hs₃=>?_
 refine wpAny_bind (wpAny_isInstance (T := "StopIteration") (b:=true) ⟨oe,hs₃.extBut _ _ hez hoe,hce⟩ isSubtype_stop ?_)
 exact wpAny_pure (hQ h₃ fun c o c1 c2 x=>hs₃.extBut _ _ c1 (hs₂ _ _ c2 (hs₁.extBut _ _ c1 x)))
end
section
variable{K:KX}{Kf:W.Frag}{mg mb:Str→Option Value}{r:Nat}{env:Env}{look:Str→Option Nat}
set_option tactic.hygienic true in
theorem Ms(G:KG K mg mb){elts:List Expr}{kt:Nat}{pt pz posz pos:Pos}{args:List Expr}{body:List Stmt}{tgt:XT}{l:XL}{b:XS}
  (ht:SoundT K r env look (.Tuple elts kt pt) tgt) (hl:SoundL K r env look args l) (hb:SoundSs K r env look body b)
  (hkz:env.kindOf "zip" = some .globalImplicit) (hgz:mg "zip" = none) (hmz:mb "zip" = some (.type "zip"))
  (hbk:(backTo posz (starEach args env)).any (·.1)=false) (hs:∀ x,foldedSetIterable (.Call (.Name "zip" pz) args [] posz) env x=pure x) :
  SoundS K r env look (.For (.Tuple elts kt pt) (.Call (.Name "zip" pz) args [] posz) body [] pos) (sForZ tgt l b):=by
 intro A ok vs Q hp ρ s E q F H
 refine wpAny_For (wpAny_Call_Name_kw (Calls.Name_function_global F.kd hkz (Calls.loadGlobal_builtin (mg:=mg) (mb:=mb) ?_ hgz ?_ hmz ?_) rfl)) hs
 ·rw[F.gl];exact H.nsOf G.g G.g'
 ·rw[F.bi];exact H.nsOf G.b G.b'
 refine BJ hbk (wpAny_mono (hl A ok posz vs _ hp ρ s E q F H) ?_ (fun w w x=>x))
 intro rvs s' zx
 refine viaP fun w zf=>?_
 obtain⟨l',hp₁,ρ₁,h₁,t₁,rfl,q₁,H₁,S₁,r₁⟩:=zx
 obtain⟨a,b',rfl,hab,q₁⟩:=Hg q₁
 cases r₁ with | cons ra r₁=>cases r₁ with | cons rb r₁=>cases r₁ with | nil =>
 cases ra with | list hl1 m1 d1=>cases rb with | list hl2 m2 d2 =>
 rename_i l1 xs n1 l2 ys n2
 refine zf ?_
 refine call_zip_2 (s:={ s with heap:=h₁,toks:=t₁ }) (IsL.isList hl1) (IsL.isList hl2) ?_
 intro h₂ hz hTI hTO g1 g2 hsz kp
 refine wpAny_pyIter_zip hz ?_
 have F₁:=F.step H S₁
 have none:∀ k,h₁.get? (h₁.objs.size+k)=none:=fun k=>AA (Nat.le_add_right _ _)
 obtain⟨H₂,S₂⟩:=H₁.add kp (p:=⟨h₁.objs.size+3,h₁.objs.size+3,[]⟩) (o:=.own) (none 3) ⟨_,hTO⟩ (fun w h=>nomatch h) ⟨rfl,_,_,hTO⟩
 have ZN:∀ a,ZZ h₁.objs.size a→h₁.get? a=Option.none:=by rintro a (rfl | rfl | rfl | rfl)<;>first | exact none _ | exact AA (Nat.le_refl _)
 have zn:∀ a,ZZ h₁.objs.size a→K.New a:=fun a za=>H₁.fresh (ZN a za)
 have lt1:l1<h₁.objs.size:=Heap.lt_size hl1
 have lt2:l2<h₁.objs.size:=Heap.lt_size hl2
 have D:=zipApart_new lt1 lt2
 have tb1:l1≠K.tb:=H₁.seqTb hl1 rfl
 have tb2:l2≠K.tb:=H₁.seqTb hl2 rfl
 have tiN:K.New (h₁.objs.size+2):=H₁.fresh (none 2)
 have offs:∀ c,ZZ h₁.objs.size c→c≠h₁.objs.size+3→Off (ρ₁++[(⟨h₁.objs.size+3,h₁.objs.size+3,[]⟩:P)]) c:=by
  intro c zc hc p hp
  rcases List.mem_append.mp hp with hp | hp
  ·exact H₁.off (ZN c zc) p hp
  ·rw[List.mem_singleton.mp hp];exact⟨hc,fun h=>nomatch h⟩
 have nms:∀ a,(a=h₁.objs.size+2∨a=l1∨a=l2)→a ∉ mu (ρ₁++[(⟨h₁.objs.size+3,h₁.objs.size+3,[]⟩:P)]):=by
  intro a ha hm
  simp only[mu,List.map_append,List.map_cons,List.map_nil,List.mem_append,List.mem_singleton] at hm
  rcases ha with rfl | rfl | rfl
  ·exact hm.elim (H₁.notMu (none 2)) (fun e=>by simp at e)
  ·exact hm.elim m1 (fun e=>by subst e;exact absurd lt1 (by simp))
  ·exact hm.elim m2 (fun e=>by subst e;exact absurd lt2 (by simp))
 refine codeAny_forLoop_any (TurnZ K env look s ρ₁ h₁ hp₁.length l1 l2 xs ys (forZ hp₁.length tgt b Q)) ?_ a.length
  ⟨0,a,b',vs,_,_,h₂,t₁,⟨h₁.objs.size+3,h₁.objs.size+3,[]⟩,rfl,hab,rfl,q₁,F₁.step H₁ S₂,H₂,⟨hz,hTI,g1,g2,(IsL.isList hl1).at fun o e=>kp _ _ e,(IsL.isList hl2).at fun o e=>kp _ _ e⟩,
   d1.step S₂ H₁,d2.step S₂ H₁,by rw[← H₁.len];simp,rfl,offs,nms,S₂.toS⟩
 rintro n s' ⟨k,as,bs,vs',hp',ρ',h',t',p,rfl,el,rfl,q',F',H',X,e1,e2,ep,pm,off,nm,S'⟩
 have own:∀ {hp:List O},hp[hp₁.length]?=some .own→∀ {h:Heap} {ρ:Rho},HRel K ρ hp h→ρ[hp₁.length]?=some p→∃ u v:Value,h.get? (h₁.objs.size+3)=some { cls:=.type "tuple", data:=.seq #[u,v] }:=by
  intro hp ej h ρ H ep
  obtain⟨_,u,v,e⟩:=H.ob _ _ _ ej ep
  exact⟨u,v,pm ▸ e⟩
 cases as with
 | nil =>
  cases bs with
  | cons=>exact absurd el (by simp)
  | nil =>
   obtain⟨ej,q'⟩:=q'
   have hx:xs[k]?=Option.none:=by
    cases hd:xs.toList.drop k with
    | nil=>simpa using CM hd
    | cons=>rw[hd] at e1;cases e1
   refine HZ (s:={ s with heap:=h',toks:=t' }) ok.hh D.i1z D.l1z X.z X.ti X.g1 X.h1 hx fun h'' kp''=>?_
   have z:=X.zs zn off (List.mem_of_getElem? ep) pm (own ej H' ep)
   have hs':∀ c o,¬ ZZ h₁.objs.size c→h'.get? c=some o→h''.get? c=some o:=fun c o zc e=>kp'' c o (fun e=>zc (.inl e)) (fun e=>zc (.inr (.inr (.inl e)))) e
   have hto:h''.get? (h₁.objs.size+3)=h'.get? (h₁.objs.size+3):=by
    obtain⟨u,v,e⟩:=own ej H' ep
    rw[e];exact kp'' _ _ D.TOz D.TOi1 e
   obtain⟨pa,u,v,pe⟩:=H'.ob _ _ _ ej ep
   have H'':=H'.many ej ep (pm ▸ z) hs' ⟨pa,u,v,by rw[pm] at pe ⊢;exact hto.trans pe⟩
   exact wpAny_execs_nil ⟨.next,vs',hp',ρ',h'',t',rfl,q',F'.many z hs',H'',S₁.toS.trans (S'.many ZN hs'),trivial⟩
 | cons x as =>
  cases bs with
  | nil=>exact absurd el (by simp)
  | cons y bs =>
  refine viaP fun w zf=>?_
  obtain⟨ej,q'⟩:=q'
  generalize hxs:xs.toList.drop k=u1 at e1
  generalize hys:ys.toList.drop k=u2 at e2
  cases e1 with | cons dx e1=>cases e2 with | cons dy e2 =>
  rename_i rx u1 ry u2
  obtain⟨gx,hxs'⟩:=BU hxs
  obtain⟨gy,hys'⟩:=BU hys
  obtain⟨u,v,hTO'⟩:=own ej H' ep
  refine zf ?_
  refine wpAny_pyNext_zip_item (s:={ s with heap:=h',toks:=t' }) D X.z X.ti hTO' X.g1 X.g2 X.h1 X.h2 (by simpa using gx) (by simpa using gy) fun h'' w1 w2 w3 w4 w5 w6 kp''=>?_
  have z:=X.zs zn off (List.mem_of_getElem? ep) pm ⟨u,v,hTO'⟩
  have zlt:h₁.objs.size+4<h'.objs.size:=Heap.lt_size X.z
  refine wpAny_letOwnedTupleGo_zip (s:={ s with heap:=h'',toks:=t' }) w1 fun h3 y1 hs3=>?_
  have k3:∀ c o,c≠h₁.objs.size+4→h''.get? c=some o→h3.get? c=some o:=fun c o hc e=>hs3.extBut c o hc e
  have hs':∀ c o,¬ ZZ h₁.objs.size c→h'.get? c=some o→h3.get? c=some o:=fun c o zc e=>k3 c o (fun e=>zc (.inl e)) (kp'' c o (fun e=>zc (.inl e)) (fun e=>zc (.inr (.inl e))) (fun e=>zc (.inr (.inr (.inl e)))) (fun e=>zc (.inr (.inr (.inr e)))) e)
  obtain⟨pa,_⟩:=H'.ob _ _ _ ej ep
  have H3:=H'.many ej ep (pm ▸ z) hs' ⟨pa,rx,ry,by rw[pm];exact k3 _ _ D.TOz w2⟩
  have F3:=F'.many z hs'
  have S3:=S'.many ZN hs'
  have nz:∀ {c},c<h₁.objs.size→¬ ZZ h₁.objs.size c:=by
   intro c hc zc
   rcases zc with e | e | e | e
   ·exact absurd hc (by rw[e];exact Nat.not_lt.mpr (Nat.le_add_right _ _))
   ·exact absurd hc (by rw[e];exact Nat.not_lt.mpr (Nat.le_add_right _ _))
   ·exact absurd hc (by rw[e];exact Nat.lt_irrefl _)
   ·exact absurd hc (by rw[e];exact Nat.not_lt.mpr (Nat.le_succ _))
  have nti:¬ ZZ h₁.objs.size (h₁.objs.size+2):=by
   rintro(e | e | e | e)
   ·exact D.TIz e
   ·exact D.TITO e
   ·exact D.TIi1 e
   ·exact D.TIi2 e
  have X3:ZipS h3 h₁.objs.size l1 l2 (k+1) xs ys .none:=⟨y1,hs' _ _ nti X.ti,w3.at fun o e=>k3 _ o D.i1z e,w4.at fun o e=>k3 _ o D.i2z e,X.h1.at fun o e=>hs' _ o (nz lt1) e,X.h2.at fun o e=>hs' _ o (nz lt2) e⟩
  have mono:∀ a o vs n,h'.get? a=some o→o.data = .seq vs n→a ∉ mu ρ'→h3.get? a=some o∧a ∉ mu ρ':=fun a o vs n e hd hm=>⟨hs' a o (z.seq e hd hm) e,hm⟩
  have dT:VR ρ' h3 (.d (.tuple [x,y])) (.ref h'.objs.size):=.tuple (n:=0) (vs:=#[rx,ry]) (k3 _ _ (Nat.ne_of_gt zlt) w5) H'.sizeMu (.cons (dx.mono mono) (.cons (dy.mono mono) .nil))
  refine wpAny_mono (ht A ok (.d (.tuple [x,y])) vs' _ hp' ρ' { s with heap:=h3,toks:=t' } _ (.ref h'.objs.size) q' F3 H3 dT) ?_ (fun w w x=>x)
  rintro _ s₃ ⟨vs₃,hp₃,ρ₃,h₃,t₃,rfl,q₃,F₃,H₃,S₃⟩
  refine wpAny_mono (hb A ok vs₃ _ hp₃ ρ₃ { s with heap:=h₃,toks:=t₃ } _ q₃ F₃ H₃) ?_ (fun w w x=>x)
  rintro fl s₄ ⟨af,vs₄,hp₄,ρ₄,h₄,t₄,rfl,q₄,F₄,H₄,S₄,fr⟩
  have S34:=S₃.trans S₄
  have S₄':StepS K env ρ₁ h₁ ρ₄ h₄:=S3.trans S34
  have kf:∀ c o,K.New c→Off ρ' c→h3.get? c=some o→(∃ fs,o.data = .fields fs)→h₄.get? c=some o:=fun c o hn ho e ⟨fs,hd⟩ =>
   S34.keep c o e (H3.newTb hn) ho.mu (F3.notPlace e (fun w w q=>by rw[hd] at q;cases q) (fun w q=>by rw[hd] at q;cases q))
  have ks:∀ c o,c≠K.tb→c ∉ mu ρ'→h3.get? c=some o→(∃ vs n,o.data = .seq vs n)→h₄.get? c=some o:=fun c o hn ho e ⟨fs,n,hd⟩ =>
   S34.keep c o e hn ho (F3.notPlace e (fun w w q=>by rw[hd] at q;cases q) (fun w q=>by rw[hd] at q;cases q))
  have more:forZ hp₁.length tgt b Q (zipD as bs) vs₄ hp₄→∃ m,m<(x::as).length∧TurnZ K env look s ρ₁ h₁ hp₁.length l1 l2 xs ys (forZ hp₁.length tgt b Q) m { s with heap:=h₄,toks:=t₄ }:=fun qq=>by
   obtain⟨oa,a1,a2,a3⟩:=X3.g1
   obtain⟨ob,b1,b2,b3⟩:=X3.g2
   obtain⟨oc,c1,c2,nc,c3⟩:=X3.h1
   obtain⟨od,d1',d2',nd,d3⟩:=X3.h2
   refine⟨as.length,Nat.lt_succ_self _,k+1,as,bs,vs₄,hp₄,ρ₄,h₄,t₄,p,rfl,by simpa using el,rfl,qq,F₄,H₄,
    ⟨kf _ _ (zn _ (.inl rfl)) (off _ (.inl rfl) D.TOz.symm) X3.z ⟨_,rfl⟩,ks _ _ (H₁.newTb tiN) (nm _ (.inl rfl)) X3.ti ⟨_,_,rfl⟩,
     ⟨oa,kf _ _ (zn _ (.inr (.inr (.inl rfl)))) (off _ (.inr (.inr (.inl rfl))) D.TOi1.symm) a1 ⟨_,a3⟩,a2,a3⟩,
     ⟨ob,kf _ _ (zn _ (.inr (.inr (.inr rfl)))) (off _ (.inr (.inr (.inr rfl))) D.TOi2.symm) b1 ⟨_,b3⟩,b2,b3⟩,
     ⟨oc,ks _ _ tb1 (nm _ (.inr (.inl rfl))) c1 ⟨_,_,c3⟩,c2,nc,c3⟩,⟨od,ks _ _ tb2 (nm _ (.inr (.inr rfl))) d1' ⟨_,_,d3⟩,d2',nd,d3⟩⟩,
    ?_,?_,BD S34.pre ep,pm,?_,?_,S₄'⟩
   ·rw[hxs'];exact DRs.stepS S34 F3 H3 (e1.mono mono)
   ·rw[hys'];exact DRs.stepS S34 F3 H3 (e2.mono mono)
   ·rintro c zc hc
    have ex:∃ o,h3.get? c=some o:=by
     rcases zc with rfl | rfl | rfl | rfl
     ·exact⟨_,X3.z⟩
     ·exact absurd rfl hc
     ·exact⟨_,a1⟩
     ·exact⟨_,b1⟩
    obtain⟨o,eo⟩:=ex
    exact(off c zc hc).stepS S34 eo
   ·rintro c hc
    have ex:∃ o,h3.get? c=some o:=by
     rcases hc with rfl | rfl | rfl
     ·exact⟨_,X3.ti⟩
     ·exact⟨_,c1⟩
     ·exact⟨_,d1'⟩
    obtain⟨o,eo⟩:=ex
    exact S34.notMu eo (nm c hc)
  cases af<;>cases fl<;>first | exact fr.elim | skip
  ·exact more q₄
  ·exact⟨.next,vs₄,hp₄,ρ₄,h₄,t₄,rfl,q₄,F₄,H₄,S₁.toS.trans S₄',trivial⟩
  ·exact more q₄
  ·exact⟨.ret _,vs₄,hp₄,ρ₄,h₄,t₄,rfl,q₄,F₄,H₄,S₁.toS.trans S₄',fr⟩
end
abbrev IsZ(h:Heap)(z TI TO:Addr)(f0 f1:Value):Prop:=h.get? z=some { cls:=.type "zip", dict:=none,data:=.fields #[f0,f1,.bool false,.ref TI,.ref TO],slots:=#[] }
section
variable{prog:Program}{w:World}{A:Around}{E:Value→Shared→Prop}{s:Shared}
theorem G2{z TI TO T0:Addr}{b:Bool}{o0:Obj}{Q:Bool→Shared→Prop}(hz:IsZ s.heap z TI TO (rawInt T0) (.bool b))(h0:s.heap.get? T0=some o0)
  (hQ:∀ h',IsZ h' z TI TO (rawInt T0) (.bool true)→Heap.SameBut z s.heap h'→Q false { s with heap:=h' }) :
  wpAny (model prog w) A (Builtin.SmallTypes.ownedTupleIsFree (.ref z)) Q E s:=by
 unfold Builtin.SmallTypes.ownedTupleIsFree
 refine wpAny_bind (wpAny_field hz rfl (x:=rawInt T0) rfl ?_)
 show wpAny _ _ (loadIfAlive (Int.toNat (T0:Int)) >>= _) _ _ _
 refine wpAny_bind (W.kdx_alive (by simpa using h0) ?_)
 show wpAny _ _ (field (.ref z) 1 >>= _) _ _ _
 refine wpAny_bind (wpAny_field hz rfl (x:=.bool b) rfl ?_)
 cases b with
 | true=>exact wpAny_pure (hQ s.heap hz ⟨rfl,fun y y=>rfl⟩)
 | false =>
  show wpAny _ _ (setField (.ref z) 1 (.bool true) >>= _) _ _ _
  refine wpAny_bind (wpAny_setField_rec hz (by simp) fun h' hz' hs'=>wpAny_pure (hQ h' hz' hs'))
theorem IK{z TI TO i1 i2 l1 l2 T0:Addr}{b:Bool}{o0:Obj}{k:Nat}{xs ys:Array Value}{x y:Value}{Q:Option Value→Shared→Prop}(D:ZipApart z TI TO i1 i2 l1 l2)
  (hz:IsZ s.heap z TI TO (rawInt T0) (.bool b)) (h0:s.heap.get? T0=some o0) (hTI:IsPair s.heap TI (.ref i1) (.ref i2)) (h1:s.heap.IsListIter i1 l1 k) (h2:s.heap.IsListIter i2 l2 k)
  (hl1:s.heap.IsList l1 xs) (hl2:s.heap.IsList l2 ys) (hx:xs[k]?=some x) (hy:ys[k]?=some y)
  (hQ:∀ h',IsZ h' z TI TO (rawInt T0) (.bool true)→h'.IsListIter i1 l1 (k+1)→h'.IsListIter i2 l2 (k+1)→IsPair h' s.heap.objs.size x y→h'.objs.size=s.heap.objs.size+1 →
   (∀ c o,c≠z→c≠i1→c≠i2→s.heap.get? c=some o→h'.get? c=some o)→Q (some (.ref s.heap.objs.size)) { s with heap:=h' }) :
  wpAny (model prog w) A (pyNext (.ref z)) Q E s:=by
 have hT:s.TypeIs (.ref z) "zip" := ⟨_,hz,rfl⟩
 unfold pyNext
 refine wpAny_bind (wpAny_attempt (wpAny_callSpecial?_slot (name:=Str.ofString "__next__") hT F.slot_zip_next
  (wpAny_call_entry F.slot_zip_next hT F.entry_zip_next ?_ (F.args_zip_next_1 _))))
 show wpAny _ _ (field (.ref z) 2 >>= _) _ _ _
 refine wpAny_bind (wpAny_field hz rfl (x:=.bool false) rfl ?_)
 show wpAny _ _ (field (.ref z) 3 >>= _) _ _ _
 refine wpAny_bind (wpAny_field hz rfl (x:=.ref TI) rfl ?_)
 refine wpAny_bind (wpAny_seqItems hTI rfl ?_)
 show wpAny _ _ (Builtin.SmallTypes.ownedTupleIsFree (.ref z) >>= _) _ _ _
 refine wpAny_bind (G2 hz h0 fun ha hza hsa=>?_)
 simp only[Bool.false_eq_true,if_false]
 rw[← Array.forIn_toList]
 simp only[List.forIn_cons,List.forIn_nil]
 refine wpAny_bind (wpAny_bind ?_)
 refine wpAny_bind (wpAny_holding ?_)
 show wpAny _ _ (Builtin.SmallTypes.nextOf (.ref i1) >>= _) _ _ _
 refine wpAny_bind (wpAny_nextOf_list_item (h1.extBut hsa.extBut D.i1z) (hl1.extBut hsa.extBut D.l1z) hx fun hb h1b hsb=>wpAny_pure ?_)
 refine wpAny_pure ?_
 dsimp only
 refine wpAny_bind (wpAny_bind (wpAny_holding ?_))
 show wpAny _ _ (Builtin.SmallTypes.nextOf (.ref i2) >>= _) _ _ _
 refine wpAny_bind (wpAny_nextOf_list_item ((h2.extBut hsa.extBut D.i2z).extBut hsb.extBut D.i12.symm) ((hl2.extBut hsa.extBut D.l2z).extBut hsb.extBut D.l2i1) hy fun hc h2c hsc=>wpAny_pure ?_)
 refine wpAny_pure (wpAny_pure ?_)
 dsimp only
 have sz:hc.objs.size=s.heap.objs.size:=hsc.1.trans (hsb.1.trans hsa.1)
 refine wpAny_bind (wpAny_newTuple ?_ (by simp[sizeLine_eq]))
 refine wpAny_pure ⟨_,rfl,wpAny_pure ?_⟩
 have up:∀ c o,hc.get? c=some o→(hc.push { cls:=.type "tuple", data:=.seq #[x,y] }).get? c=some o:=fun u u e=>Heap.get?_push_of_some _ e
 have zc:IsZ hc z TI TO (rawInt T0) (.bool true):=hsc.extBut _ _ D.i2z.symm (hsb.extBut _ _ D.i1z.symm hza)
 have fin:=hQ (hc.push { cls:=.type "tuple", data:=.seq #[x,y] }) (up _ _ zc) ((h1b.extBut hsc.extBut D.i12).at fun o e=>up _ o e) (h2c.at fun o e=>up _ o e)
  (by rw[← sz];exact Heap.get?_push_size _ rfl) (by rw[Heap.size_push,sz]) (fun c o c1 c2 c3 e=>up _ _ (hsc.extBut _ _ c3 (hsb.extBut _ _ c2 (hsa.extBut _ _ c1 e))))
 rw[← sz] at fin
 exact fin
theorem J4{z TI TO i1 i2 l1 T0:Addr}{b:Bool}{o0:Obj}{k:Nat}{xs:Array Value}{Q:Option Value→Shared→Prop}(hh:A.handled=none)(hne:i1≠z)(hlz:l1≠z)
  (hz:IsZ s.heap z TI TO (rawInt T0) (.bool b)) (h0:s.heap.get? T0=some o0) (hTI:IsPair s.heap TI (.ref i1) (.ref i2)) (h1:s.heap.IsListIter i1 l1 k) (hl1:s.heap.IsList l1 xs) (hx:xs[k]?=none)
  (hQ:∀ h',(∀ c o,c≠z→c≠i1→s.heap.get? c=some o→h'.get? c=some o)→Q none { s with heap:=h' }):wpAny (model prog w) A (pyNext (.ref z)) Q E s:=by
 have hT:s.TypeIs (.ref z) "zip" := ⟨_,hz,rfl⟩
 unfold pyNext
 refine wpAny_bind (wpAny_attempt (wpAny_callSpecial?_slot (name:=Str.ofString "__next__") hT F.slot_zip_next
  (wpAny_call_entry F.slot_zip_next hT F.entry_zip_next ?_ (F.args_zip_next_1 _))))
 show wpAny _ _ (field (.ref z) 2 >>= _) _ _ _
 refine wpAny_bind (wpAny_field hz rfl (x:=.bool false) rfl ?_)
 show wpAny _ _ (field (.ref z) 3 >>= _) _ _ _
 refine wpAny_bind (wpAny_field hz rfl (x:=.ref TI) rfl ?_)
 refine wpAny_bind (wpAny_seqItems hTI rfl ?_)
 show wpAny _ _ (Builtin.SmallTypes.ownedTupleIsFree (.ref z) >>= _) _ _ _
 refine wpAny_bind (G2 hz h0 fun ha hza hsa=>?_)
 simp only[Bool.false_eq_true,if_false]
 rw[← Array.forIn_toList]
 simp only[List.forIn_cons,List.forIn_nil]
 refine wpAny_bind (wpAny_bind ?_)
 refine wpAny_bind (wpAny_holding ?_)
 show wpAny _ _ (Builtin.SmallTypes.nextOf (.ref i1) >>= _) _ _ _
 refine wpAny_bind (wpAny_nextOf_list_end (A:=A.in1) hh (h1.extBut hsa.extBut hne) (hl1.extBut hsa.extBut hlz) hx fun h₂ e hs₂ he=>?_)
 obtain⟨oe,hoe,hce⟩:=he
 refine wpAny_bind (wpAny_isInstance (T := "StopIteration") (b:=true) ⟨oe,hoe,hce⟩ isSubtype_stop ?_)
 exact wpAny_pure (hQ h₂ fun c o c1 c2 x=>hs₂ _ _ c2 (hsa.extBut _ _ c1 x))
structure ZF(h₁:Heap)(n:Addr)(xs ys:Array Value)(i:Nat)(h:Heap)(acc:Array Value):Prop where
 up:∀ c o,h₁.get? c=some o→h.get? c=some o
 ls:∃ c,h.get? (n+5)=some { cls:=.type "list", dict:=none,data:=.seq acc c,slots:=#[] }
 sa:acc.size=i
 it:∀ j,j<i→∃ T x y,acc[j]?=some (.ref T)∧n+6≤T∧xs[j]?=some x∧ys[j]?=some y∧IsPair h T x y
structure ZL(h₁:Heap)(n l1 l2:Addr)(xs ys:Array Value)(i:Nat)(h:Heap)(acc:Array Value):Prop extends ZF h₁ n xs ys i h acc where
 st:(IsZip h (n+4) (n+2) (n+3) .none∧∃ a b,IsPair h (n+3) a b)∨∃ (T0:Addr) (o0:Obj) (b:Bool),IsZ h (n+4) (n+2) (n+3) (rawInt T0) (.bool b)∧h.get? T0=some o0∧n+6≤T0
 ti:IsPair h (n+2) (.ref n) (.ref (n+1))
 g1:h.IsListIter n l1 i
 g2:h.IsListIter (n+1) l2 i
 sz:n+6≤h.objs.size
theorem ZF.at{h₁:Heap}{n:Addr}{xs ys:Array Value}{i:Nat}{h h':Heap}{acc:Array Value}(X:ZF h₁ n xs ys i h acc)(hn:h₁.objs.size=n)(hs:∀ c o,c<n∨n+5≤c→h.get? c=some o→h'.get? c=some o):ZF h₁ n xs ys i h' acc where
 up:=fun c o e=>hs c o (.inl (hn ▸ Heap.lt_size e)) (X.up c o e)
 ls:=by obtain⟨c,e⟩:=X.ls;exact⟨c,hs _ _ (.inr (Nat.le_refl _)) e⟩
 sa:=X.sa
 it:=fun j hj=>by obtain⟨T,x,y,a,b,c,d,e⟩:=X.it j hj;exact⟨T,x,y,a,b,c,d,hs _ _ (.inr (Nat.le_trans (Nat.le_succ _) b)) e⟩
theorem ZF.push{h₁:Heap}{n:Addr}{xs ys:Array Value}{i:Nat}{h:Heap}{acc:Array Value}(X:ZF h₁ n xs ys i h acc)(hn:h₁.objs.size=n){T:Addr}{x y:Value}(hT:n+6≤T)(hx:xs[i]?=some x)(hy:ys[i]?=some y)(hp:IsPair h T x y) :
  ZF h₁ n xs ys (i+1) (h.update (n+5) (Obj.mapSeq (·.push (.ref T)))) (acc.push (.ref T)):=by
 obtain⟨c,e⟩:=X.ls
 have oth:∀ b o,b≠n+5→h.get? b=some o→(h.update (n+5) (Obj.mapSeq (·.push (.ref T)))).get? b=some o:=fun b o hb e=>(Heap.get?_update_other _ _ (Ne.symm hb)).trans e
 refine⟨fun b o q=>oth b o (fun z=>?_) (X.up b o q),⟨_,Heap.get?_update_self _ e rfl⟩,by rw[Array.size_push,X.sa],fun j hj=>?_⟩
 ·have:=Heap.lt_size q;rw[hn,z] at this;exact absurd this (Nat.not_lt.mpr (Nat.le_add_right _ _))
 ·by_cases hji:j<i
  ·obtain⟨T',x',y',a1,a2,a3,a4,a5⟩:=X.it j hji
   refine⟨T',x',y',?_,a2,a3,a4,oth _ _ (fun z=>by rw[z] at a2;exact absurd a2 (Nat.not_succ_le_self _)) a5⟩
   rw[Array.getElem?_push_lt (by rw[X.sa];exact hji),← Array.getElem?_eq_getElem];exact a1
  ·have:j=i:=by lia
   subst this
   exact⟨T,x,y,by rw[← X.sa];simp,hT,hx,hy,oth _ _ (fun z=>by rw[z] at hT;exact absurd hT (Nat.not_succ_le_self _)) hp⟩
theorem J2{R:Result→Shared→Prop}(hh:A.handled=none){h₁:Heap}{l1 l2:Addr}{xs ys:Array Value}(hsz:xs.size=ys.size)(hn:xs.size≤1000)(hl1:h₁.IsList l1 xs)(hl2:h₁.IsList l2 ys)(res:Value) :
  ∀ (k i:Nat) (s:Shared) (acc:Array Value),xs.size-i=k→i≤xs.size→ZL h₁ h₁.objs.size l1 l2 xs ys i s.heap acc →
  (∀ h' acc',ZF h₁ h₁.objs.size xs ys xs.size h' acc'→R (.ok (.ret res)) { s with heap:=h' }) →
  codeAny (model prog w) A (.builtin "list.extend.loop" ⟨[.ref (h₁.objs.size+5),.ref (h₁.objs.size+4),res],[]⟩) R s:=by
 have D:ZipApart (h₁.objs.size+4) (h₁.objs.size+2) (h₁.objs.size+3) h₁.objs.size (h₁.objs.size+1) l1 l2:=by
  obtain⟨o1,e1,_⟩:=id hl1
  obtain⟨o2,e2,_⟩:=id hl2
  exact zipApart_new (Heap.lt_size e1) (Heap.lt_size e2)
 generalize hN:h₁.objs.size=n at D
 intro k
 induction k with
 | zero =>
  intro i s acc hk hi X hR
  have hin:i=xs.size:=by lia
  subst hin
  refine codeAny_builtin F.entry_extend_loop ?_
  rw[Around.under_plainId F.plain_extend_loop _]
  show wpAny _ A.in1 (pyNext (.ref (n+4)) >>= _) _ _ s
  have fin:∀ h',(∀ c o,c≠n+4→c≠n→s.heap.get? c=some o→h'.get? c=some o)→ZF h₁ n xs ys xs.size h' acc:=fun h' kp=>X.toZF.at hN fun c o hc e=>kp c o (by lia) (by lia) e
  rcases X.st with ⟨hz,_⟩ | ⟨T0,o0,b,hz,h0,_⟩
  ·exact wpAny_bind (HZ (A:=A.in1) hh D.i1z D.l1z hz X.ti X.g1 (hl1.at fun o e=>X.up _ o e) (by simp) fun h' kp=>wpAny_pure (hR h' acc (fin h' kp)))
  ·exact wpAny_bind (J4 (A:=A.in1) hh D.i1z D.l1z hz h0 X.ti X.g1 (hl1.at fun o e=>X.up _ o e) (by simp) fun h' kp=>wpAny_pure (hR h' acc (fin h' kp)))
 | succ k ih =>
  intro i s acc hk hi X hR
  have hlt:i<xs.size:=by lia
  have hlt2:i<ys.size:=Tt hlt (Qe hsz)
  have hx:xs[i]?=some xs[i]:=Array.getElem?_eq_getElem hlt
  have hy:ys[i]?=some ys[i]:=Array.getElem?_eq_getElem hlt2
  refine codeAny_builtin F.entry_extend_loop ?_
  rw[Around.under_plainId F.plain_extend_loop _]
  show wpAny _ A.in1 (pyNext (.ref (n+4)) >>= _) _ _ s
  have push:∀ (h':Heap) (f0 f1:Value) (T0:Addr) (o0:Obj) (b:Bool),IsZ h' (n+4) (n+2) (n+3) (rawInt T0) (.bool b)→h'.get? T0=some o0→n+6≤T0→h'.IsListIter n l1 (i+1)→h'.IsListIter (n+1) l2 (i+1)→IsPair h' s.heap.objs.size xs[i] ys[i] →
    h'.objs.size=s.heap.objs.size+1→(∀ c o,c≠n+4→c≠n+3→c≠n→c≠n+1→s.heap.get? c=some o→h'.get? c=some o) →
    wpAny (model prog w) A.in1 (updateSeq (n+5) (·.push (.ref s.heap.objs.size)) >>= fun z=>again (.builtin "list.extend.loop" ⟨[.ref (n+5),.ref (n+4),res],[]⟩))
     (fun fin s'=>match fin with | .done f=>R (.ok f) s' | .again c'=>c'.quiet=true∧codeAny (model prog w) A c' R s') (fun e s'=>R (.error e) s') { s with heap:=h' }:=by
   intro h' _ _ T0 o0 b hz h0 hT g1 g2 hp hs kp
   have X':ZF h₁ n xs ys i h' acc:=X.toZF.at hN fun c o hc e=>kp c o (by lia) (by lia) (by lia) (by lia) e
   obtain⟨c,e⟩:=X'.ls
   have Y:=X'.push hN X.sz hx hy hp
   have oth:∀ b o,b≠n+5→h'.get? b=some o→(h'.update (n+5) (Obj.mapSeq (·.push (.ref s.heap.objs.size)))).get? b=some o:=fun b o hb e=>(Heap.get?_update_other _ _ (Ne.symm hb)).trans e
   refine wpAny_bind (wpAny_updateSeq e rfl (wpAny_pure ⟨plainId_quiet F.plain_extend_loop _,ih (i+1) _ _ (by lia) hlt ⟨Y,.inr ⟨T0,o0,b,oth _ _ (by lia) hz,oth _ _ (Ng hT) h0,hT⟩,oth _ _ (by lia) (kp _ _ (by lia) (by lia) (by lia) (by lia) X.ti),
    g1.at fun o e=>oth _ o (by lia) e,g2.at fun o e=>oth _ o (by lia) e,?_⟩ fun h'' acc'' Z=>hR h'' acc'' Z⟩)
    (by rw[X.sa,sizeLine_eq];exact Lb (Tt hi hn)) (by show(acc.push _).size≤sizeLine+1;rw[Array.size_push,X.sa,sizeLine_eq];lia))
   rw[Heap.size_update,hs];have:=X.sz;lia
  rcases X.st with ⟨hz,a,b,hTO⟩ | ⟨T0,o0,b,hz,h0,hT⟩
  ·refine wpAny_bind (wpAny_pyNext_zip_item D hz X.ti hTO X.g1 X.g2 (hl1.at fun o e=>X.up _ o e) (hl2.at fun o e=>X.up _ o e) hx hy fun h' w1 w2 w3 w4 w5 w6 kp=>?_)
   exact push h' .none .none s.heap.objs.size _ false w1 w5 X.sz w3 w4 w5 w6 kp
  ·refine wpAny_bind (IK D hz h0 X.ti X.g1 X.g2 (hl1.at fun o e=>X.up _ o e) (hl2.at fun o e=>X.up _ o e) hx hy fun h' w1 w3 w4 w5 w6 kp=>?_)
   exact push h' .none .none T0 o0 true w1 (kp _ _ (by lia) (by lia) (by lia) h0) hT w3 w4 w5 w6 (fun c o c1 z c3 c4 e=>kp c o c1 c3 c4 e)
theorem Gk:typeLookup (.type "zip") "__len__" = pure none:=by rw[typeLookup_type,builtinLookup_eq_fast];kernel_rfl
theorem G1:typeLookup (.type "zip") "__length_hint__" = pure none:=by rw[typeLookup_type,builtinLookup_eq_fast];kernel_rfl
structure Z0(h₁:Heap)(n l1 l2:Addr)(h:Heap):Prop where
 z:IsZip h (n+4) (n+2) (n+3) .none
 ti:IsPair h (n+2) (.ref n) (.ref (n+1))
 to:IsPair h (n+3) .none .none
 g1:h.IsListIter n l1 0
 g2:h.IsListIter (n+1) l2 0
 up:∀ c o,h₁.get? c=some o→h.get? c=some o
theorem Z0.at{h₁:Heap}{n l1 l2:Addr}{h h':Heap}(X:Z0 h₁ n l1 l2 h)(hn:h₁.objs.size=n)(hs:∀ b o,b≠n+5→h.get? b=some o→h'.get? b=some o):Z0 h₁ n l1 l2 h' :=
 ⟨hs _ _ (by lia) X.z,hs _ _ (by lia) X.ti,hs _ _ (by lia) X.to,X.g1.at fun o e=>hs _ o (by lia) e,X.g2.at fun o e=>hs _ o (by lia) e,fun c o e=>hs _ _ (by have:=Heap.lt_size e;lia) (X.up c o e)⟩
theorem Gl{R:Result→Shared→Prop}(hh:A.handled=none){h₁:Heap}{n l1 l2:Addr}{xs ys:Array Value}{c₀:Nat}(hN:h₁.objs.size=n)(hsz:xs.size=ys.size)(hn:xs.size≤1000)(hl1:h₁.IsList l1 xs)(hl2:h₁.IsList l2 ys)(X:Z0 h₁ n l1 l2 s.heap)(hs:n+6≤s.heap.objs.size)
  (hS:s.heap.get? (n+5)=some { cls:=.type "list", data:=.seq #[] c₀ }) (res:Value)
  (hR:∀ h' acc',ZF h₁ n xs ys xs.size h' acc'→R (.ok (.ret res)) { s with heap:=h' }) :
  wpAny (model prog w) A.in1 (Builtin.List.listExtendWith (.ref (n+5)) (.ref (n+4)) res)
   (fun fin s'=>match fin with | .done f=>R (.ok f) s' | .again c'=>c'.quiet=true∧codeAny (model prog w) A c' R s') (fun e s'=>R (.error e) s') s:=by
 have hT:s.TypeIs (.ref (n+4)) "zip" := ⟨_,X.z,rfl⟩
 unfold Builtin.List.listExtendWith
 refine wpAny_bind (wpAny_typeOf hT ?_)
 have b1:Builtin.List.listSameRef (.ref (n+5)) (.ref (n+4))=false:=by simp[Builtin.List.listSameRef]
 have b2:(Value.type "zip" == Value.type "list")=false:=by decide
 have b3:(Value.type "zip" == Value.type "tuple")=false:=by decide
 simp only[b1,b2,b3,Bool.or_false,Bool.false_eq_true,if_false]
 refine wpAny_bind (wpAny_pyIter_zip X.z ?_)
 refine wpAny_bind (wpAny_holding ?_)
 unfold Builtin.List.listLengthHint
 refine wpAny_bind (wpAny_specialOf hT Gk ?_)
 show wpAny _ A.in1 (specialOf (Value.ref (n+4)) (Str.ofString "__length_hint__") >>= _) _ _ _
 refine wpAny_bind (wpAny_specialOf hT G1 ?_)
 refine wpAny_pure ?_
 show wpAny _ A.in1 (rule "list.extend.makes-room" >>= fun z=>Builtin.List.listTouch (.ref (n+5)) >>= fun z=>again (.builtin "list.extend.loop" ⟨[.ref (n+5),.ref (n+4),res],[]⟩)) _ _ _
 refine wpAny_bind (wpAny_rule (wpAny_bind ?_))
 show wpAny _ A.in1 (updateSeq (n+5) (·.push .none) >>= fun z=>updateSeq (n+5) (·.pop)) _ _ _
 refine wpAny_bind (wpAny_updateSeq hS rfl ?_)
 have hS₃:=Heap.get?_update_self (Obj.mapSeq (·.push Value.none)) hS rfl
 refine wpAny_updateSeq (hz:=by seq_fits) hS₃ rfl ?_
 have hS₄:=Heap.get?_update_self (Obj.mapSeq (·.pop)) hS₃ rfl
 have oth:∀ b o,b≠n+5→s.heap.get? b=some o→((s.heap.update (n+5) (Obj.mapSeq (·.push Value.none))).update (n+5) (Obj.mapSeq (·.pop))).get? b=some o :=
  fun b o hb e=>(Heap.get?_update_other _ _ (Ne.symm hb)).trans ((Heap.get?_update_other _ _ (Ne.symm hb)).trans e)
 refine wpAny_pure ⟨plainId_quiet F.plain_extend_loop _,?_⟩
 have Y:=X.at hN oth
 subst hN
 refine J2 hh hsz hn hl1 hl2 res _ 0 _ #[] rfl (Nat.zero_le _) ⟨⟨Y.up,⟨_,hS₄⟩,rfl,fun j hj=>absurd hj (Nat.not_lt_zero _)⟩,.inl ⟨Y.z,_,_,Y.to⟩,Y.ti,Y.g1,Y.g2,?_⟩ ?_
 ·show _≤((s.heap.update _ _).update _ _).objs.size
  rw[Heap.size_update,Heap.size_update];exact hs
 ·exact fun h' acc' Z=>hR h' acc' Z
end
section
variable{prog:Program}{w:World}{A:Around}{E:Value→Shared→Prop}{s:Shared}
theorem J3{R:Result→Shared→Prop}(hh:A.handled=none){h₁:Heap}{n l1 l2:Addr}{xs ys:Array Value}(hN:h₁.objs.size=n)(hsz:xs.size=ys.size)(hn:xs.size≤1000)(hl1:h₁.IsList l1 xs)(hl2:h₁.IsList l2 ys)(X:Z0 h₁ n l1 l2 s.heap)(hs:n+6≤s.heap.objs.size)
  (hS:s.heap.get? (n+5)=some { cls:=.type "list", data:=.seq #[] })
  (hR:∀ h' acc',ZF h₁ n xs ys xs.size h' acc'→R (.ok (.ret .none)) { s with heap:=h' }) :
  wpAny (model prog w) A.in1 (Builtin.«list.__init__» ⟨[.ref (n+5),.ref (n+4)],[]⟩)
   (fun fin s'=>match fin with | .done f=>R (.ok f) s' | .again c'=>c'.quiet=true∧codeAny (model prog w) A c' R s') (fun e s'=>R (.error e) s') s:=by
 show wpAny _ A.in1 (do let old ← Builtin.List.listItems (.ref (n+5));Builtin.List.listUpdate (.ref (n+5)) (fun z=>#[]);letGo old.toList.reverse;Builtin.List.listExtendWith (.ref (n+5)) (.ref (n+4)) .none) _ _ s
 refine wpAny_bind ?_
 unfold Builtin.List.listItems
 refine wpAny_bind (wpAny_seqItems hS rfl (wpAny_pure ?_))
 show wpAny _ A.in1 (updateSeq (n+5) (fun z=>#[]) >>= fun z=>letGo (#[]:Array Value).toList.reverse >>= fun z=>Builtin.List.listExtendWith (.ref (n+5)) (.ref (n+4)) .none) _ _ s
 refine wpAny_bind (wpAny_updateSeq hS rfl ?_)
 have hS₂:=Heap.get?_update_self (Obj.mapSeq (fun z=>(#[]:Array Value))) hS rfl
 have oth:∀ b o,b≠n+5→s.heap.get? b=some o→(s.heap.update (n+5) (Obj.mapSeq (fun z=>(#[]:Array Value)))).get? b=some o :=
  fun b o hb e=>(Heap.get?_update_other _ _ (Ne.symm hb)).trans e
 refine wpAny_bind (wpAny_letGo ?_)
 exact Gl hh hN hsz hn hl1 hl2 (X.at hN oth) (by show n+6≤(s.heap.update _ _).objs.size;rw[Heap.size_update];exact hs) hS₂ .none hR
theorem Eh{Q:Value→Shared→Prop}(hh:A.handled=none){h₁:Heap}{n l1 l2:Addr}{xs ys:Array Value}(hN:h₁.objs.size=n)(hsz:xs.size=ys.size)(hn:xs.size≤1000)(hl1:h₁.IsList l1 xs)(hl2:h₁.IsList l2 ys)
  (X:Z0 h₁ n l1 l2 s.heap) (hs:s.heap.objs.size=n+5)
  (hQ:∀ h' acc',ZF h₁ n xs ys xs.size h' acc'→Q (.ref (n+5)) { s with heap:=h' }):wpAny (model prog w) A (call (.type "list") [.ref (n+4)]) Q E s:=by
 refine callType_codes (Q₁:=fun obj s₁=>obj = .ref (n+5)∧s₁={ s with heap:=s.heap.push { cls:=.type "list", data:=.seq #[] } }) F.called_list (F.typeCall_list_1 _) F.entry_list_init
  (code_list_new _ ⟨by rw[hs],rfl⟩) fun obj s₁ h₁'=>?_
 obtain⟨rfl,rfl⟩:=h₁'
 have hS:(s.heap.push { cls:=.type "list", data:=.seq #[] }).get? (n+5)=some { cls:=.type "list", data:=.seq #[] }:=by
  have:=Heap.get?_push_size (o:={ cls:=.type "list", data:=.seq #[] }) s.heap rfl
  rwa[hs] at this
 have h6:n+6≤(s.heap.push { cls:=.type "list", data:=.seq #[] }).objs.size:=by rw[Heap.size_push,hs];exact Nat.le_refl _
 refine⟨⟨_,hS,rfl⟩,F.args_list_init_2 _ _,?_⟩
 refine J3 (A:=A.in1) (prog:=prog) (w:=w) (s:={ s with heap:=s.heap.push { cls:=.type "list", data:=.seq #[] } }) hh hN hsz hn hl1 hl2 (X.at hN fun b o z e=>Heap.get?_push_of_some _ e) h6 hS fun h' acc' Z=>?_
 exact⟨rfl,hQ h' acc' Z⟩
end
section
variable{K:KX}{Kf:W.Frag}{mg mb:Str→Option Value}{r:Nat}{env:Env}{look:Str→Option Nat}
def xListZip(p:XL):XE:=fun vs Q=>p vs fun l hp=>twoL l fun a b=>a.length≤1000∧Q (.d (.list (zipD a b))) hp
theorem DRs.of_get{h:Heap}{μ:List Addr}:∀ {vs:List Value} {xs:List PyData},vs.length=xs.length→(∀ (j:Nat) (v:Value),vs[j]?=some v→∃ x,xs[j]?=some x∧DR h μ v x)→DRs h μ vs xs
 | [],[],_,_=>.nil
 | [],_::_,e,_=>by simp at e
 | _::_,[],e,_=>by simp at e
 | v::vs,x::xs,e,k=>by
  obtain⟨x',e',d⟩:=k 0 v rfl
  cases e'
  exact .cons d (DRs.of_get (by simpa using e) fun j w hw=>k (j+1) w (by simpa using hw))
theorem ZF.drs{ρ:Rho}{hp:List O}{h₁ h':Heap}{xs ys acc:Array Value}{a b:List PyData}(Z:ZF h₁ h₁.objs.size xs ys xs.size h' acc)(H:HRel K ρ hp h₁)(d1:DRs h₁ (mu ρ) xs.toList a)(d2:DRs h₁ (mu ρ) ys.toList b)(hab:a.length=b.length):DRs h' (mu ρ) acc.toList (zipD a b):=by
 have z1:=d1.length
 have z2:=d2.length
 simp only[Array.length_toList] at z1 z2
 have mono:∀ a o vs n,h₁.get? a=some o→o.data = .seq vs n→a ∉ mu ρ→h'.get? a=some o∧a ∉ mu ρ:=fun a o vs n e z hm=>⟨Z.up a o e,hm⟩
 refine DRs.of_get (by rw[Array.length_toList,Z.sa,zipD,List.length_zipWith];lia) fun j v hv=>?_
 have hj:j<xs.size:=by rw[← Z.sa,← Array.length_toList];exact(List.getElem?_eq_some_iff.mp hv).1
 refine viaP fun z zf=>?_
 obtain⟨T,x,y,e1,hT,e2,e3,e4⟩:=Z.it j hj
 have:v = .ref T:=by rw[Array.getElem?_toList] at hv;rw[hv] at e1;cases e1;rfl
 subst this
 obtain⟨u,eu,du⟩:=d1.get' (by rw[Array.getElem?_toList];exact e2)
 obtain⟨t,et,dt⟩:=d2.get' (by rw[Array.getElem?_toList];exact e3)
 refine zf ?_
 refine⟨.tuple [u,t],by simp[zipD,List.getElem?_zipWith,eu,et],.tuple (n:=0) (vs:=#[x,y]) e4 (fun hm=>?_) (.cons (du.mono mono) (.cons (dt.mono mono) .nil))⟩
 obtain⟨o,eo⟩:=H.muDom hm
 exact absurd (Heap.lt_size eo) (Nat.not_lt.mpr (Nat.le_trans (Nat.le_add_right _ _) hT))
set_option tactic.hygienic true in
theorem Iu(G:KG K mg mb){args:List Expr}{pl pz posz pos:Pos}{l:XL}(hl:SoundL K r env look args l)
  (hk:env.kindOf "list" = some .globalImplicit) (hkz:env.kindOf "zip" = some .globalImplicit) (hg:mg "list" = none) (hm:mb "list" = some (.type "list")) (hgz:mg "zip" = none) (hmz:mb "zip" = some (.type "zip"))
  (hb:(backTo posz (starEach args env)).any (·.1)=false) (he:backTo pos (starEach [.Call (.Name "zip" pz) args [] posz] env)=[(false,eval (.Call (.Name "zip" pz) args [] posz) env)]) :
  SoundE K r env look (.Call (.Name "list" pl) [.Call (.Name "zip" pz) args [] posz] [] pos) (xListZip l):=by
 intro A ok vs Q hp ρ s E q F H
 refine wpAny_Call_Name_kw (Calls.Name_function_global F.kd hk (Calls.loadGlobal_builtin (mg:=mg) (mb:=mb) ?_ hg ?_ hm ?_) rfl)
 ·rw[F.gl];exact H.nsOf G.g G.g'
 ·rw[F.bi];exact H.nsOf G.b G.b'
 refine BJ (by rw[he];rfl) ?_
 rw[he]
 refine Calls.spliced_cons (wpAny_Call_Name_kw (Calls.Name_function_global F.kd hkz (Calls.loadGlobal_builtin (mg:=mg) (mb:=mb) ?_ hgz ?_ hmz ?_) rfl))
 ·rw[F.gl];exact H.nsOf G.g G.g'
 ·rw[F.bi];exact H.nsOf G.b G.b'
 refine BJ hb (wpAny_mono (hl A ok posz vs _ hp ρ s E q F H) ?_ (fun z z x=>x))
 intro rvs s' zx
 refine viaP fun z zf=>?_
 obtain⟨l',hp₁,ρ₁,h₁,t₁,rfl,q₁,H₁,S₁,r₁⟩:=zx
 obtain⟨a,b',rfl,hab,hlen,q₁⟩:=Hg q₁
 cases r₁ with | cons ra r₁=>cases r₁ with | cons rb r₁=>cases r₁ with | nil =>
 cases ra with | list hl1 m1 d1=>cases rb with | list hl2 m2 d2 =>
 rename_i l1 xs n1 l2 ys n2
 have z1:=d1.length
 have z2:=d2.length
 simp only[Array.length_toList] at z1 z2
 refine zf ?_
 refine call_zip_2 (s:={ s with heap:=h₁,toks:=t₁ }) (IsL.isList hl1) (IsL.isList hl2) ?_
 intro h₂ hz hTI hTO g1 g2 hsz kp
 refine Calls.spliced_nil ?_
 refine Eh (s:={ s with heap:=h₂,toks:=t₁ }) (h₁:=h₁) ok.hh rfl (by lia) (Tt (Qe z1) (Tt (Qe hab) (Tt (Qr z2) (Tt (Qe z2) (Tt (Qr hab) hlen))))) (IsL.isList hl1) (IsL.isList hl2) ⟨hz,hTI,hTO,g1,g2,kp⟩ hsz fun h' acc' Z=>?_
 obtain⟨c,ls⟩:=Z.ls
 have nm:h₁.objs.size+5 ∉ mu ρ₁:=H₁.notMu (AA (Nat.le_add_right _ _))
 exact⟨_,hp₁,ρ₁,h',t₁,rfl,q₁,H₁.grow Z.up,S₁.trans (Step.grow Z.up),.list ls nm (Z.drs H₁ d1 d2 hab)⟩
end
section
variable{K:KX}{Kf:W.Frag}{mg mb:Str→Option Value}{r:Nat}{env:Env}{look:Str→Option Nat}
inductive DictP(K:KX)(ρ:Rho)(s:Shared)(Q:Str→Str→List O→Prop)(rv:Value)(s':Shared):Prop
 | mk (d:Addr) (x y:Str) (ty:Tok) (hp':List O) (ρ':Rho) (h':Heap) (t:Nat) (e:s'={ s with heap:=h',toks:=t }) (er:rv = .ref d) (D:h'.DictOf (strKind K.prog K.w) d [(x,.str y ty)]) (q:Q x y hp')
   (H:HRel K ρ' hp' h') (S:Step K ρ s.heap ρ' h') (n:s.heap.get? d=none) (o:Off ρ' d)
set_option tactic.hygienic true in
theorem Iv{A:Around}(ok:OkA r A){ek ev:Expr}{pos:Pos}{a b:XE}{vs:List (Option V)}{hp:List O}{ρ:Rho}{s:Shared}{E:Value→Shared→Prop}{Q:Str→Str→List O→Prop}
  (ha:SoundE K r env look ek a) (hb:SoundE K r env look ev b)
  (hshape:(evalEachOpt [some ek] env).zip ((evalEach [ev] env).map fun v=>do let x ← v;standAt pos;pure x)=[(some (eval ek env),do let x ← eval ev env;standAt pos;pure x)])
  (q:a vs (fun va=>b vs fun vb hp=>match va with | .d (.str x)=>(match vb with | .d (.str y)=>Q x y hp | _=>False) | _=>False) hp) (F:FRel K env look vs ρ s.heap) (H:HRel K ρ hp s.heap) :
  wpAny (model K.prog K.w) A (eval (.Dict [some ek] [ev] pos) env) (DictP K ρ s Q) E s:=by
 refine wpAny_Dict_pairs (knd:=strKind K.prog K.w) (pairs:=[(eval ek env,do let x ← eval ev env;standAt pos;pure x)]) hshape (by simp) (by simp) ?_
 have up:∀ b o,s.heap.get? b=some o→(s.heap.push { cls:=.type "dict", data:=.dict #[] }).get? b=some o:=fun z z e=>Heap.get?_push_of_some _ e
 have H₀:=H.grow up
 have S₀:Step K ρ s.heap ρ _:=Step.grow up
 have n:s.heap.get? s.heap.objs.size=none:=AA (Nat.le_refl _)
 have hN:=H.fresh n
 have hO:=H.off n
 have D₀:=Heap.DictOf.new (knd:=strKind K.prog K.w) s.heap
 refine evalPairs_cons (ha.then ok (s:={ s with heap:=s.heap.push { cls:=.type "dict", data:=.dict #[] } }) q (F.step H S₀) H₀ ?_)
 intro va hp₁ ρ₁ h₁ t₁ ra q₁ H₁ S₁ r₁ F₁
 refine wpAny_bind (hb.then ok (s:={ s with heap:=h₁,toks:=t₁ }) q₁ F₁ H₁ ?_)
 intro vb hp₂ ρ₂ h₂ t₂ rb q₂ H₂ S₂ r₂ F₂
 refine wpAny_bind (wpAny_standAt (wpAny_pure (evalPairs_nil ?_)))
 refine viaP fun z zf=>?_
 obtain⟨x,rfl,q₂⟩:=C0 q₂
 obtain⟨y,rfl,q₂⟩:=C0 q₂
 have r₁':=r₁.step S₂ H₁
 cases r₁'
 cases r₂
 rename_i tx ty
 have S:=S₁.trans S₂
 obtain⟨o,es,ep,eo,hx,hd,hr⟩:=D₀
 have D₂:h₂.DictOf (strKind K.prog K.w) s.heap.objs.size []:=⟨o,es,ep,S.keep _ _ eo (H.newTb hN) hO.mu,hx,hd,hr⟩
 have O₂:Off ρ₂ s.heap.objs.size:=hO.step S eo
 refine zf ?_
 refine⟨[(x,.str y ty)],⟨strKind_is ..,rfl,trivial⟩,D₂,fun h' D' hs=>?_⟩
 refine⟨s.heap.objs.size,x,y,ty,hp₂,ρ₂,h',_,rfl,rfl,D',q₂,H₂.other hN O₂ hs.extBut (fun o' e' vs n hq=>?_),(S₀.trans S).skip n hs.extBut,n,O₂⟩
 have:=S.keep _ _ eo (H.newTb hN) hO.mu
 rw[e'] at this;cases this
 rw[hd] at hq;cases hq
end
section
variable{prog:Program}{w:World}{A:Around}{E:Value→Shared→Prop}{s:Shared}
set_option tactic.hygienic true in
theorem KT{h:Heap}{d:Addr}{x:Str}{v:Value}(D:h.DictOf (strKind prog w) d [(x,v)]):∃ t ep,h.get? d=some { cls:=.type "dict", dict:=none,data:=.dict #[⟨hashStr w x,.str x t,v⟩] ep,slots:=#[] }:=by
 obtain⟨o,es,ep,eo,⟨x1,x2,x3⟩,hd,hk,hp,_⟩:=D
 obtain⟨l⟩:=es
 cases hp with | cons h1 h2 h3 =>
  rename_i e l
  cases h3
  obtain⟨hh,key,val⟩:=e
  obtain⟨t,rfl⟩:=Value.isStrOf_shape h1
  obtain⟨k,k1,k2⟩:=hk ⟨hh,.str x t,val⟩ (by simp)
  obtain⟨t',e'⟩:=Value.isStrOf_shape (show Value.isStrOf k (.str x t)=true from k1)
  cases e'
  obtain rfl:val=v:=h2
  obtain rfl:hh=hashStr w x:=k2
  obtain⟨c,dd,dt,sl⟩:=o
  simp only at x1 x2 x3 hd
  subst x1 x2 x3 hd
  exact⟨t,ep,eo⟩
theorem Gm{α:Type}{M:Model}{c:Prop}[Decidable c]{t e:Sem α}{Q:α→Shared→Prop}(hc:¬ c)(h:wpAny M A e Q E s):wpAny M A (if c then t else e) Q E s:=by rw[if_neg hc];exact h
theorem JC{α:Type}{M:Model}{c:Prop}[Decidable c]{t e:Sem α}{Q:α→Shared→Prop}(hc:c)(h:wpAny M A t Q E s):wpAny M A (if c then t else e) Q E s:=by rw[if_pos hc];exact h
theorem Ha{α β:Type}{M:Model}{a:α}{b:β}{f:α→β→Sem (ForInStep β)}{Q:β→Shared→Prop}(h:wpAny M A (f a b) (fun r s=>Q (match r with | .done x=>x | .yield x=>x) s) E s):wpAny M A (forIn [a] b f) Q E s:=by
 rw[List.forIn_cons]
 refine wpAny_bind (wpAny_mono h ?_ (fun z z x=>x))
 intro r s' q
 cases r with
 | done b=>exact wpAny_pure q
 | yield b=>dsimp only;rw[List.forIn_nil];exact wpAny_pure q
theorem G4{α β:Type}{M:Model}{a:α}{b:β}{f:α→β→Sem (ForInStep β)}{Q:β→Shared→Prop}(h:wpAny M A (f a b) (fun r s=>Q (match r with | .done x=>x | .yield x=>x) s) E s):wpAny M A (forIn #[a] b f) Q E s:=by
 rw[← Array.forIn_toList];exact Ha h
theorem Ib{d a:Addr}{x:Str}{t:Tok}{v:Value}{ep:Nat}{Q:Unit→Shared→Prop}(ha:s.heap.get? a=some { cls:=.type "dict", dict:=none,data:=.dict #[⟨hashStr w x,.str x t,v⟩] ep,slots:=#[] })
  (hd:s.heap.get? d=some { cls:=.type "dict", dict:=none,data:=.dict #[] 0,slots:=#[] }) (hda:d≠a) (hsm:(a == sysModules)=false)
  (hQ:∀ h' n,h'.get? d=some { cls:=.type "dict", dict:=none,data:=.dict #[⟨hashStr w x,.str x t,v⟩] n,slots:=#[] }→Heap.SameBut d s.heap h'→Q () { s with heap:=h' }) :
  wpAny (model prog w) A (mergeMapping d (.ref a) true) Q E s:=by
 have hT:s.TypeIs (.ref a) "dict" := ⟨_,ha,rfl⟩
 unfold mergeMapping
 refine wpAny_bind (wpAny_isInstance (T := "dict") (b:=true) hT isSubtype_dict_dict ?_)
 refine wpAny_bind (wpAny_specialOf hT F.slot_dict_iter.lookup (wpAny_bind (wpAny_pure ?_)))
 have bt:(some (Value.builtin "dict.__iter__") == some (Value.builtin "dict.__iter__"))=true:=by decide
 rw[bt]
 refine Gm (by rw[hsm];decide) ?_
 refine wpAny_bind (wpAny_dictEntries hd rfl ?_)
 refine JC (by rfl) ?_
 refine wpAny_bind (wpAny_dictEntries ha rfl ?_)
 refine wpAny_bind (G4 ?_)
 refine wpAny_pure ?_
 refine wpAny_bind (wpAny_dictEntries ha rfl (wpAny_bind (wpAny_dictEpoch ha rfl ?_)))
 refine wpAny_bind (m:=forIn [0] PUnit.unit _) (Ha ?_)
 refine wpAny_bind (wpAny_dictEntries ha rfl ?_)
 have k0:KeysOf (strKind prog w) (#[]:Array DictEntry):=fun e he=>by simp at he
 have kx:(strKind prog w).is x (.str x t)=true:=strKind_is ..
 refine wpAny_bind (wpAny_holding (JC rfl ?_))
 refine wpAny_bind (wpAny_dictFind_of (knd:=strKind prog w) kx hd rfl k0 ?_)
 refine Gm (by simp) ?_
 unfold dictPut
 refine wpAny_bind (wpAny_dictFind_of (knd:=strKind prog w) kx hd rfl k0 ?_)
 rw[show(Array.findIdx? (fun e:DictEntry=>(strKind prog w).is x e.key) #[])=none from by simp]
 refine wpAny_updateDictKeys (f:=(·.push ⟨hashStr w x,.str x t,v⟩)) (hf:=by simp) hd rfl ?_
 have e':(s.heap.update d (Obj.mapDictKeys (·.push ⟨hashStr w x,.str x t,v⟩))).get? a=some _:=(Heap.get?_update_other _ _ hda).trans ha
 refine wpAny_bind (wpAny_dictEpoch e' rfl ?_)
 refine Gm (by simp) ?_
 refine wpAny_pure ?_
 exact wpAny_pure <| hQ _ _ (Heap.get?_update_self (Obj.mapDictKeys (·.push ⟨hashStr w x,.str x t,v⟩)) hd rfl) (Heap.SameBut.update ..)
end
section
variable{prog:Program}{w:World}{A:Around}{E:Value→Shared→Prop}{s:Shared}
noncomputable abbrev oneD(w:World)(x:Str)(t:Tok)(v:Value)(n:Nat):Obj:={ cls:=.type "dict", dict:=none,data:=.dict #[⟨hashStr w x,.str x t,v⟩] n,slots:=#[] }
theorem IZ{f:Value}{x:Sem Value}{Q:Addr→Shared→Prop}
  (hx:wpAny (model prog w) A x (fun rv s₁=>∃ a k t v ep,rv = .ref a∧s₁.heap.get? a=some (oneD w k t v ep)∧s.heap.objs.size≠a∧(a == sysModules)=false∧s₁.heap.get? s.heap.objs.size=some { cls:=.type "dict", dict:=none,data:=.dict #[] 0,slots:=#[] } ∧
   ∀ h' n,h'.get? s.heap.objs.size=some (oneD w k t v n)→Heap.SameBut s.heap.objs.size s₁.heap h'→Q s.heap.objs.size { s₁ with heap:=h' }) E { s with heap:=s.heap.push { cls:=.type "dict", data:=.dict #[] } }) :
  wpAny (model prog w) A (mergedKeywords f [(none,x)]) Q E s:=by
 unfold mergedKeywords
 refine wpAny_bind (wpAny_alloc ?_)
 refine wpAny_bind (wpAny_holding ?_)
 dsimp only
 refine wpAny_bind ?_
 rw[List.forIn_cons]
 refine wpAny_bind ?_
 rw[if_pos (by rfl)]
 refine wpAny_bind (wpAny_pure ?_)
 refine wpAny_bind (wpAny_mono hx ?_ (fun z z x=>x))
 intro _ s₁ zx
 refine viaP fun z zf=>?_
 obtain⟨a,k,t,v,ep,rfl,ha,hne,hsm,hd,hq⟩:=zx
 refine zf ?_
 refine wpAny_bind (wpAny_onRaise (wpAny_holding (wpAny_tryCatch (wpAny_onRaise (Ib ha hd hne hsm fun h' n e' hs'=>?_)))))
 refine wpAny_pure ?_
 dsimp only
 rw[List.forIn_nil]
 refine wpAny_pure ?_
 rw[if_pos (by rfl)]
 exact wpAny_pure (wpAny_pure (hq h' n e' hs'))
theorem OH{f:Value}{d:Addr}{x:Str}{t:Tok}{v:Value}{n:Nat}{Q:List (Str×Value)→Shared→Prop}(hd:s.heap.get? d=some (oneD w x t v n))(hQ:Q [(x,v)] s):wpAny (model prog w) A (keywordsIn f d) Q E s:=by
 unfold keywordsIn
 refine wpAny_bind (wpAny_dictEntries hd rfl ?_)
 refine wpAny_bind (G4 ?_)
 refine wpAny_pure ?_
 exact wpAny_pure hQ
theorem Ga{f:Value}{e1 e2 x:Sem Value}{Q:Args→Shared→Prop}
  (h:wpAny (model prog w) A (spliced [(false,e1),(false,e2)]) (fun vs s₁=>wpAny (model prog w) A x (fun rv s₂=>∃ a k t v ep,rv = .ref a∧s₂.heap.get? a=some (oneD w k t v ep)∧s₁.heap.objs.size≠a∧(a == sysModules)=false ∧
   s₂.heap.get? s₁.heap.objs.size=some { cls:=.type "dict", dict:=none,data:=.dict #[] 0,slots:=#[] } ∧
   ∀ h' n,h'.get? s₁.heap.objs.size=some (oneD w k t v n)→Heap.SameBut s₁.heap.objs.size s₂.heap h'→Q ⟨vs,[(k,v)]⟩ { s₂ with heap:=h' }) E { s₁ with heap:=s₁.heap.push { cls:=.type "dict", data:=.dict #[] } }) E s) :
  wpAny (model prog w) A (evalArgs f true [(false,e1),(false,e2)] [(none,x)]) Q E s:=by
 unfold evalArgs
 refine wpAny_bind (wpAny_mono h ?_ (fun z z x=>x))
 intro vs s₁ h₁
 refine wpAny_bind (wpAny_pure ?_)
 refine wpAny_holding ?_
 dsimp only
 rw[if_neg (by simp)]
 refine wpAny_bind (IZ (wpAny_mono h₁ ?_ (fun z z x=>x)))
 intro rv s₂ zx
 refine viaP fun z zf=>?_
 obtain⟨a,k,t,v,ep,rfl,ha,hne,hsm,hd,hq⟩:=zx
 refine zf ?_
 refine⟨a,k,t,v,ep,rfl,ha,hne,hsm,hd,fun h' n e' hs'=>?_⟩
 refine wpAny_bind (wpAny_pure ?_)
 refine wpAny_bind (wpAny_holding (OH (s:={ s₂ with heap:=h' }) e' ?_))
 exact wpAny_pure (hq h' n e' hs')
theorem Ec{pos:Pos}{Ma f:Addr}{self:Value}{of:Obj}{fd:FuncData}{args:List (Bool×Sem Value)}{keywords:List (Option Str×Sem Value)}{Q:Value→Shared→Prop}(hst:(args.any (·.1) || keywords.any (·.1.isNone))=true)
  (h:wpAny (model prog w) A (evalArgs (.ref Ma) true args keywords) (fun x s₁=>s₁.heap.get? Ma=some (W.methodObj (.ref f) self)∧s₁.heap.get? f=some of∧of.data = .func fd∧wpAny (model prog w) A (call (.ref Ma) x.pos x.kw) Q E s₁) E s) :
  wpAny (model prog w) A (callWith pos (.ref Ma) [] args keywords) Q E s:=by
 unfold callWith
 refine wpAny_bind (wpAny_holding (wpAny_mono h (fun x s₁ h₁=>wpAny_bind (wpAny_standAt ?_)) fun z z x=>x))
 refine viaP fun z zf=>?_
 obtain⟨hM,hf,hd,h₁⟩:=h₁
 have tail:∀ {t:Sem Value},wpAny (model prog w) A t Q E s₁→wpAny (model prog w) A (t >>= fun r=>holding [r] point >>= fun z=>pure r) Q E s₁ :=
  fun ht=>wpAny_bind (wpAny_mono ht (fun r s₂ hr=>wpAny_bind (wpAny_holding (wpAny_point (wpAny_pure hr)))) fun z z x=>x)
 refine zf ?_
 rw[hst]
 refine wpAny_bind ?_
 unfold keeperOf
 refine wpAny_bind (wpAny_load hM ?_)
 show wpAny _ _ (load f >>= _) _ _ _
 refine wpAny_bind (wpAny_load hf ?_)
 rw[hd]
 refine wpAny_pure ?_
 exact tail (wpAny_operating h₁)
end
section
variable{prog:Program}{w:World}{A:Around}{E:Value→Shared→Prop}{s:Shared}
theorem IX{d:Addr}{x:Str}{v:Value}{Q:Unit→Shared→Prop}(hd:s.heap.get? d=some { cls:=.type "dict", dict:=none,data:=.dict #[] 0,slots:=#[] })
  (hQ:∀ h',h'.get? d=some (oneD w x s.toks v 1)→Heap.SameBut d s.heap h'→Q () { s with heap:=h',toks:=s.toks+1 }):wpAny (model prog w) A (nsSet d x v) Q E s:=by
 unfold nsSet
 refine wpAny_bind (m:=strHash x) ?_
 unfold strHash
 refine wpAny_bind (wpAny_askSetting (wpAny_pure ?_))
 refine wpAny_bind (wpAny_mkText ?_)
 refine wpAny_bind (wpAny_loadPart (s:={ s with toks:=s.toks+1 }) hd ?_)
 dsimp only
 rw[if_neg (by rw[aRefKeyMayBeTheName_eq];simp[aRefKeyMayBeTheNameByArray])]
 refine wpAny_updatePart (s:={ s with toks:=s.toks+1 }) hd (hQ _ ?_ (Heap.SameBut.update ..))
 rw[Obj.putName_eq]
 have pe:∀ hh k,Obj.putNameByArray x hh k v { cls:=.type "dict", dict:=none,data:=.dict #[] 0,slots:=#[] }={ cls:=.type "dict", dict:=none,data:=.dict #[⟨hh,k,v⟩] 1,slots:=#[] }:=fun hh k=>by
  unfold Obj.putNameByArray
  dsimp only
  rw[show Array.findIdx? (fun e:DictEntry=>e.key.isStr x) #[]=none from by simp]
  rfl
 rw[Heap.get?_update_self _ hd (by rw[pe];rfl),pe]
 rfl
end
section
variable{K:KX}{Kf:W.Frag}{mg mb:Str→Option Value}{r:Nat}{env:Env}{look:Str→Option Nat}
def bKw1(n:Nat)(x:Str):BT:=fun vas Q hp=>∃ ws y,vas=ws++[.d (.str y)]∧ws.length=n∧Q (ws++[.r hp.length]) (hp++[.dict1 x y])
theorem VRs.split{ρ:Rho}{h:Heap}:∀ {ws:List V} {v:V} {rs:List Value} {x:Value},VRs ρ h (ws++[v]) (rs++[x])→VRs ρ h ws rs∧VR ρ h v x
 | [],v,[],x,R=>by cases R with | cons a _=>exact⟨.nil,a⟩
 | [],v,y::rs,x,R=>by have:=R.length;simp at this
 | w::ws,v,[],x,R=>by have:=R.length;simp at this
 | w::ws,v,y::rs,x,R=>by cases R with | cons a b=>exact⟨.cons a b.split.1,b.split.2⟩
set_option tactic.hygienic true in
theorem Od{fd:FuncData}{n:Nat}{ps:List Str}{x:Str}(hn:ps.length=n+1)
  (h:∀ (ras:List Value) (v:Value),ras.length=n→bindArgs fd ⟨ras,[(x,v)]⟩=(alloc { cls:=.type "dict", data:=.dict #[] } >>= fun d=>forIn [(x,v)] PUnit.unit (fun(a:Str×Value) (_:PUnit)=>(nsSet d a.1 a.2 >>= fun z=>pure (ForInStep.yield PUnit.unit):Sem (ForInStep PUnit))) >>= fun z=>pure (ps.zip (ras++[.ref d])))):SoundBind K fd [x] ps (bKw1 n x):=by
 intro A hh ρ hp s vas ras ks Q E hk q H R
 obtain⟨v,rfl⟩:=List.length_eq_one_iff.mp hk
 obtain⟨ws,y,rfl,hw,q⟩:=q
 obtain⟨R1,R2⟩:=R.split
 have hl:=R1.length
 rw[show([x]:List Str).zip [v]=[(x,v)] from rfl,h ras v (by rw[← hl];exact hw)]
 cases R2
 rename_i ty
 have g:(s.heap.push { cls:=.type "dict", data:=.dict #[] }).get? s.heap.objs.size=some { cls:=.type "dict", data:=.dict #[] }:=Heap.get?_push_size _ rfl
 have n0:s.heap.get? s.heap.objs.size=none:=AA (Nat.le_refl _)
 refine wpAny_bind (wpAny_alloc (wpAny_bind ?_))
 rw[List.forIn_cons]
 refine wpAny_bind (wpAny_bind (IX (s:={ s with heap:=s.heap.push { cls:=.type "dict", data:=.dict #[] } }) g fun h' e' hs'=>?_))
 have up:∀ b o,s.heap.get? b=some o→h'.get? b=some o:=fun b o e=>(hs'.2 b (AP n0 e)).trans (Heap.get?_push_of_some _ e)
 obtain⟨H',S'⟩:=H.add up (p:=⟨s.heap.objs.size,s.heap.objs.size,[]⟩) (o:=.dict1 x y) n0 ⟨_,e'⟩ (fun z h=>nomatch h) ⟨rfl,_,_,e'⟩
 refine wpAny_pure ?_
 dsimp only
 rw[List.forIn_nil]
 refine wpAny_pure (wpAny_pure ⟨ws++[.r hp.length],ras++[.ref s.heap.objs.size],hp++[.dict1 x y],_,h',_,rfl,rfl,by rw[List.length_append,← hl,hw,hn];rfl,q,H',S',?_⟩)
 exact(R1.step S' H).append (.cons ⟨⟨s.heap.objs.size,s.heap.objs.size,[]⟩,by rw[← H.len];simp,rfl⟩ .nil)
end
section
variable{K:KX}{Kf:W.Frag}{mg mb:Str→Option Value}{r:Nat}{env:Env}{look:Str→Option Nat}
def sForD(k:Nat)(tgt:XT)(body:XS):XS:=fun vs Q hp=>∃ i x y,vs[k]?=some (some (.r i))∧hp[i]?=some (.dict1 x y) ∧
 tgt (.d (.tuple [.str x,.str y])) vs (fun vs' hp'=>body vs' (fun fl vs'' hp''=>match fl with
  | .next=>hp''[i]?=some (.dict1 x y)∧Q .next vs'' hp''
  | .cont=>hp''[i]?=some (.dict1 x y)∧Q .next vs'' hp''
  | .brk=>Q .next vs'' hp''
  | .ret v=>Q (.ret v) vs'' hp'') hp') hp
theorem Gh{ρ:Rho}{hp:List O}{h:Heap}{i:Nat}{p:P}{x y:Str}(H:HRel K ρ hp h)(e:hp[i]?=some (.dict1 x y))(ep:ρ[i]?=some p):p.a=p.m∧∃ ty,h.DictAt (strKind K.prog K.w) p.m [(x,.str y ty)] 1:=by
 obtain⟨ea,t,ty,g⟩:=H.ob i _ p e ep
 refine⟨ea,ty,_,_,g,⟨rfl,rfl,rfl⟩,rfl,fun e he=>?_,.cons (strKind_is ..) rfl .nil,by simp⟩
 simp at he;subst he
 exact⟨x,strKind_is ..,rfl⟩
theorem FRel.otherF{vs:List (Option V)}{ρ:Rho}{h h':Heap}{a:Addr}{o:Obj}(F:FRel K env look vs ρ h)(e:h.get? a=some o)(hd:∃ fs,o.data = .fields fs)(hr:o.cls≠.type "range")(hs:Heap.ExtBut a h h'):FRel K env look vs ρ h':=by
 obtain⟨fs,hd⟩:=hd
 have hne:∀ b ob,h.get? b=some ob→(∀ fs,ob.data≠.fields fs)→h'.get? b=some ob:=fun b ob eb hq=>hs b ob (by rintro rfl;rw[e] at eb;cases eb;exact hq _ hd) eb
 have hv:∀ {v:V} {rv:Value},VR ρ h v rv→VR ρ h' v rv:=by
  intro v rv d
  cases v with
  | d x=>exact DR.mono (fun b ob vs n eb hq hm=>⟨hne b ob eb (fun y z=>by rw[hq] at z;cases z),hm⟩) d
  | r i=>exact d
  | rng a' b c =>
   obtain⟨q,t,u,w,rfl,eq,hm⟩:=d
   exact⟨q,t,u,w,rfl,hs _ _ (by rintro rfl;rw[e] at eq;cases eq;exact hr rfl) eq,hm⟩
  | g v=>exact d
 obtain⟨m,⟨o',es,ep,e',dd,rr⟩,f⟩:=F.ns
 refine⟨F.kd,F.gl,F.bi,F.lb,F.lo,⟨m,⟨o',es,ep,hne _ _ e' (fun y z=>by rw[dd] at z;cases z),dd,rr⟩,fun x k v a b c=>let ⟨rv,p,q⟩:=f x k v a b c;⟨rv,p,hv q⟩⟩,?_,F.ci,F.ij⟩
 intro x hx
 obtain⟨c,o',ov,a1,a2,a3,a4,a5,a6⟩:=F.cl x hx
 exact⟨c,o',ov,a1,a2,a3,hne _ _ a4 (fun y z=>by rw[a5] at z;cases z),a5,fun k v b1 b2=>let ⟨rv,p,q⟩:=a6 k v b1 b2;⟨rv,p,hv q⟩⟩
inductive TurnD(K:KX)(env:Env)(look:Str→Option Nat)(s:Shared)(ρ:Rho)(I d:Addr)(W:List (Option V)→List O→Prop)(s':Shared):Prop
 | mk (vs':List (Option V)) (hp':List O) (ρ':Rho) (h':Heap) (t:Nat) (ok ov:Value) (e:s'={ s with heap:=h',toks:=t }) (q:W vs' hp') (F:FRel K env look vs' ρ' h') (H:HRel K ρ' hp' h') (it:IsItemIter h' I d 1 1 1 ok ov) (o:Off ρ' I) (S:StepS K env ρ s.heap ρ' h')
theorem Mt{pn:Str}{k:Nat}{elts:List Expr}{kt:Nat}{pt pp apos cpos pos:Pos}{body:List Stmt}{tgt:XT}{b:XS}(hsm:∃ o,K.h0.get? sysModules=some o)(hk:env.kindOf pn=some .local)(hl:look pn=some k)(hd:(pn == ("__debug__" : Str))=false)
  (ht:SoundT K r env look (.Tuple elts kt pt) tgt) (hb:SoundSs K r env look body b)
  (hbase:attributeBase (.Name pn pp) "items" env (eval (.Name pn pp) env)=eval (.Name pn pp) env) (hline:(apos.endLine == cpos.line)=true)
  (hs:∀ x,foldedSetIterable (.Call (.Attribute (.Name pn pp) "items" apos) [] [] cpos) env x=pure x) :
  SoundS K r env look (.For (.Tuple elts kt pt) (.Call (.Attribute (.Name pn pp) "items" apos) [] [] cpos) body [] pos) (sForD k tgt b):=by
 rintro A ok vs Q hp ρ s E ⟨i,x,y,e1,e2,q⟩ F H
 have hi:i<ρ.length:=by rw[H.len];exact(List.getElem?_eq_some_iff.mp e2).1
 refine viaP fun z zf=>?_
 obtain⟨p,ep⟩:∃ p,ρ[i]?=some p:=⟨_,List.getElem?_eq_getElem hi⟩
 obtain⟨pam,ty,hm0⟩:=Gh H e2 ep
 obtain⟨m,nn,f⟩:=F.ns
 obtain⟨rv,f1,f2⟩:=f pn k (.r i) hk hl e1
 obtain⟨p',ep',rfl⟩:=f2
 rw[ep] at ep'
 cases ep'
 rw[pam] at f1
 have pm:=List.mem_of_getElem? ep
 have hS:(p.m == sysModules)=false:=by
  rw[beq_eq_false_iff_ne]
  intro e
  obtain⟨o,eo⟩:=hsm
  have:=H.hi p pm
  rw[e] at this
  have eo:=K.sub _ _ eo
  rw[this] at eo;cases eo
 refine zf ?_
 refine wpAny_For (wpAny_Call_items (knd:=strKind K.prog K.w) hS hm0.dictOf hbase hline (fun Q' x=>wpAny_Name (wpAny_loadName_local F.kd hk nn f1 x) hd) ?_) hs
 have k1:∀ b o,s.heap.get? b=some o→(s.heap.push { cls:=.type "dict_items", data:=.fields #[.ref p.m] }).get? b=some o:=fun b o e=>Heap.get?_push_of_some _ e
 refine wpAny_pyIter_items (knd:=strKind K.prog K.w) (d:=p.m) (kvs:=[(x,.str y ty)]) (ep:=1) ⟨_,Heap.get?_push_size _ rfl,rfl,rfl⟩ (hm0.keep k1) ?_
 generalize s.heap.push { cls:=.type "dict_items", data:=.fields #[.ref p.m] }=h1 at k1 ⊢
 dsimp only
 have it2:IsItemIter (h1.push { cls:=.type "dict_itemiterator", data:=.fields #[.none,.bool false,.ref p.m,.int 0 0,.int ([(x,Value.str y ty)].length) 0,.int (1:Nat) 0,.none,.none] }) h1.objs.size p.m 0 [(x,Value.str y ty)].length 1 .none .none:=Heap.get?_push_size _ rfl
 have k2:∀ b o,s.heap.get? b=some o→(h1.push { cls:=.type "dict_itemiterator", data:=.fields #[.none,.bool false,.ref p.m,.int 0 0,.int ([(x,Value.str y ty)].length) 0,.int (1:Nat) 0,.none,.none] }).get? b=some o:=fun b o e=>Heap.get?_push_of_some _ (k1 b o e)
 have hI:s.heap.get? h1.objs.size=none:=by
  cases e:s.heap.get? h1.objs.size with
  | none=>rfl
  | some o=>exact absurd (Heap.lt_size (k1 _ o e)) (Nat.lt_irrefl _)
 generalize h1.push { cls:=.type "dict_itemiterator", data:=.fields #[.none,.bool false,.ref p.m,.int 0 0,.int ([(x,Value.str y ty)].length) 0,.int (1:Nat) 0,.none,.none] }=h2 at it2 k2 ⊢
 generalize h1.objs.size=I at it2 hI
 have hn:=H.fresh hI
 have H₂:=H.grow k2
 have hTm:=H₂.sizeMu
 have hTI:h2.objs.size≠I:=Nat.ne_of_gt (Heap.lt_size it2)
 refine codeAny_forLoop_any (fun n s'=>(n=1∧s'={ s with heap:=h2 })∨(n=0∧TurnD K env look s ρ I p.m (fun vs' hp'=>hp'[i]?=some (.dict1 x y)∧Q .next vs' hp') s')) ?_ 1 (.inl ⟨rfl,rfl⟩)
 rintro n s' (⟨rfl,rfl⟩ | ⟨rfl,⟨vs',hp',ρ',h',t,okk,ov,rfl,⟨e2',q'⟩,F',H',it',o',S'⟩⟩)
 ·refine wpAny_pyNext_items_item (knd:=strKind K.prog K.w) (s:={ s with heap:=h2 }) (kvs:=[(x,.str y ty)]) (i:=0) it2 (hm0.keep k2) rfl fun key h3 hkey hit3 hT3 hsz3 kp3=>?_
  obtain⟨tx,rfl⟩:=Value.isStrOf_shape (show Value.isStrOf x key=true from hkey)
  refine wpAny_letOwnedTupleGo_items (s:={ s with heap:=h3 }) hit3 fun h4 hit4 hs4=>?_
  have k4:∀ b o,s.heap.get? b=some o→h4.get? b=some o:=fun b o e=>hs4.extBut b o (AP hI e) (kp3 b o (AP hI e) (k2 b o e))
  have S4:Step K ρ s.heap ρ h4:=Step.grow k4
  have H4:=H.grow k4
  have F4:=F.step H S4
  have dT:VR ρ h4 (.d (.tuple [.str x,.str y])) (.ref h2.objs.size):=.tuple (n:=0) (vs:=#[.str x tx,.str y ty]) (hs4.extBut _ _ hTI hT3) hTm (.cons (.str ..) (.cons (.str ..) .nil))
  refine wpAny_mono (ht A ok (.d (.tuple [.str x,.str y])) vs _ hp ρ { s with heap:=h4 } _ (.ref h2.objs.size) q F4 H4 dT) ?_ (fun z z x=>x)
  rintro _ s₃ ⟨vs₃,hp₃,ρ₃,h₃,t₃,rfl,q₃,F₃,H₃,S₃⟩
  refine wpAny_mono (hb A ok vs₃ _ hp₃ ρ₃ { s with heap:=h₃,toks:=t₃ } _ q₃ F₃ H₃) ?_ (fun z z x=>x)
  rintro fl s₄ ⟨af,vs₄,hp₄,ρ₄,h₄,t₄,rfl,q₄,F₄,H₄,S₄,fr⟩
  have S34:=S₃.trans S₄
  have ho4:Off ρ I:=H.off hI
  have it4:h₄.get? I=some _:=S34.keep _ _ hit4 (H.newTb hn) ho4.mu (F4.notPlace hit4 (fun z z q=>by cases q) (fun z q=>by cases q))
  have SS:StepS K env ρ s.heap ρ₄ h₄:=S4.toS.trans S34
  have more:(hp₄[i]?=some (.dict1 x y)∧Q .next vs₄ hp₄)→∃ m,m<1∧((m=1∧({ s with heap:=h₄,toks:=t₄ }:Shared)={ s with heap:=h2 })∨(m=0∧TurnD K env look s ρ I p.m (fun vs' hp'=>hp'[i]?=some (.dict1 x y)∧Q .next vs' hp') { s with heap:=h₄,toks:=t₄ })) :=
   fun qq=>⟨0,Nat.one_pos,.inr ⟨rfl,vs₄,hp₄,ρ₄,h₄,t₄,_,_,rfl,qq,F₄,H₄,it4,ho4.stepS S34 hit4,SS⟩⟩
  cases af<;>cases fl<;>first | exact fr.elim | skip
  ·exact more q₄
  ·exact⟨.next,vs₄,hp₄,ρ₄,h₄,t₄,rfl,q₄,F₄,H₄,SS,trivial⟩
  ·exact more q₄
  ·exact⟨.ret _,vs₄,hp₄,ρ₄,h₄,t₄,rfl,q₄,F₄,H₄,SS,fr⟩
 ·obtain⟨_,ty',hm'⟩:=Gh H' e2' (BD S'.pre ep)
  refine wpAny_pyNext_items_end (knd:=strKind K.prog K.w) (s:={ s with heap:=h',toks:=t }) (kvs:=[(x,.str y ty')]) (i:=1) ok.hh it' hm' rfl fun h'' hx=>?_
  have H'':=H'.other hn o' hx (fun o e vs n hq=>by rw[it'] at e;cases e;cases hq)
  have F'':=F'.otherF it' ⟨_,rfl⟩ (by simp) hx
  exact wpAny_execs_nil ⟨.next,vs',hp',ρ',h'',t,rfl,q',F'',H'',S'.skip hI hx,trivial⟩
end
section
variable{K:KX}{r:Nat}{env:Env}{look:Str→Option Nat}
def SoundBT(K:KX)(r:Nat)(env:Env)(look:Str→Option Nat)(e:Expr)(p:XB):Prop :=
 ∀ A,OkA r A→∀ vs Q hp ρ s E,p vs Q hp→FRel K env look vs ρ s.heap→HRel K ρ hp s.heap→wpAny (model K.prog K.w) A (isTrue e env (eval e env)) (fun b s'=>(b=true→1≤s'.toks)∧PostB K ρ s Q b s') E s
def SoundE1(K:KX)(r:Nat)(env:Env)(look:Str→Option Nat)(e:Expr)(p:XE):Prop :=
 ∀ A,OkA r A→∀ vs Q hp ρ s E,1≤s.toks→p vs Q hp→FRel K env look vs ρ s.heap→HRel K ρ hp s.heap→wpAny (model K.prog K.w) A (eval e env) (PostE K ρ s Q) E s
def SoundS1(K:KX)(r:Nat)(env:Env)(look:Str→Option Nat)(st:Stmt)(p:XS):Prop :=
 ∀ A,OkA r A→∀ vs Q hp ρ s E,1≤s.toks→p vs Q hp→FRel K env look vs ρ s.heap→HRel K ρ hp s.heap→wpAny (model K.prog K.w) A (exec st env) (PostS K env look ρ s Q) E s
def SoundSs1(K:KX)(r:Nat)(env:Env)(look:Str→Option Nat)(st:List Stmt)(p:XS):Prop :=
 ∀ A,OkA r A→∀ vs Q hp ρ s E,1≤s.toks→p vs Q hp→FRel K env look vs ρ s.heap→HRel K ρ hp s.heap→wpAny (model K.prog K.w) A (execs st env) (PostS K env look ρ s Q) E s
theorem NY{l:Expr}{i:Int}{n:Nat}{p2:Pos}{op:CmpOp}{pos:Pos}{f:Op2}{a:XE}(hf:Sound2 K r (compareOp op) f)(ha:SoundE K r env look l a)
  (hm:behindInMarks op (.Constant (.int i) n p2)=false):SoundBT K r env look (.Compare l [op] [.Constant (.int i) n p2] pos) (bCmp f a (fun z Q=>Q (.d (.int i)))):=by
 intro A ok vs Q hp ρ s E q F H
 refine wpAny_isTrue_Compare1 (ha.then ok q F H ?_) hm
 intro va hp₁ ρ₁ h₁ t₁ ra q₁ H₁ S₁ r₁ F₁
 refine wpAny_Constant_int (wpAny_mono (wpAny_toks_of (n:=1) (Nat.le_add_left 1 t₁) (hf A ok ρ₁ hp₁ { s with heap:=h₁,toks:=t₁+1 } va (.d (.int i)) ra _ _ E q₁ H₁ r₁ (.int ..))) ?_ (fun z z x=>x.2))
 rintro rv s' ⟨ht,v,hp',ρ',h',t,rfl,q',H',S,rr⟩
 refine wpAny_mono (wpAny_toks_of ht (E9 (s:={ s with heap:=h',toks:=t }) q' H' rr)) ?_ (fun z z x=>x.2)
 exact fun b s' p=>⟨fun z=>p.1,PostB.after (S₁.trans S) p.2⟩
theorem NZ{x y:Expr}{pos:Pos}{a b:XB}(ha:SoundB K r env look x a)(hb:SoundBT K r env look y b):SoundBT K r env look (.BoolOp .And [x,y] pos) (bAnd a b):=by
 intro A ok vs Q hp ρ s E q F H
 refine wpAny_isTrue_BoolOp (wpAny_allTrue_And_cons (ha.then ok q F H ?_))
 intro c hp₁ ρ₁ h₁ t₁ q₁ H₁ S₁ F₁
 cases c with
 | false=>exact⟨nofun,hp₁,ρ₁,h₁,t₁,rfl,q₁,H₁,S₁⟩
 | true =>
  refine wpAny_allTrue_And_cons (wpAny_mono (hb A ok vs _ hp₁ ρ₁ { s with heap:=h₁,toks:=t₁ } E q₁ F₁ H₁) ?_ (fun z z x=>x))
  rintro c s' ⟨ht,hp₂,ρ₂,h₂,t₂,rfl,q₂,H₂,S₂⟩
  cases c with
  | false=>exact⟨nofun,hp₂,ρ₂,h₂,t₂,rfl,q₂,H₂,S₁.trans S₂⟩
  | true=>exact wpAny_allTrue_And_nil ⟨ht,hp₂,ρ₂,h₂,t₂,rfl,q₂,H₂,S₁.trans S₂⟩
def bOrL(a:XB):XB:=fun vs Q=>a vs fun x hp=>match x with | true=>Q true hp | false=>False
theorem Oc{x y:Expr}{pos:Pos}{a:XB}(ha:SoundB K r env look x a):SoundB K r env look (.BoolOp .Or [x,y] pos) (bOrL a):=by
 intro A ok vs Q hp ρ s E q F H
 refine wpAny_isTrue_BoolOp (wpAny_allTrue_Or_cons (ha.then ok q F H ?_))
 intro c hp₁ ρ₁ h₁ t₁ q₁ H₁ S₁ F₁
 cases c with
 | true=>exact⟨hp₁,ρ₁,h₁,t₁,rfl,q₁,H₁,S₁⟩
 | false=>exact q₁.elim
theorem OX{e:Expr}{p:XE}(h:SoundE K r env look e p):SoundE1 K r env look e p:=fun A ok vs Q hp ρ s E z q F H=>h A ok vs Q hp ρ s E q F H
theorem IB{o:Expr}{x y:Str}{k1 k2:Nat}{p1 p2 apos pos:Pos}{a:XE}(ha:SoundE1 K r env look o a)(hxy:(x == y)=false)
  (hbase:attributeBase o "replace" env (eval o env)=eval o env)
  (hfew:((backTo pos (starEach [.Constant (.str x) k1 p1,.Constant (.str y) k2 p2] env)).all (fun x => !x.1) && (backToKw pos (keywordEach [] env)).all (fun x=>x.1.isSome)
   && decide (([.Constant (.str x) k1 p1,.Constant (.str y) k2 p2]:List Expr).length+([]:List Keyword).length+(if ([]:List Keyword).isEmpty then 0 else 1)<30))=true)
  (hline:(apos.endLine == pos.line)=true)
  (he:backTo pos (starEach [.Constant (.str x) k1 p1,.Constant (.str y) k2 p2] env)=[(false,eval (.Constant (.str x) k1 p1) env),(false,eval (.Constant (.str y) k2 p2) env)]) :
  SoundE1 K r env look (.Call (.Attribute o "replace" apos) [.Constant (.str x) k1 p1,.Constant (.str y) k2 p2] [] pos) (xRepl x y a) :=
 fun A ok vs Q hp ρ s E ht q F H=>IU ht hxy hbase hfew hline he (ha A ok vs _ hp ρ s E ht q F H)
theorem IT{x:Str}{k:Nat}{pos' pos:Pos}{value:Expr}{a:XE}(ha:SoundE1 K r env look value a)(hk:env.kindOf x=some .local∨env.kindOf x=some .cell)(hl:look x=some k)
  (hs:swapsWith value (some (.Name x pos')) pos.line env=pure false):SoundS1 K r env look (.Assign [.Name x pos'] value pos) (sAssign k a):=by
 intro A ok vs Q hp ρ s E ht q F H
 refine wpAny_Assign_Name (wpAny_mono (ha A ok vs _ hp ρ s E ht q F H) ?_ (fun z z x=>x)) hs
 rintro ra s' ⟨va,hp₁,ρ₁,h₁,t₁,rfl,q₁,H₁,S₁,r₁⟩
 refine wpAny_mono (AV (s:={ s with heap:=h₁,toks:=t₁ }) hk hl (F.step H S₁) H₁ r₁) ?_ (fun z z x=>x)
 rintro _ s' ⟨h₂,t₂,rfl,F₂,H₂,S₂⟩
 exact⟨.next,_,hp₁,ρ₁,h₂,t₂,rfl,q₁,F₂,H₂,S₁.toS.trans S₂,trivial⟩
theorem GH{st:Stmt}{rest:List Stmt}{a b:XS}(ha:SoundS1 K r env look st a)(hb:SoundSs K r env look rest b):SoundSs1 K r env look (st::rest) (sCons a b):=by
 intro A ok vs Q hp ρ s E ht q F H
 refine wpAny_execs_cons (wpAny_mono (ha A ok vs _ hp ρ s E ht q F H) ?_ (fun z z x=>x))
 rintro fl s' ⟨af,vs',hp',ρ',h',t,rfl,q',F',H',S,fr⟩
 cases af<;>cases fl<;>first | exact fr.elim | skip
 ·exact wpAny_mono (hb A ok vs' Q hp' ρ' { s with heap:=h',toks:=t } E q' F' H') (fun fl s' p=>PostS.after S p) (fun z z x=>x)
 ·exact⟨.brk,vs',hp',ρ',h',t,rfl,q',F',H',S,trivial⟩
 ·exact⟨.cont,vs',hp',ρ',h',t,rfl,q',F',H',S,trivial⟩
 ·exact⟨.ret _,vs',hp',ρ',h',t,rfl,q',F',H',S,fr⟩
theorem O8{test:Expr}{body orelse:List Stmt}{pos:Pos}{t:XB}{a b:XS}(ht:SoundB K r env look test t)(ha:SoundSs1 K r env look body a)(hb:SoundSs K r env look orelse b) :
  SoundS1 K r env look (.If test body orelse pos) (sIf t a b):=by
 intro A ok vs Q hp ρ s E hs q F H
 refine wpAny_If (wpAny_mono (wpAny_toks_of hs (ht A ok vs _ hp ρ s E q F H)) ?_ (fun z z x=>x.2))
 rintro c s' ⟨ht',hp₁,ρ₁,h₁,t₁,rfl,q₁,H₁,S₁⟩
 cases c with
 | true=>exact wpAny_mono (ha A ok vs Q hp₁ ρ₁ { s with heap:=h₁,toks:=t₁ } E ht' q₁ (F.step H S₁) H₁) (fun rv s' p=>PostS.after S₁.toS p) (fun z z x=>x)
 | false=>exact wpAny_mono (hb A ok vs Q hp₁ ρ₁ { s with heap:=h₁,toks:=t₁ } E q₁ (F.step H S₁) H₁) (fun rv s' p=>PostS.after S₁.toS p) (fun z z x=>x)
theorem O6{test:Expr}{body orelse:List Stmt}{pos:Pos}{t:XB}{a b:XS}(ht:SoundBT K r env look test t)(ha:SoundSs1 K r env look body a)(hb:SoundSs K r env look orelse b) :
  SoundS K r env look (.If test body orelse pos) (sIf t a b):=by
 intro A ok vs Q hp ρ s E q F H
 refine wpAny_If (wpAny_mono (ht A ok vs _ hp ρ s E q F H) ?_ (fun z z x=>x))
 rintro c s' ⟨ht',hp₁,ρ₁,h₁,t₁,rfl,q₁,H₁,S₁⟩
 cases c with
 | true=>exact wpAny_mono (ha A ok vs Q hp₁ ρ₁ { s with heap:=h₁,toks:=t₁ } E (ht' rfl) q₁ (F.step H S₁) H₁) (fun rv s' p=>PostS.after S₁.toS p) (fun z z x=>x)
 | false=>exact wpAny_mono (hb A ok vs Q hp₁ ρ₁ { s with heap:=h₁,toks:=t₁ } E q₁ (F.step H S₁) H₁) (fun rv s' p=>PostS.after S₁.toS p) (fun z z x=>x)
end
section
variable{K:KX}{r:Nat}{env:Env}{look:Str→Option Nat}
def xFv(a:XE):XE:=fun vs Q=>a vs fun v hp=>∃ z:Str,v = .d (.str z)∧z.length≤16777216∧Q (.d (.str z)) hp
set_option tactic.hygienic true in
theorem OW{e:Expr}{pos:Pos}{a:XE}(ha:SoundE K r env look e a):SoundE K r env look (.FormattedValue e 115 none pos) (xFv a):=by
 intro A ok vs Q hp ρ s E q F H
 refine wpAny_FormattedValue_s (ha.then ok q F H ?_)
 rintro va hp₁ ρ₁ h₁ t₁ ra ⟨z,rfl,hz,q₁⟩ H₁ S₁ r₁ F₁
 cases r₁
 rename_i t
 have hz':z.length≤sizeLine:=by rw[sizeLine_eq];exact hz
 have k:∀ t' k',wpAny (model K.prog K.w) A (formatField (.str z t') Str.empty) (PostE K ρ s Q) E { s with heap:=h₁,toks:=k' }:=fun t' k' =>
  wpAny_formatField_str ⟨_,hp₁,ρ₁,h₁,_,rfl,q₁,H₁,S₁,.str ..⟩ ⟨_,hp₁,ρ₁,h₁,_,rfl,q₁,H₁,S₁,.str ..⟩ hz'
 exact wpAny_habitSame_str (k _ _) (k _ _) hz'
abbrev XJ:=List (Option V)→Str→(Str→List O→Prop)→List O→Prop
def jNil:XJ:=fun z acc Q=>Q acc
def jCons(a:XE)(p:XJ):XJ:=fun vs acc Q=>a vs fun v hp=>∃ z:Str,v = .d (.str z)∧(acc++z).length≤16777216∧p vs (acc++z) Q hp
def SoundJ(K:KX)(r:Nat)(env:Env)(look:Str→Option Nat)(es:List Expr)(p:XJ):Prop :=
 ∀ A,OkA r A→∀ vs acc Q hp ρ s E (R:Str→Shared→Prop),p vs acc Q hp→FRel K env look vs ρ s.heap→HRel K ρ hp s.heap →
  (∀ out hp' ρ' h' t,Q out hp'→HRel K ρ' hp' h'→Step K ρ s.heap ρ' h'→R out { s with heap:=h',toks:=t })→Joins (model K.prog K.w) A E (evalEach es env) acc R s
theorem OI:SoundJ K r env look [] jNil:=fun A ok vs acc Q hp ρ s E R q F H k=>k acc hp ρ s.heap s.toks q H (Step.refl ..)
theorem Fo{e:Expr}{es:List Expr}{a:XE}{p:XJ}(ha:SoundE K r env look e a)(hp:SoundJ K r env look es p):SoundJ K r env look (e::es) (jCons a p):=by
 intro A ok vs acc Q hp' ρ s E R q F H k
 show wpAny _ A (eval e env) _ E s
 refine ha.then ok q F H ?_
 rintro va hp₁ ρ₁ h₁ t₁ ra ⟨z,rfl,hz,q₁⟩ H₁ S₁ r₁ F₁
 cases r₁
 exact⟨z,_,rfl,by rw[sizeLine_eq];exact hz,hp A ok vs _ Q hp₁ ρ₁ { s with heap:=h₁,toks:=t₁ } E R q₁ F₁ H₁ fun out hp' ρ' h' t x H' S'=>k out hp' ρ' h' t x H' (S₁.trans S')⟩
def xJoin(p:XJ):XE:=fun vs Q=>p vs Str.empty fun out hp=>out.length≤16777216∧Q (.d (.str out)) hp
theorem NP{v₁ v₂:Expr}{rest:List Expr}{pos:Pos}{p:XJ}(hp:SoundJ K r env look (v₁::v₂::rest) p):SoundE K r env look (.JoinedStr (v₁::v₂::rest) pos) (xJoin p) :=
 fun A ok vs Q hp' ρ s E q F H=>wpAny_JoinedStr (hp A ok vs _ _ hp' ρ s E _ q F H fun out hp' ρ' h' t x H' S'=>⟨by rw[sizeLine_eq];exact x.1,_,hp',ρ',h',_,rfl,x.2,H',S',.str ..⟩)
end
section
variable{K:KX}{r:Nat}{env:Env}{look:Str→Option Nat}
def sSwap(k1 k2:Nat)(a:XE):XS:=fun vs Q=>a vs fun v hp=>∃ p q:PyData,v = .d (.tuple [p,q])∧Q .next ((vs.set k2 (some (.d q))).set k1 (some (.d p))) hp
theorem Mr{px py:Pos}{k:Nat}{tpos pos:Pos}{value:Expr}{x y:Str}{k1 k2:Nat}{a:XE}(ha:SoundE K r env look value a)(hx:env.kindOf x=some .local)(hy:env.kindOf y=some .local)(lx:look x=some k1)(ly:look y=some k2)
  (hs:swapsWithSole [.Tuple [.Name x px,.Name y py] k tpos] value pos.line env=pure false) (hw:swappedStores [.Tuple [.Name x px,.Name y py] k tpos] value env=pure (some [x,y])):SoundS K r env look (.Assign [.Tuple [.Name x px,.Name y py] k tpos] value pos) (sSwap k1 k2 a):=by
 intro A ok vs Q hp ρ s E q F H
 refine PyProof.Rows.Assign_Tuple_swapped (ha.then ok q F H ?_) hs hw
 rintro va hp₁ ρ₁ h₁ t₁ ra ⟨p,q,rfl,q₁⟩ H₁ S₁ r₁ F₁
 refine wpAny_mono (DJ (s:={ s with heap:=h₁,toks:=t₁ }) (v:=.d (.tuple [p,q])) (xs:=[p,q]) ok.hh rfl r₁ H₁) ?_ (fun z z x=>x)
 intro l s' zx
 refine viaP fun z zf=>?_
 obtain⟨h₂,t₂,rfl,d,H₂,S₂⟩:=zx
 cases d with | cons d1 d =>
 cases d with | cons d2 d =>
 cases d
 have F₂:=F₁.step H₁ S₂
 refine zf ?_
 refine wpAny_bind (wpAny_holding (bindName_ (wpAny_mono (AV (s:={ s with heap:=h₂,toks:=t₂ }) (v:=.d q) (.inl hy) ly F₂ H₂ d2) ?_ (fun z z x=>x))))
 rintro _ s' ⟨h₃,t₃,rfl,F₃,H₃,S₃⟩
 refine wpAny_bind (wpAny_holding (bindName_ (wpAny_mono (AV (s:={ s with heap:=h₃,toks:=t₃ }) (v:=.d p) (.inl hx) lx F₃ H₃ (VR.stepS (v:=.d p) S₃ F₂ H₂ d1)) ?_ (fun z z x=>x))))
 rintro _ s' ⟨h₄,t₄,rfl,F₄,H₄,S₄⟩
 exact wpAny_pure ⟨.next,_,hp₁,ρ₁,h₄,t₄,rfl,q₁,F₄,H₄,((S₁.trans S₂).toS.trans S₃).trans S₄,trivial⟩
end
def qC(b:XS)(Q:QS):QS:=fun fl vs hp=>match fl with | .next=>b vs Q hp | fl=>Q fl vs hp
theorem DB{s s':XS}{vs:List (Option V)}{Q:QS}{hp:List O}(q:s vs (qC s' Q) hp):sCons s s' vs Q hp:=q
theorem Ad{s:XS}{vs:List (Option V)}{Q:QS}{hp:List O}(q:s vs Q hp):qC s Q .next vs hp:=q
def seqX(l:List (Stmt×XS)):XS:=l.foldr (fun x b=>sCons x.2 b) sNil
theorem Eo{K:KX}{r:Nat}{env:Env}{look:Str→Option Nat}{A:Around}(ok:OkA r A){R:Flow→Shared→Prop}{E:Value→Shared→Prop}{rest:List Stmt}{Q:List (Option V)→List O→Prop}:∀ (l:List (Stmt×XS)) (vs:List (Option V)) (hp:List O) (ρ:Rho) (s:Shared),
  (∀ x∈l,SoundS K r env look x.1 x.2)→seqX l vs (fun fl vs' hp'=>fl = .next∧Q vs' hp') hp→FRel K env look vs ρ s.heap→HRel K ρ hp s.heap →
  (∀ vs' hp' ρ' h' t',Q vs' hp'→FRel K env look vs' ρ' h'→HRel K ρ' hp' h'→StepS K env ρ s.heap ρ' h'→wpAny (model K.prog K.w) A (execs rest env) R E { s with heap:=h',toks:=t' }) →
  wpAny (model K.prog K.w) A (execs (l.map (·.1)++rest) env) R E s:=by
 intro l
 induction l with
 | nil=>exact fun vs hp ρ s z q F H k=>k vs hp ρ s.heap s.toks q.2 F H (StepS.refl ..)
 | cons x l ih =>
  intro vs hp ρ s w q F H k
  refine wpAny_execs_cons (wpAny_mono (w x List.mem_cons_self A ok vs (qC (seqX l) fun fl vs' hp'=>fl = .next∧Q vs' hp') hp ρ s E q F H) ?_ (fun z z x=>x))
  rintro fl s' ⟨af,vs',hp',ρ',h',t',rfl,q',F',H',S',fr⟩
  cases af with
  | next =>
   cases fl<;>first | exact fr.elim | skip
   exact ih vs' hp' ρ' { s with heap:=h',toks:=t' } (fun y hy=>w y (List.mem_cons_of_mem _ hy)) q' F' H' fun vs2 hp2 ρ2 h2 t2 q2 F2 H2 S2=>k vs2 hp2 ρ2 h2 t2 q2 F2 H2 (S'.trans S2)
  | _=>cases q'.1
theorem SoundF.le{K:KX}{r r':Nat}{f:Value}{kn:List Str}{F:FT}(h:SoundF K r f kn F)(hr:r≤r'):SoundF K r' f kn F:=fun A ok=>h A (ok.le hr)
noncomputable def stAt(i:Nat):Stmt:=(Challenge.pw_pu0047_02.main.body[i]?).getD (.Pass default)
noncomputable def clAt(i k:Nat):Stmt:=match stAt i with | .ClassDef _ _ _ b _ _ _ _ _ _ _=>(b[k]?).getD (.Pass default) | _=>.Pass default
noncomputable def fBody:Stmt→List Stmt | .FunctionDef _ _ b _ _ _ _ _ _ _=>b | _=>[]
noncomputable def fScope:Stmt→Scope | .FunctionDef _ _ _ _ _ _ s _ _ _=>s | _=>default
noncomputable def fArgs:Stmt→Arguments | .FunctionDef _ a _ _ _ _ _ _ _ _=>a | _=>default
noncomputable def fdOf(st:Stmt)(fd:FuncData):FuncData:={ fd with params:=fArgs st,body:=.stmts (fBody st),scope:=fScope st,globals:=3,closure:=[],builtins:=0 }
def cI(i:Int):XE:=fun z Q=>Q (.d (.int i))
def cS(x:Str):XE:=fun z Q=>Q (.d (.str x))
def cB(x:Bool):XE:=fun z Q=>Q (.d (.bool x))
def cNone:XE:=fun z Q=>Q (.d .none)
theorem B0{fd:FuncData}{d k:Value}(hd:fd.defaults=d)(hk:fd.kwdefaults=k):fd={ fd with defaults:=d,kwdefaults:=k }:=by cases hd;cases hk;rfl
theorem len0{α:Type}{l:List α}(h:l.length=0):l=[]:=List.eq_nil_of_length_eq_zero h
theorem Ex{α:Type}{l:List α}{n:Nat}(h:l.length=n+1):∃ a k,l=a::k∧k.length=n:=by
 cases l with
 | nil=>exact absurd h (by simp)
 | cons a k=>exact⟨a,k,rfl,Nat.succ.inj h⟩
theorem len1{α:Type}{l:List α}(h:l.length=1):∃ a,l=[a]:=by
 obtain⟨a,k,rfl,z⟩:=Ex h;exact⟨a,by rw[len0 z]⟩
theorem len2{α:Type}{l:List α}(h:l.length=2):∃ a b,l=[a,b]:=by
 obtain⟨a,k,rfl,z⟩:=Ex h;obtain⟨b,rfl⟩:=len1 z;exact⟨a,b,rfl⟩
theorem len3{α:Type}{l:List α}(h:l.length=3):∃ a b c,l=[a,b,c]:=by
 obtain⟨a,k,rfl,z⟩:=Ex h;obtain⟨b,c,rfl⟩:=len2 z;exact⟨a,b,c,rfl⟩
theorem len4{α:Type}{l:List α}(h:l.length=4):∃ a b c d,l=[a,b,c,d]:=by
 obtain⟨a,k,rfl,z⟩:=Ex h;obtain⟨b,c,d,rfl⟩:=len3 z;exact⟨a,b,c,d,rfl⟩
def FnOk(K:KX)(a:Addr)(st:Stmt):Prop:=∃ fd,FnAt K a (fdOf st fd) (fBody st)∧fd.defaults = .none∧fd.kwdefaults = .none
def FnOkD(K:KX)(a:Addr)(st:Stmt)(d:Value):Prop:=∃ fd,FnAt K a (fdOf st fd) (fBody st)∧fd.defaults=d∧fd.kwdefaults = .none
noncomputable def fldOk(Kf:W.Frag)(C:Addr)(x:Str):Bool:=W.plainGet Kf C x && (match W.findIn Kf (.ref C) x with | some (some _)=>false | some none=>true | none=>false) && (match W.takerIn Kf C x with | some none=>true | _=>false)
noncomputable def clsOk(Kf:W.Frag)(C:Addr):Bool:=W.hasDictIn Kf C && W.plainOver Kf C && W.makesIn Kf C && W.keepIn Kf (.ref C) && W.noSeq Kf C && (W.findIn Kf (.ref C) "__setattr__" == some (some (.builtin "object.__setattr__")))
noncomputable def metOk(Kf:W.Frag)(C:Addr)(x:Str)(f:Addr):Bool:=W.plainGet Kf C x && (W.findIn Kf (.ref C) x == some (some (.ref f))) && (W.typeIn Kf (.ref f) == some (.type "function"))
theorem noFree{names:List (Str×NameKind)}(h:names.all (fun y=>y.2 != .free)=true):∀ x,names.lookup x≠some .free:=by
 intro x e
 have:=List.all_eq_true.mp h _ (mem_of_lookup e)
 simp at this
theorem kindsOk{names:List (Str×NameKind)}{ps:List Str}(h:ps.all (fun x=>names.lookup x == some .local || names.lookup x == some .cell)=true):∀ x∈ps,names.lookup x=some .local∨names.lookup x=some .cell:=by
 intro x hx
 have:=List.all_eq_true.mp h x hx
 simp only[Bool.or_eq_true,beq_iff_eq] at this
 exact this
theorem Ab{K:KX}{a:Addr}{st:Stmt}(h:FnOk K a st):∃ fd body,FnAt K a fd body:=let ⟨fd,X,_⟩:=h;⟨_,_,X⟩
theorem backFalse{l:List (Bool×Sem Value)}(h:l.any (·.1)=false):∀ t:List (Bool×Sem Value),l=t→∀ x∈t,x.1=false:=by
 rintro t rfl x hx
 rw[List.any_eq_false] at h
 simpa using h x hx
noncomputable def isStar:Expr→Bool | .Starred ..=>true | _=>false
theorem E8{e:Expr}{es:List Expr}{env:Env}(h:isStar e=false):starEach (e::es) env=(false,eval e env)::starEach es env:=by
 cases e<;>first | rfl | cases h
theorem Ao{args:List Expr}{env:Env}{pos:Pos}(h:args.all (fun e => !isStar e)=true):(backTo pos (starEach args env)).any (·.1)=false:=by
 induction args with
 | nil=>rfl
 | cons e es ih =>
  simp only[List.all_cons,Bool.and_eq_true,Bool.not_eq_true'] at h
  rw[E8 h.1]
  have:=ih h.2
  unfold backTo at this ⊢
  simpa using this
theorem l_c{K:KX}{r:Nat}{env:Env}{look:Str→Option Nat}{e:Expr}{es:List Expr}{a:XE}{p:XL}(ha:SoundE K r env look e a)(hp:SoundL K r env look es p)(h:isStar e=false):SoundL K r env look (e::es) (lCons a p) :=
 K2 ha hp (E8 h)
inductive StrsE:List Expr→List Str→Prop
 | nil:StrsE [] []
 | cons {x:Str} {k:Nat} {p:Pos} {es:List Expr} {xs:List Str}:StrsE es xs→StrsE (.Constant (.str x) k p::es) (x::xs)
def lStrs(xs:List Str):XL:=fun z Q=>Q (xs.map fun x=>.d (.str x))
theorem HG{K:KX}{r:Nat}{env:Env}{look:Str→Option Nat}{es:List Expr}{xs:List Str}(h:StrsE es xs):SoundL K r env look es (lStrs xs):=by
 induction h with
 | nil=>exact A6
 | cons h ih=>exact l_c AM ih rfl
noncomputable def readBody:List Stmt:=fBody (((fBody (stAt 13))[2]?).getD (.Pass default))
section
variable{K:KX}{Kf:W.Frag}{mg mb:Str→Option Value}{r:Nat}{env:Env}{look:Str→Option Nat}
theorem Jv{C f:Addr}{x:Str}(h:metOk Kf C x f=true):W.plainGet Kf C x=true:=by unfold metOk at h;simp only[Bool.and_eq_true] at h;exact h.1.1
theorem GS{C f:Addr}{x:Str}(h:metOk Kf C x f=true):W.findIn Kf (.ref C) x=some (some (.ref f)):=by unfold metOk at h;simp only[Bool.and_eq_true,beq_iff_eq] at h;exact h.1.2
theorem GR{C f:Addr}{x:Str}(h:metOk Kf C x f=true):W.typeIn Kf (.ref f)=some (.type "function"):=by unfold metOk at h;simp only[Bool.and_eq_true,beq_iff_eq] at h;exact h.2
theorem ID{C:Addr}(h:clsOk Kf C=true):W.hasDictIn Kf C=true:=by unfold clsOk at h;simp only[Bool.and_eq_true] at h;exact h.1.1.1.1.1
theorem OZ{C:Addr}(h:clsOk Kf C=true):W.plainOver Kf C=true:=by unfold clsOk at h;simp only[Bool.and_eq_true] at h;exact h.1.1.1.1.2
theorem ME{C:Addr}(h:clsOk Kf C=true):W.makesIn Kf C=true:=by unfold clsOk at h;simp only[Bool.and_eq_true] at h;exact h.1.1.1.2
theorem Ka{C:Addr}(h:clsOk Kf C=true):W.keepIn Kf (.ref C)=true:=by unfold clsOk at h;simp only[Bool.and_eq_true] at h;exact h.1.1.2
theorem OY{C:Addr}(h:clsOk Kf C=true):W.findIn Kf (.ref C) "__setattr__" = some (some (.builtin "object.__setattr__")):=by unfold clsOk at h;simp only[Bool.and_eq_true,beq_iff_eq] at h;exact h.2
theorem Bb(X:KF K Kf){C:Addr}{k:Nat}{x:Str}(hc:clsOk Kf C=true)(hf:fldOk Kf C x=true)(hx:K.attrs[k]?=some x){expr:Bool}:Sound1 K r (fun v=>getAttr v x expr) (getF C k):=by
 unfold fldOk at hf
 simp only[Bool.and_eq_true] at hf
 obtain⟨⟨h1,h2⟩,h3⟩:=hf
 have e:W.findIn Kf (.ref C) x=some none:=by
  revert h2
  cases W.findIn Kf (.ref C) x with
  | none=>simp
  | some v=>cases v<;>simp
 exact Il X hx h1 (ID hc) e rfl
theorem Cq(X:KF K Kf){al:List Str}(ha:K.attrs=al){C:Addr}{k:Nat}{x:Str}(hc:clsOk Kf C=true)(hf:fldOk Kf C x=true)(hx:K.attrs[k]?=some x)(nd:decide (al.Nodup∧al.length≤1000)=true):SoundSet K x (setF C k):=by
 unfold fldOk at hf
 simp only[Bool.and_eq_true] at hf
 obtain⟨⟨h1,h2⟩,h3⟩:=hf
 have e:W.takerIn Kf C x=some none:=by
  revert h3
  cases W.takerIn Kf C x with
  | none=>simp
  | some v=>cases v<;>simp
 have nd':=of_decide_eq_true nd
 rw[ha] at hx
 refine Gy X (by rw[ha];exact hx) ?_ (by rw[ha];exact nd'.2) (OY hc) (OZ hc) e (ID hc)
 intro j hj
 rw[ha] at hj
 exact(List.getElem?_inj (List.getElem?_eq_some_iff.mp hj).1 nd'.1).mp (hj.trans hx.symm)
theorem AN(G:KG K mg mb){f:Str}{a:Addr}{args:List Expr}{p pos:Pos}{F:FT}{l:XL}(X:∃ fd body,FnAt K a fd body)(hF:SoundF K r (.ref a) [] F)(hl:SoundL K r env look args l)
  (hk:env.kindOf f=some .globalImplicit) (hg:mg f=some (.ref a)) (hd:(f == ("__debug__" : Str))=false) (hb:(backTo pos (starEach args env)).any (·.1)=false) :
  SoundE K r env look (.Call (.Name f p) args [] pos) (xCall F l):=by
 obtain⟨fd,body,X⟩:=X
 exact KR G X hF hl hk hg hd (backFalse hb)
theorem AK(X:KF K Kf){C f:Addr}{st:Stmt}{o:Expr}{name:Str}{args:List Expr}{kws:List Keyword}{apos pos:Pos}{F:FT}{a:XE}{l k:XL}
  (Y:FnOk K f st) (hm:metOk Kf C name f=true) (hF:SoundF K r (.ref f) (knOf kws) F) (ho:SoundE K r env look o a) (hl:SoundL K r env look args l) (hk:SoundK K r env look kws k) (hn:name ∉ K.attrs)
  (hbase:attributeBase o name env (eval o env)=eval o env) (hb:(backTo pos (starEach args env)).any (·.1)=false) (hkn:(backToKw pos (keywordEach kws env)).all (·.1.isSome)=true)
  (hform:methodCallForm (args.length+kws.length) (backTo pos (starEach args env)) (backToKw pos (keywordEach kws env))=true) (hline:(apos.endLine == pos.line)=true) :
  SoundE K r env look (.Call (.Attribute o name apos) args kws pos) (xMeth C F a l k):=by
 obtain⟨fd,Y,_⟩:=Y
 exact NO X hF Y ho hl hk (Jv hm) (GS hm) (GR hm) hn hbase hb hkn hform hline
theorem Dk{F:FT}{st:Stmt}{a:Addr}(Y:FnOk K a st)(hrc:K.readChar=a)(hF:SoundF K r (.ref a) [] F){target iter:Expr}{body:List Stmt}{pos:Pos}{tgt:XT}{it:XE}{b:XS}
  (ht:SoundT K (r+1) env look target tgt) (hi:SoundE K (r+1) env look iter it) (hb:SoundSs K (r+1) env look body b)
  (hs:∀ x,foldedSetIterable iter env x=pure x) (hlo:∀ it v,letOwnedTupleGo target it v=pure ()):SoundS K (r+1) env look (.For target iter body [] pos) (sForC F tgt it b):=by
 obtain⟨fd,Y,_⟩:=Y
 subst hrc
 exact Mu hF Y ht hi hb hs hlo
end
theorem OU{K:KX}{mg mb:Str→Option Value}(G:KG K mg mb){r:Nat}{a:Addr}{fd:FuncData}{body:List Stmt}(X:FnAt K a fd body){ps rest:List Str}{n:Nat}
  (hbind:∀ ras:List Value,ras.length=ps.length→bindArgs fd ⟨ras,[]⟩=pure (ps.zip ras)) (nd:ps.Nodup) (hkind:∀ x∈ps,fd.scope.names.lookup x=some .local∨fd.scope.names.lookup x=some .cell) (hfree:∀ x,fd.scope.names.lookup x≠some .free)
  {A:Around} (ok:OkA (r+1) A) {ρ:Rho} {hp:List O} {s:Shared} {vas:List V} {ras:List Value} {E:Value→Shared→Prop} {Post:Value→Shared→Prop} (H:HRel K ρ hp s.heap) (R:VRs ρ s.heap vas ras) (hl:ras.length=ps.length)
  (hbody:∀ h₂ t₂ A' E',OkA r A'→FRel K (callEnvC fd s.heap.objs.size a) (lk (ps++rest)) (vas.map some++List.replicate n none) ρ h₂→HRel K ρ hp h₂→Step K ρ s.heap ρ h₂ →
   (∀ b o,s.heap.get? b=some o→¬ Place (callEnvC fd s.heap.objs.size a) b) →
   wpAny (model K.prog K.w) A' (execs body (callEnvC fd s.heap.objs.size a)) (fun fl s'=>∃ rv,fl = .ret rv∧Post rv s') E' { s with heap:=h₂,toks:=t₂ }) :
  codeAny (model K.prog K.w) A (.call (.ref a) ⟨ras,[]⟩) (fun r s'=>match r with | .ok (.ret v)=>Post v s' | .ok _=>False | .error e=>E e s') s:=by
 obtain⟨o,ho,hd⟩:=X.ob
 refine codeAny_call_function (fd:=fd) (by have:=ok.dp;lia) (H.keep _ _ ho X.tb) hd X.co X.gen X.bd ?_ ?_
 ·obtain⟨c,oc,vs,t,e1,e2,e3,e4,e5⟩:=X.code
  exact⟨c,oc,vs,t,e1,H.keep _ _ e2 e5,e3,e4⟩
 rw[hbind ras hl]
 exact wpAny_pure (HQ G X nd hkind hfree ok H R hl fun h₂ t₂ A' E' ok' F H₂ S₂ np=>wpAny_mono (hbody h₂ t₂ A' E' ok' F H₂ S₂ np) (fun fl s' ⟨rv,e,p⟩=>e ▸ p) (fun z z x=>x))
noncomputable def KX.free(K:KX):KX:={ K with ok:=fun z=>True }
theorem HRel.free{K:KX}{ρ:Rho}{hp:List O}{h:Heap}(H:HRel K ρ hp h):HRel K.free ρ hp h :=
 ⟨H.tbd,H.keepG,let ⟨ps,_,e⟩:=H.tab;⟨ps,trivial,e⟩,H.len,H.nd,H.hi,H.fx,H.lt,fun i o p e q=>by
  have:=H.ob i o p e q
  cases o<;>exact this⟩
theorem HRel.table{K:KX}{ρ:Rho}{hp:List O}{h h':Heap}{ps:Array Value}(H:HRel K ρ hp h)(hx:Heap.ExtBut K.tb h h')(ht:h'.get? K.tb=some { cls:=.none,data:=.fields ps })(hn:K.tb ∉ mu ρ)(hf:∀ p∈ρ,K.tb ∉ p.f):HRel K.free ρ hp h':=by
 have F:=H.free
 refine⟨H.tbd,fun b o e q=>hx b o q (H.keepG b o e q),⟨ps,trivial,ht⟩,H.len,H.nd,H.hi,H.fx,?_,?_⟩
 ·intro p hp
  have h1:p.m≠K.tb:=fun e=>hn (e ▸ List.mem_map.mpr ⟨p,hp,rfl⟩)
  refine⟨let ⟨o,e⟩:=(H.lt p hp).1;⟨o,hx _ _ h1 e⟩,fun a ha=>let ⟨o,e⟩:=(H.lt p hp).2 a ha;⟨o,hx _ _ (fun q=>hf p hp (q ▸ ha)) e⟩⟩
 ·intro i o p e q
  have pm:=List.mem_of_getElem? q
  refine(F.ob i o p e q).keeps F (fun b ob x y=>hx b ob ?_ x) (fun b ob vs n e hq x=>⟨hx b ob ?_ e,x⟩) (List.prefix_refl _)
  ·rintro rfl
   rcases y with y | y
   ·exact hf p pm y
   ·exact hn (y ▸ List.mem_map.mpr ⟨p,pm,rfl⟩)
  ·rintro rfl
   exact H.seqTb e hq rfl
section
variable{M:Model}{A:Around}{E:Value→Shared→Prop}{s:Shared}{env:Env}
theorem GZ{Q:Flow→Shared→Prop}{name:Str}{args:Arguments}{body:List Stmt}{scope:Scope}{pos:Pos}(hd:defaultsOf args env=([],[]))
  (hann:(match args with | ⟨po,a,va,ko,_,kwa,_⟩=>annotationsOf (a++po++va.toList++ko++kwa.toList) env)=[])
  (h:wpAny M A (makeFunction name (qualnameIn env name name) args (.stmts body) scope env [] [] [] pos pos.line) (fun f s'=>wpAny M A (storeName env name f) (fun z s''=>Q .next s'') E s') E s) :
  wpAny M A (exec (.FunctionDef name args body [] none [] scope none name pos) env) Q E s:=by
 obtain⟨po,a,va,ko,kd,kwa,df⟩:=args
 rw[arm_exec_FunctionDef]
 unfold defStmt
 rw[hd]
 show wpAny M A (evalAll [] >>= _) Q E s
 refine wpAny_bind (wpAny_pure ?_)
 refine wpAny_bind (wpAny_standAt ?_)
 refine wpAny_bind (wpAny_holding ?_)
 refine wpAny_bind (wpAny_pure ?_)
 refine wpAny_bind (wpAny_holding (wpAny_pure ?_))
 refine wpAny_holding ?_
 show wpAny M A (evalNamed _ >>= _) _ _ _
 dsimp only at hann ⊢
 rw[hann]
 refine wpAny_bind (wpAny_pure ?_)
 refine wpAny_mono h ?_ (fun z z x=>x)
 intro f s' hf
 refine wpAny_bind (wpAny_pure (wpAny_bind (wpAny_standAt (wpAny_bind (wpAny_bindName ?_)))))
 exact wpAny_mono hf (fun z z x=>wpAny_pure x) (fun z z x=>x)
end
end Mine
namespace Mine
open PySem
theorem A8{hp:List O}{j:Nat}{o:O}(e:hp[j]?=some o)(l:List O):(hp++l)[j]?=some o:=by
 rw[List.getElem?_append_left (List.getElem?_eq_some_iff.mp e).1];exact e
theorem I7{g:G}{hp:List O}(h:gOk g hp)(l:List O):gOk g (hp++l):=by
 cases g with
 | none=>trivial
 | some p=>obtain⟨j,x⟩:=p;exact A8 h l
theorem Ee{hp:List O}{acc:List PyData}{k:Nat→List PyData→Prop}(h:k hp.length acc):atL (.r hp.length) (hp++[.lst acc]) k:=by
 unfold atL;simp[h]
theorem DK{hp:List O}{a b:O}:(hp++[a]).set hp.length b=hp++[b]:=by
 rw[List.set_append_right _ _ (Nat.le_refl _)];simp
theorem Dp{hp:List O}{acc:List PyData}:lget (.r hp.length) (hp++[.lst acc])=some acc:=by
 unfold lget;simp
theorem Li{m:Bool}{n:Nat}{g:G}{tgt:XT}{ifs:XB}{elt:XE}{Q:V→List O→Prop}{outer:List (Option V)}{hp:List O}(c:PyData→Bool)(f:PyData→PyData)(slots:PyData→List (Option V)) :
  ∀ (xs:List PyData) (acc:List PyData) (old:List (Option V)),old.length=n→(∀ x∈xs,(slots x).length=n) →
  (∀ x∈xs,∀ old:List (Option V),old.length=n→∀ K h,K (slots x++outer) h→tgt (.d x) (old++outer) K h) →
  (∀ x∈xs,∀ l K,K (c x) (hp++l)→ifs (slots x++outer) K (hp++l)) →
  (∀ x∈xs,c x=true→∀ l K,K (.d (f x)) (hp++l)→elt (slots x++outer) K (hp++l)) →
  gOk g hp→acc.length+xs.length≤sizeLine→compEnd m hp.length Q (acc++(xs.filter c).map f) (hp++[.lst (acc++(xs.filter c).map f)]) →
  compL g hp.length tgt ifs elt (compEnd m hp.length Q) xs (old++outer) (hp++[.lst acc]):=by
 intro xs
 induction xs with
 | nil=>exact fun acc old ho hs ht hi he hg hl q=>⟨I7 hg _,Ee (by simpa using q)⟩
 | cons x xs ih =>
  intro acc old ho hs ht hi he hg hl q
  refine⟨I7 hg _,ht x List.mem_cons_self old ho _ _ (hi x List.mem_cons_self _ _ ?_)⟩
  have hs':∀ y∈xs,(slots y).length=n:=fun y hy=>hs y (List.mem_cons_of_mem _ hy)
  have ht':=fun y (hy:y∈xs)=>ht y (List.mem_cons_of_mem _ hy)
  have hi':=fun y (hy:y∈xs)=>hi y (List.mem_cons_of_mem _ hy)
  have he':=fun y (hy:y∈xs)=>he y (List.mem_cons_of_mem _ hy)
  cases hc:c x with
  | true =>
   refine he x List.mem_cons_self hc _ _ ⟨by rw[Dp];rfl,?_⟩
   unfold mAppend;dsimp only
   refine Ee ⟨by simp at hl;exact Tt Lr hl,?_⟩
   rw[DK]
   refine ih (acc++[f x]) (slots x) (hs x List.mem_cons_self) hs' ht' hi' he' hg (by simp at hl ⊢;lia) ?_
   simpa [List.filter_cons,hc] using q
  | false =>
   refine ih acc (slots x) (hs x List.mem_cons_self) hs' ht' hi' he' hg (by simp at hl ⊢;exact Ll hl) ?_
   simpa [List.filter_cons,hc] using q
theorem It{Q:V→List O→Prop}{l:List PyData}{hp:List O}{o:O}(q:Q (.d (.list l)) hp):compEnd false hp.length Q l (hp++[o]):=by
 unfold compEnd;simpa using q
theorem KP{Q:V→List O→Prop}{l:List PyData}{hp:List O}{o:O}(q:Q (.r hp.length) (hp++[o])):compEnd true hp.length Q l (hp++[o]):=by
 unfold compEnd
 have:(hp++[o]).take (hp.length+1)=hp++[o]:=by rw[List.take_of_length_le (by simp)]
 simp only[this];exact q
theorem comp1{m:Bool}{it:XE}{ifs:XB}{elt:XE}{vs:List (Option V)}{Q:V→List O→Prop}{hp:List O}(c:PyData→Bool)(f:PyData→PyData){v:V}{xs:List PyData}
  (hit:∀ K,K v hp→it vs K hp) (hx:iterV v hp fun z ys=>ys=xs)
  (hi:∀ x∈xs,∀ l K,K (c x) (hp++l)→ifs (some (.d x)::vs) K (hp++l))
  (he:∀ x∈xs,c x=true→∀ l K,K (.d (f x)) (hp++l)→elt (some (.d x)::vs) K (hp++l))
  (hl:xs.length≤sizeLine) (q:match m with | false=>Q (.d (.list ((xs.filter c).map f))) hp | true=>Q (.r hp.length) (hp++[.lst ((xs.filter c).map f)])) :
  xComp m 1 (tName 0) it ifs elt vs Q hp:=by
 refine hit _ ?_
 have base:∀ g,gOk g hp→compL g hp.length (tName 0) ifs elt (compEnd m hp.length Q) xs (List.replicate 1 none++vs) (hp++[.lst []]):=fun g hg =>
  Li (m:=m) c f (fun x=>[some (.d x)]) xs [] [none] rfl (fun z z=>rfl)
   (fun x hx old ho K h k=>by
    obtain⟨a,rfl⟩:=List.length_eq_one_iff.mp ho
    exact k) hi he hg (by simpa using hl) (by
    rw[List.nil_append]
    cases m with
    | false=>exact It q
    | true=>exact KP q)
 cases v with
 | d y =>
  cases y<;>first | exact hx.elim | (cases hx;exact base none trivial)
 | r i =>
  obtain⟨l,e,rfl⟩:=Cl hx
  unfold iterV
  dsimp only
  rw[e]
  exact base (some (i,l)) e
 | rng a b c'=>exact⟨hx.1,by obtain⟨h1,h2⟩:=hx;rw[h2];exact base none trivial⟩
 | g w=>exact hx.elim
end Mine
namespace Mine
open PySem PySem.Spec PySem.Calls PyProof.Rows
theorem Step.table{K:KX}{ρ:Rho}{h h':Heap}{o:Obj}(hx:Heap.ExtBut K.tb h h')(ht:h'.get? K.tb=some o):Step K ρ h ρ h' :=
 ⟨List.prefix_refl _,fun z hp=>.inl hp,fun b o e hb z=>hx b o hb e,fun b o' e=>by
  by_cases hb:b=K.tb
  ·rw[hb];exact⟨o,ht⟩
  ·exact⟨o',hx b o' hb e⟩⟩
section
variable{K:KX}{mg mb:Str→Option Value}{r:Nat}{fd:FuncData}{a L:Addr}
theorem Nt:SoundS K 0 (callEnvC (fdOf (stAt 13) fd) L a) (lk (([("text" : Str)]:List Str)++(["left", "read", "stream"]:List Str))) (((fBody (stAt 13))[0]?).getD (.Pass default)) (sAssign 1 (xComp true 1 (tName 0) (xVar 0) iNil (xVar 0))):=by
 conv=>arg 5;whnf
 refine A5 ?_ ?_ ?_ ?_
 ·refine Be ["sign"] (m:=true) ?_ ?_ ?_ ?_ ?_ ?_
  ·refine A1 ?_ ?_ ?_ ?_
   ·exact .inl rfl
   all_goals rfl
  ·intro _ _;exact Ay rfl rfl
  ·intro _ _;exact DU
  ·intro _ _
   refine A1 ?_ ?_ ?_ ?_
   ·exact .inl rfl
   all_goals rfl
  ·rfl
  ·exact fun z=>rfl
 ·exact .inr rfl
 ·rfl
 ·rfl
theorem Nr:SoundS K 0 (callEnvC (fdOf (stAt 13) fd) L a) (lk (([("text" : Str)]:List Str)++(["left", "read", "stream"]:List Str))) (((fBody (stAt 13))[1]?).getD (.Pass default)) (sExpr (xMethL mReverse (xVar 1) lNil)):=by
 conv=>arg 5;whnf
 refine Ap ?_ ?_ ?_
 ·refine An (id := "list.reverse") Ic ?_ A6 PySem.F.slot_list_reverse PySem.F.type_list_reverse ?_ ?_ ?_
  ·refine A1 ?_ ?_ ?_ ?_
   ·exact .inr (.inl rfl)
   all_goals rfl
  all_goals rfl
 ·rfl
 ·rfl
end
noncomputable def stS(i:Nat):Stmt:=((fBody (stAt 13))[i]?).getD (.Pass default)
noncomputable def sgn(l:List Nat):List PyData:=l.map fun c=>.str ⟨#[c]⟩
theorem Lp:fBody (stAt 13)=[stS 0,stS 1,stS 2,stS 3,stS 4,stS 5]:=rfl
theorem Nj{l:List Nat}{hp:List O}{QQ:QS}(hz:l.length≤2 ^ 20)(q:QQ .next [some (.d (.str ⟨l.toArray⟩)),some (.r hp.length),none,none] (hp++[.lst (sgn l)])) :
  sAssign 1 (xComp true 1 (tName 0) (xVar 0) iNil (xVar 0)) [some (.d (.str ⟨l.toArray⟩)),none,none,none] QQ hp:=by
 have e:signsOf ⟨l.toArray⟩=sgn l:=by unfold signsOf sgn;simp
 refine comp1 (m:=true) (v:=.d (.str ⟨l.toArray⟩)) (xs:=signsOf ⟨l.toArray⟩) (fun z=>true) id (fun K k=>k) rfl ?_ ?_ ?_ ?_
 ·intro x hx l K k;exact k
 ·intro x hx _ l K k;exact k
 ·rw[e];unfold sgn;rw[List.length_map,sizeLine_eq];exact Lb hz
 ·dsimp only
  rw[List.filter_eq_self.mpr (fun z z=>rfl),List.map_id,e]
  exact q
theorem Ni{l:List Nat}{hp:List O}{QQ:QS}(hz:l.length≤2 ^ 20)(q:QQ .next [some (.d (.str ⟨l.toArray⟩)),some (.r hp.length),none,none] (hp++[.lst (sgn l).reverse])) :
  sExpr (xMethL mReverse (xVar 1) lNil) [some (.d (.str ⟨l.toArray⟩)),some (.r hp.length),none,none] QQ (hp++[.lst (sgn l)]):=by
 simp only[sExpr,xMethL,lNil,xVar,List.getElem?_cons_zero,List.getElem?_cons_succ]
 refine⟨by rw[Dp];rfl,by rw[Dp];rfl,?_⟩
 unfold mReverse
 dsimp only
 refine Ee ⟨by unfold sgn;rw[List.length_map,sizeLine_eq];exact Lb hz,?_⟩
 rw[DK]
 exact q
theorem Jf{K:KX}{ρ ρ₁:Rho}{hp:List O}{o:O}{h:Heap}(H:HRel K ρ₁ (hp++[o]) h)(hl:ρ.length=hp.length)(hpre:ρ <+: ρ₁):∃ p,ρ₁=ρ++[p]:=by
 obtain⟨t,rfl⟩:=hpre
 have:=H.len
 rw[List.length_append,List.length_append,List.length_singleton,hl] at this
 obtain⟨p,rfl⟩:=List.length_eq_one_iff.mp (by lia:t.length=1)
 exact⟨p,rfl⟩
theorem HRel.swap{K:KX}{ρ:Rho}{hp:List O}{h:Heap}{p:P}{o o':O}{b:Addr}{f:List Addr}(H:HRel K (ρ++[p]) (hp++[o]) h)(hl:ρ.length=hp.length)
  (hf:∀ x∈f,x ∉ mu (ρ++[p])∧K.New x∧∃ ob,h.get? x=some ob) (hob:OR K (ρ++[{ a:=b,m:=p.m,f:=f }]) h hp.length { a:=b,m:=p.m,f:=f } o') :
  HRel K (ρ++[{ a:=b,m:=p.m,f:=f }]) (hp++[o']) h:=by
 have em:mu (ρ++[({ a:=b,m:=p.m,f:=f }:P)])=mu (ρ++[p]):=by simp[mu]
 refine⟨H.tbd,H.keepG,H.tab,by simp[hl],by rw[em];exact H.nd,?_,?_,?_,?_⟩
 ·intro q hq
  rcases List.mem_append.mp hq with hq | hq
  ·exact H.hi q (List.mem_append.mpr (.inl hq))
  ·rw[List.mem_singleton.mp hq];exact H.hi p (by simp)
 ·intro q hq x hx
  rw[em]
  rcases List.mem_append.mp hq with hq | hq
  ·exact H.fx q (List.mem_append.mpr (.inl hq)) x hx
  ·rw[List.mem_singleton.mp hq] at hx;exact⟨(hf x hx).1,(hf x hx).2.1⟩
 ·intro q hq
  rcases List.mem_append.mp hq with hq | hq
  ·exact H.lt q (List.mem_append.mpr (.inl hq))
  ·rw[List.mem_singleton.mp hq];exact⟨(H.lt p (by simp)).1,fun x hx=>(hf x hx).2.2⟩
 ·intro i oi q e e'
  by_cases hi:i<hp.length
  ·rw[List.getElem?_append_left hi] at e
   rw[List.getElem?_append_left (Tt hi (Qr hl))] at e'
   have r:=H.ob i oi q (A8 e _) (by rw[List.getElem?_append_left (Tt hi (Qr hl))];exact e')
   have get':∀ {j:Nat} {p':P},j<i→(ρ++[p])[j]?=some p'→(ρ++[({ a:=b,m:=p.m,f:=f }:P)])[j]?=some p':=by
    intro j p' hj e
    rw[List.getElem?_append_left (Tl hj (Tt hi (Qr hl)))] at e ⊢
    exact e
   cases oi with
   | lst l=>obtain⟨a,vs,n,h1,h4⟩:=r;exact⟨a,vs,n,h1,by rw[em];exact h4⟩
   | inst c fs =>
    obtain⟨o,od,m,h1,h2,h3,h4,h5,h7,h8,h9,h10,h11⟩:=r
    refine⟨o,od,m,h1,h2,h3,h4,h5,h7,h8,h9,?_,h11⟩
    intro k x hx
    have q':=h10 k x hx
    revert q'
    cases fs.lookup k with
    | none=>exact id
    | some v =>
     rintro⟨⟨rv,q1,q2⟩,q3,q4⟩
     refine⟨⟨rv,q1,?_⟩,q3,q4⟩
     cases v with
     | d x=>show DR h _ _ _;rw[em];exact q2
     | r j=>obtain⟨p',e1,e2⟩:=q2;exact⟨p',get' (q3 j rfl) e1,e2⟩
     | rng a b c=>exact q4.elim
     | g v=>exact q4.elim
   | stream l =>
    obtain⟨d,X,f1,f4⟩:=r
    exact⟨d,X,f1,by rw[em];exact f4⟩
   | edict=>exact r
   | own=>exact r
   | dict1=>exact r
   | citer c =>
    obtain⟨e,o,vs,h1,h2,h3,h4⟩:=r
    refine⟨e,o,vs,h1,h2,h3,?_⟩
    cases c with
    | none=>exact h4
    | some j =>
     refine viaP fun z zf=>?_
     obtain⟨hj,M,t',q',q1,q2,q4,q6⟩:=h4
     refine zf ?_
     exact⟨hj,M,t',q',q1,q2,q4,get' hj q6⟩
  ·have hil:i=hp.length:=by
    have:=(List.getElem?_eq_some_iff.mp e).1
    simp at this;lia
   subst hil
   rw[List.getElem?_append_right (Nat.le_refl _)] at e
   rw[List.getElem?_append_right (Qe hl)] at e'
   simp[hl] at e e'
   subst e;subst e'
   exact hob
noncomputable def pos2:Pos:=match stS 2 with | .FunctionDef _ _ _ _ _ _ _ _ _ p=>p | _=>default
theorem GG:stS 2 = .FunctionDef "read" (fArgs (stS 2)) (fBody (stS 2)) [] none [] (fScope (stS 2)) none "read" pos2:=rfl
theorem JK:∃ p1 p2 p3 pos,stS 4 = .Assign [.Attribute (.Name "stream" p1) "read" p2] (.Name "read" p3) pos∧∀ env,swapsWith (.Name "read" p3) (some (.Attribute (.Name "stream" p1) "read" p2)) pos.line env=pure false:=⟨_,_,_,_,rfl,fun z=>rfl⟩
theorem JJ:∃ p1 pos,stS 5 = .Return (some (.Name "stream" p1)) pos:=⟨_,_,rfl⟩
theorem El:(fScope (stS 2)).names.all (fun x=>x.2 != .free || x.1 == ("left" : Str))=true:=by decide +kernel
inductive PostStr(K:KX)(ρ:Rho)(hp:List O)(s:Shared)(l:List Nat)(rv:Value)(s':Shared):Prop
 | mk (ρ':Rho) (h':Heap) (t':Nat) (e:s'={ s with heap:=h',toks:=t' }) (H:HRel K ρ' (hp++[.stream l]) h') (S:Step K ρ s.heap ρ' h') (r:VR ρ' h' (.r hp.length) rv)
noncomputable abbrev strLook:Str→Option Nat:=lk ((["text"]:List Str)++(["left", "read", "stream"]:List Str))
structure StrFns(K:KX)(env:Env)(rf:FuncData)(h:Heap)(R F:Addr)(fo fl:Obj)(rfd:FuncData):Prop where
 R1:h.get? R=some fo
 F1:h.get? F=some fl
 RN:K.New R
 FN:K.New F
 o1:fo.cls = .type "function"
 o2:fo.dict=none
 o3:fo.data = .func rfd
 p1:rfd.params=rf.params
 p2:rfd.body=rf.body
 p3:rfd.scope=rf.scope
 p4:rfd.globals=3
 p5:rfd.closure=clo env.cells (fScope (stS 2)).names []
 p6:rfd.defaults = .none
 p7:rfd.kwdefaults = .none
 p8:rfd.builtins=0
 f1:fl.cls = .type "function"
 f2:fl.dict=none
 f3:∃ fd,fl.data = .func fd
 cc:∃ c o vs t,rfd.code = .ref c∧K.hg c=some o∧c≠K.tb∧o.data = .fields vs∧vs[1]?=some (.str rfd.qualname t)
theorem EJ{K:KX}{env:Env}{R F:Addr}{fo fl:Obj}{rfd:FuncData}{A:Around}{ρ:Rho}{p:P}{hp:List O}{s:Shared}{l:List Nat}{E:Value→Shared→Prop}{h₂ h:Heap}{tk:Nat}
    (kread:env.kindOf "read" = some .local) (kstream:env.kindOf "stream" = some .local) (kl:env.kindOf "left" = some .cell) (hlen:ρ.length=hp.length)
    (S₂:Step K ρ s.heap ρ h₂) (np:∀ b o,s.heap.get? b=some o→¬ Place env b)
    (FR:FRel K env strLook [some (.d (.str ⟨l.toArray⟩)),some (.r hp.length),some (.g (.ref R)),some (.g (.ref F))] (ρ++[p]) h) (H:HRel K (ρ++[p]) (hp++[.lst (sgn l).reverse]) h) (T:StepS K env ρ h₂ (ρ++[p]) h)
    (X:StrFns K env K.readFd h R F fo fl rfd) (RO:Off (ρ++[p]) R) (FO:Off (ρ++[p]) F) (nR:s.heap.get? R=none) (nF:s.heap.get? F=none) (hRF:R≠F) :
    wpAny (model K.prog K.w) A (execs [stS 4,stS 5] env) (fun fl s'=>∃ rv,fl = .ret rv∧PostStr K ρ hp s l rv s') E { s with heap:=h,toks:=tk }:=by
  refine viaP fun z zf=>?_
  obtain⟨fd8,hfl3⟩:=X.f3
  obtain⟨cA,oc',cvs,tt,hcc1,hcc2,hcc3,hcc4,hcc5⟩:=X.cc
  obtain⟨cc,oc,ov,c1,d2,d3,d4,d5,d6⟩:=FR.cl "left" (.inl kl)
  obtain⟨rv2,rfl,pr2⟩:=d6 1 (.r hp.length) rfl rfl
  obtain⟨p2,ep2,rfl⟩:=pr2
  have ep:(ρ++[p])[hp.length]?=some p:=by rw[← hlen];simp
  obtain rfl:p=p2:=by rw[ep] at ep2;cases ep2;rfl
  obtain⟨q1,q2,q3,q4,f4,sw4⟩:=JK
  obtain⟨q5,q6,f5⟩:=JJ
  refine zf ?_
  rw[f4]
  refine viaP fun z zf=>?_
  obtain⟨mm,nn,ff⟩:=FR.ns
  obtain⟨rvr,er1,er2⟩:=ff "read" 2 (.g (.ref R)) kread rfl rfl
  obtain⟨rvs,es1,es2⟩:=ff "stream" 3 (.g (.ref F)) kstream rfl rfl
  obtain⟨rfl,_⟩:=er2
  obtain⟨rfl,_⟩:=es2
  refine zf ?_
  refine wpAny_execs_cons (plainObj_wpAny_Assign_Attribute (wpAny_Name (wpAny_loadName_local FR.kd kread nn er1 ?_) rfl) (sw4 env))
  refine wpAny_Name (wpAny_loadName_local FR.kd kstream nn es1 ?_) rfl
  refine HO (o:=fl) (v:=.ref R) X.F1 X.f1 hfl3 X.f2 ?_
  intro h12 D md tk12 dnone dF dNs dm1 dm2 dkeep
  rw[f5]
  have hneL:env.locals≠F:=by
    intro e
    obtain⟨o,es,ep,e1,e2,_⟩:=nn
    rw[e,X.F1] at e1
    cases e1
    rw[hfl3] at e2;cases e2
  have nn12:h12.Ns env.locals mm:=by
    obtain⟨o,es,ep,e1,e2⟩:=nn
    exact⟨o,es,ep,dkeep _ _ hneL e1,e2⟩
  refine wpAny_execs_cons (wpAny_Return_some (wpAny_Name (wpAny_loadName_local FR.kd kstream nn12 es1 ?_) rfl))
  refine⟨_,rfl,?_⟩
  have nofl:∀ (vs:Array Value) (n:Nat),fl.data≠.seq vs n:=by rw[hfl3];intro vs n q;cases q
  have hxF:Heap.ExtBut F h h12:=fun b o hb e=>dkeep b o hb e
  have H₁₂:HRel K (ρ++[p]) (hp++[.lst (sgn l).reverse]) h12:=H.other X.FN FO hxF (fun o e=>by rw[X.F1] at e;cases e;exact nofl)
  have DN:K.New D:=H.fresh dnone
  have DO:Off (ρ++[p]) D:=H.off dnone
  have ndm:=H.nd
  have mnew:h₂.get? p.m=none∧∀ x∈p.f,h₂.get? x=none:=by
    rcases T.new p (by simp) with q | q
    · exfalso
      simp only[mu,List.map_append,List.map_cons,List.map_nil] at ndm
      exact(List.nodup_append.mp ndm).2.2 p.m (List.mem_map.mpr ⟨p,q,rfl⟩) p.m (by simp) rfl
    · exact q
  have dom:∀ b o,s.heap.get? b=some o→∃ o',h.get? b=some o':=fun b o e=>by
    obtain⟨o',e'⟩:=S₂.dom b o e
    exact T.dom b o' e'
  have nD:s.heap.get? D=none:=AJ dom dnone
  have ncc:s.heap.get? cc=none:=by
    cases e:s.heap.get? cc with
    | none=>rfl
    | some o=>exact absurd (.inr ⟨"left", kl,c1⟩) (np cc o e)
  have nm:s.heap.get? p.m=none:=AJ S₂.dom mnew.1
  have R12:h12.get? R=some fo:=dkeep _ _ hRF X.R1
  have ne3:cc≠F:=fun e=>by rw[e,X.F1] at d4;cases d4;rw[hfl3] at d5;cases d5
  have CC12:h12.get? cc=some oc:=dkeep _ _ ne3 d4
  obtain⟨od,oes,oep,oD,oDr⟩:=dNs
  have hclo:clo env.cells (fScope (stS 2)).names []=[(("left" : Str),cc)]:=by
    show[(("left" : Str),(env.cells.lookup ("left" : Str)).getD 0)]=_
    rw[c1];rfl
  obtain⟨pam12,vs12,n12,L12,D12⟩:=H₁₂.ob hp.length (.lst (sgn l).reverse) p (by simp) ep
  have em:mu (ρ++[({ a:=F,m:=p.m,f:=[F,D,R,cc] }:P)])=mu (ρ++[p]):=by simp[mu]
  refine⟨ρ++[{ a:=F,m:=p.m,f:=[F,D,R,cc] }],h12,_,rfl,?_,?_,?_⟩
  · refine H₁₂.swap hlen ?_ ?_
    · intro x hx
      simp only[List.mem_cons,List.not_mem_nil,or_false] at hx
      rcases hx with rfl | rfl | rfl | rfl
      · exact⟨FO.mu,X.FN,_,dF⟩
      · exact⟨DO.mu,DN,_,oD⟩
      · exact⟨RO.mu,X.RN,_,R12⟩
      · exact⟨d3.mu,d2,_,CC12⟩
    · refine⟨{ oF:=_,fd:=_,D:=D,od:=od,m:=md,R:=R,oR:=fo,rfd:=rfd,c:=cc,oc:=oc,vs:=vs12,n:=n12,cc:=cA,oc':=oc',cvs:=cvs,t:=tt },
        { a1:=dF,a2:=X.f1,a3:=rfl,a4:=hfl3,a5:=by simp,b1:=oD,b3:=⟨od,oes,oep,oD,oDr⟩,b4:=by simp,b6:=dm1,b7:=dm2,
          c1:=R12,c2:=X.o1,c3:=X.o2,c4:=X.o3,c5:=by simp,c7:=X.p1,c8:=X.p2,c9:=X.p3,c10:=X.p4,c11:=X.p5.trans hclo,c12:=X.p6,c13:=X.p7,c14:=X.p8,
          d1:=hcc1,d2:=.inr ⟨hcc2,hcc3⟩,d3:=hcc4,d4:=hcc5,e1:=CC12,e2:=by rw[d5,pam12],e3:=by simp },L12,?_⟩
      · rw[em]
        unfold sgn at D12
        rw[← List.map_reverse] at D12
        exact D12
  · refine⟨List.prefix_append _ _,?_,?_,?_⟩
    · intro q hq
      rcases List.mem_append.mp hq with hq | hq
      · exact .inl hq
      · rw[List.mem_singleton.mp hq]
        refine .inr ⟨nm,fun x hx=>?_⟩
        simp only[List.mem_cons,List.not_mem_nil,or_false] at hx
        rcases hx with rfl | rfl | rfl | rfl
        · exact nF
        · exact nD
        · exact nR
        · exact ncc
    · intro b o e hb hm
      have hne:b≠F:=by rintro rfl;rw[nF] at e;cases e
      exact dkeep b o hne (T.keep b o (S₂.keep b o e hb hm) hb hm (np b o e))
    · intro b o e
      have hne:b≠F:=by rintro rfl;rw[nF] at e;cases e
      obtain⟨o',e'⟩:=dom b o e
      exact⟨o',dkeep b o' hne e'⟩
  · exact⟨{ a:=F,m:=p.m,f:=[F,D,R,cc] },by rw[← hlen];simp,rfl⟩
theorem Cv{h h':Heap}{c P:Addr}(x:W.CodeHd h c P)(k:∀ o,h.get? c=some o→h'.get? c=some o):W.CodeHd h' c P:=by
 obtain⟨o,vs,file,tf,flags,tg,inF,text,tt,e,r⟩:=x
 exact⟨o,vs,file,tf,flags,tg,inF,text,tt,k o e,r⟩
theorem Bf{h h':Heap}{mg:Str→Option Value}{P:Addr}(x:h.BuiltinsAt mg P)(k:∀ b o,b≠P→h.get? b=some o→h'.get? b=some o):h'.BuiltinsAt mg P:=by
 obtain⟨bm,o,a,b,c,d,e,r⟩:=x
 exact⟨bm,o,a,b,c,d,k bm o d e,r⟩
noncomputable def lamA:Arguments:=match stS 3 with | .Assign _ (.Lambda a _ _ _) _=>a | _=>default
noncomputable def lamB:Expr:=match stS 3 with | .Assign _ (.Lambda _ b _ _) _=>b | _=>default
noncomputable def lamS:Scope:=match stS 3 with | .Assign _ (.Lambda _ _ s _) _=>s | _=>default
noncomputable def pos3:Pos:=match stS 3 with | .Assign _ (.Lambda _ _ _ p) _=>p | _=>default
theorem GF:∃ pn pos,stS 3 = .Assign [.Name "stream" pn] (.Lambda lamA lamB lamS pos3) pos∧(∀ env,defaultsOf lamA env=([],[]))∧lamS.names=[] ∧
  (∀ env,swapsWith (.Lambda lamA lamB lamS pos3) (some (.Name "stream" pn)) pos.line env=pure false):=⟨_,_,rfl,fun z=>rfl,rfl,fun z=>rfl⟩
noncomputable abbrev sEnv(fd:FuncData)(s:Shared)(a:Addr):Env:=callEnvC (fdOf (stAt 13) fd) s.heap.objs.size a
structure StrOpen(K:KX)(env:Env)(ρ:Rho)(hp:List O)(s:Shared)(l:List Nat)(h₂:Heap)(p:P)(g:Heap):Prop where
 S₂:Step K ρ s.heap ρ h₂
 np:∀ b o,s.heap.get? b=some o→¬ Place env b
 F:FRel K env strLook [some (.d (.str ⟨l.toArray⟩)),some (.r hp.length),none,none] (ρ++[p]) g
 H:HRel K (ρ++[p]) (hp++[.lst (sgn l).reverse]) g
 T:StepS K env ρ h₂ (ρ++[p]) g
theorem Dy{K:KX}{mg mb:Str→Option Value}{a:Addr}{fd:FuncData}(G:KG K mg mb)(X:FnAt K a (fdOf (stAt 13) fd) (fBody (stAt 13)))(hd:fd.defaults = .none)(hk:fd.kwdefaults = .none)
  {A:Around} (ok:OkA 3 A) {ρ:Rho} {hp:List O} {s:Shared} {l:List Nat} {t:Tok} {E:Value→Shared→Prop} {Post:Value→Shared→Prop} (H:HRel K ρ hp s.heap) (hz:l.length≤2 ^ 20)
  (k:∀ h₂ A' E' p g t,OkA 2 A'→StrOpen K (sEnv fd s a) ρ hp s l h₂ p g→wpAny (model K.prog K.w) A' (execs [stS 2,stS 3,stS 4,stS 5] (sEnv fd s a)) (fun fl s'=>∃ rv,fl = .ret rv∧Post rv s') E' { s with heap:=g,toks:=t }) :
  codeAny (model K.prog K.w) A (.call (.ref a) ⟨[.str ⟨l.toArray⟩ t],[]⟩) (fun r s'=>match r with | .ok (.ret v)=>Post v s' | .ok _=>False | .error e=>E e s') s:=by
 refine OU (r:=2) (ps:=([("text" : Str)]:List Str)) (rest:=(["left", "read", "stream"]:List Str)) (n:=3) (vas:=[.d (.str ⟨l.toArray⟩)]) (Post:=Post) G X ?_ (by decide) (kindsOk rfl) (noFree rfl) ok H (.cons (.str _ _) .nil) rfl ?_
 ·intro ras h
  obtain⟨n1,n2,n3,n4,n5,n6,n7,n8,n9,n10,n11,n12,n13,n14,n15⟩:=fd
  subst hd;subst hk
  obtain⟨a0,rfl⟩:=List.length_eq_one_iff.mp h
  rfl
 intro h₂ t₂ A' E' ok' F H₂ S₂ np
 have ok0:OkA 0 A':=ok'.le (Nat.zero_le _)
 rw[Lp]
 refine wpAny_execs_cons (wpAny_mono (Nt A' ok0 _ (fun fl vs' hp'=>fl = .next∧vs'=[some (.d (.str ⟨l.toArray⟩)),some (.r hp.length),none,none]∧hp'=hp++[.lst (sgn l)]) hp ρ _ E' (Nj hz ⟨rfl,rfl,rfl⟩) F H₂) ?_ (fun z z x=>x))
 rintro fl s₃ ⟨af,vs',hp',ρ₃,g₃,t₃,rfl,⟨rfl,rfl,rfl⟩,F₃,H₃,S₃,fr⟩
 cases fl<;>first | exact fr.elim | skip
 refine wpAny_execs_cons (wpAny_mono (Nr A' ok0 _ (fun fl vs' hp'=>fl = .next∧vs'=[some (.d (.str ⟨l.toArray⟩)),some (.r hp.length),none,none]∧hp'=hp++[.lst (sgn l).reverse]) _ ρ₃ _ E' (Ni hz ⟨rfl,rfl,rfl⟩) F₃ H₃) ?_ (fun z z x=>x))
 rintro fl s₄ ⟨af,vs',hp',ρ₄,g₄,t₄,rfl,⟨rfl,rfl,rfl⟩,F₄,H₄,S₄,fr⟩
 cases fl<;>first | exact fr.elim | skip
 have S24:=S₃.trans S₄
 obtain⟨p,rfl⟩:=Jf H₄ H.len S24.pre
 exact k h₂ A' E' p g₄ t₄ ok' ⟨S₂,np,F₄,H₄,S24⟩
structure StreamOk(K:KX)(mg:Str→Option Value)(a c:Addr)(fd:FuncData)(ps:Array Value)(c2 c3:Addr)(o2:Obj)(vs2:Array Value)(t2:Tok):Prop where
 X:FnAt K a (fdOf (stAt 13) fd) (fBody (stAt 13))
 d1:fd.defaults = .none
 d2:fd.kwdefaults = .none
 co:fd.code = .ref c
 hd:W.CodeHd K.h0 c K.tb
 bl:K.h0.BuiltinsAt mg K.tb
 rp:K.readFd.params=fArgs (stS 2)
 rb:K.readFd.body = .stmts (fBody (stS 2))
 rs:K.readFd.scope=fScope (stS 2)
 tab:∀ ps',K.ok ps'→ps'=ps
 tri:TriplesOk ps.toList
 a2:PySem.codeAmong pos2 ps.toList=some (.ref c2)
 a3:PySem.codeAmong pos3 ps.toList=some (.ref c3)
 h2:K.hg c2=some o2
 n2:c2≠K.tb
 v2:o2.data = .fields vs2
 q2:∀ s a,vs2[1]?=some (.str (qualnameIn (sEnv fd s a) "read" "read") t2)
def CE:FT:=fun vas Q hp=>∃ l:List Nat,vas=[.d (.str ⟨l.toArray⟩)]∧l.length≤2 ^ 20∧Q (.r hp.length) (hp++[.stream l])
theorem GD{K:KX}{mg mb:Str→Option Value}{a c:Addr}{fd:FuncData}{ps:Array Value}{c2 c3:Addr}{o2:Obj}{vs2:Array Value}{t2:Tok}(G:KG K mg mb)(SO:StreamOk K mg a c fd ps c2 c3 o2 vs2 t2)(h3:mainGlobals=3)(hb0:builtinsNs=0):SoundF K 3 (.ref a) [] CE:=by
 rintro A ok ρ hp s vas ras ks Q E hlen ⟨l,rfl,hz,q⟩ H R
 obtain rfl:ks=[]:=List.eq_nil_of_length_eq_zero hlen
 rw[List.append_nil] at R
 cases R with | cons r R=>cases R with | nil =>
 cases r with | str _ t =>
 refine codeAny_mono (Dy (E:=E) (Post:=PostStr K ρ hp s l) G SO.X SO.d1 SO.d2 ok H hz ?_) ?_
 ·intro h₂ A' E' p g t ok' SX
  obtain⟨S₂,np,F₄,H₄,T₄⟩:=SX
  have kread:(sEnv fd s a).kindOf "read" = some .local:=rfl
  have kstream:(sEnv fd s a).kindOf "stream" = some .local:=rfl
  have kl:(sEnv fd s a).kindOf "left" = some .cell:=rfl
  obtain⟨cc,oc,ov,c1,_⟩:=F₄.cl "left" (.inl kl)
  have hcne:c≠K.tb:=by obtain⟨o,vs,file,tf,flags,tg,inF,text,tt,_,_,_,_,_,_,_,_,_,e⟩:=SO.hd;exact e
  have envg:(sEnv fd s a).globals=mainGlobals:=by rw[h3];rfl
  have envc:(sEnv fd s a).code = .ref c:=SO.co
  have q2:=SO.q2 s a
  generalize hE:sEnv fd s a=env at *
  have hcl2:closureFor (fScope (stS 2)) env=pure (clo env.cells (fScope (stS 2)).names []):=by
   refine Ak (fun x hx hf=>?_)
   have:=List.all_eq_true.mp El x hx
   rw[hf] at this
   have e:x.1 = "left" := by simpa using this
   rw[e,c1];rfl
  obtain⟨ps',okp,tb4⟩:=H₄.tab
  obtain rfl:=SO.tab _ okp
  rw[GG]
  refine wpAny_execs_cons (GZ rfl rfl (W.makeFunction_hit (P:=K.tb) (mg:=mg) hcl2 envg (by rw[h3];exact H₄.nsOf G.g G.g') envc (Cv SO.hd (fun o e=>H₄.keep _ _ e hcne)) tb4 SO.tri SO.a2
   (Bf SO.bl (fun b o hb e=>H₄.keep _ _ e hb)) ?_))
  intro ctv doc h5 tk kp5 hs5
  dsimp only
  generalize hfo:({ cls:=.type "function", data:=.func (W.fnX "read" (qualnameIn env "read" "read") (fArgs (stS 2)) (fBody (stS 2)) (fScope (stS 2)) (clo env.cells (fScope (stS 2)).names []) .none .none doc ((mg "__name__").getD .none) Option.none (.ref c2) ctv) }:Obj)=fo
  have up6:∀ b o,g.get? b=some o→(h5.push fo).get? b=some o:=fun b o e=>Heap.get?_push_of_some _ (kp5 b o e)
  have n5:g.get? h5.objs.size=none:=AA hs5
  have R6:(h5.push fo).get? h5.objs.size=some fo:=Heap.get?_push_size _ (by rw[← hfo];rfl)
  have H₆:=H₄.grow up6
  have S46:Step K (ρ++[p]) g (ρ++[p]) (h5.push fo):=Step.grow up6
  have RN:K.New h5.objs.size:=H₄.fresh n5
  have RO:Off (ρ++[p]) h5.objs.size:=H₄.off n5
  refine wpAny_mono (AV (k:=2) (v:=.g (.ref h5.objs.size)) (s:={ s with heap:=h5.push fo,toks:=tk }) (.inl kread) rfl (F₄.step H₄ S46) H₆ ⟨rfl,trivial⟩) ?_ (fun z z x=>x)
  intro _ s7 zx
  refine viaP fun z zf=>?_
  obtain⟨h7,t7,rfl,F₇,H₇,S67⟩:=zx
  obtain⟨pn,lpos,f3,ld,lnm,lsw⟩:=GF
  obtain⟨ps7,okp7,tb7⟩:=H₇.tab
  obtain rfl:=SO.tab _ okp7
  have g37:h7.Ns 3 mg:=by obtain⟨o,es,ep,e,q⟩:=G.g;exact⟨o,es,ep,H₇.keep _ _ e G.g',q⟩
  have hcl3:closureFor lamS env=pure []:=by
   have:=Ak (scope:=lamS) (env:=env) (fun x hx=>by rw[lnm] at hx;cases hx)
   rw[lnm] at this;exact this
  refine zf ?_
  rw[f3]
  refine wpAny_execs_cons (wpAny_Assign_Name (W.kla_eval (ld env) (W.kla_makeFunctionHit (P:=K.tb) (mg:=mg) hcl3 envg (by rw[h3];exact g37) envc (Cv SO.hd (fun o e=>H₇.keep _ _ e hcne)) tb7 SO.tri SO.a3
   (Bf SO.bl (fun b o hb e=>H₇.keep _ _ e hb)) ?_)) (lsw env))
  intro ctv8 h8 tk8 kp8 hs8
  dsimp only
  generalize hfl:({ cls:=.type "function", data:=.func (W.kla_fn "<lambda>" (env.qual ++ "<lambda>") lamA lamB lamS [] ((mg "__name__").getD .none) (.ref c3) ctv8) }:Obj)=fl8
  have up9:∀ b o,h7.get? b=some o→(h8.push fl8).get? b=some o:=fun b o e=>Heap.get?_push_of_some _ (kp8 b o e)
  have n8:h7.get? h8.objs.size=none:=AA hs8
  have L9:(h8.push fl8).get? h8.objs.size=some fl8:=Heap.get?_push_size _ (by rw[← hfl];rfl)
  have H₉:=H₇.grow up9
  have S79:Step K (ρ++[p]) h7 (ρ++[p]) (h8.push fl8):=Step.grow up9
  have F₉:=F₇.step H₇ S79
  have FN:K.New h8.objs.size:=H₇.fresh n8
  have FO:Off (ρ++[p]) h8.objs.size:=H₇.off n8
  refine wpAny_mono (AV (k:=3) (v:=.g (.ref h8.objs.size)) (s:={ s with heap:=h8.push fl8,toks:=tk8 }) (.inl kstream) rfl F₉ H₉ ⟨rfl,trivial⟩) ?_ (fun z z x=>x)
  rintro _ s10 ⟨h10,t10,rfl,F₁₀,H₁₀,S910⟩
  have T7:StepS K env ρ h₂ (ρ++[p]) h7:=(T₄.trans S46.toS).trans S67
  have T10:StepS K env ρ h₂ (ρ++[p]) h10:=(T7.trans S79.toS).trans S910
  have F₆:=F₄.step H₄ S46
  have R7:h7.get? h5.objs.size=some fo:=S67.keep _ _ R6 (H₄.newTb RN) RO.mu (F₆.notPlace R6 (by rw[← hfo];intro es n q;cases q) (by rw[← hfo];intro v q;cases q))
  have R9:=up9 _ _ R7
  have R10:h10.get? h5.objs.size=some fo:=S910.keep _ _ R9 (H₄.newTb RN) RO.mu (F₉.notPlace R9 (by rw[← hfo];intro es n q;cases q) (by rw[← hfo];intro v q;cases q))
  have L10:h10.get? h8.objs.size=some fl8:=S910.keep _ _ L9 (H₄.newTb FN) FO.mu (F₉.notPlace L9 (by rw[← hfl];intro es n q;cases q) (by rw[← hfl];intro v q;cases q))
  have nR:s.heap.get? h5.objs.size=none:=AJ (fun b o e=>let ⟨o',e'⟩:=S₂.dom b o e;T₄.dom b o' e') n5
  have nF:s.heap.get? h8.objs.size=none:=AJ (fun b o e=>let ⟨o',e'⟩:=S₂.dom b o e;T7.dom b o' e') n8
  have ne1:h5.objs.size≠h8.objs.size:=fun e=>by rw[e,n8] at R7;cases R7
  refine EJ kread kstream kl H.len S₂ np F₁₀ H₁₀ T10 (fl:=fl8) (fo:=fo) (rfd:=W.fnX "read" (qualnameIn env "read" "read") (fArgs (stS 2)) (fBody (stS 2)) (fScope (stS 2)) (clo env.cells (fScope (stS 2)).names []) .none .none doc ((mg "__name__").getD .none) Option.none (.ref c2) ctv)
   ⟨R10,L10,RN,FN,by rw[← hfo],by rw[← hfo],by rw[← hfo],SO.rp.symm,SO.rb.symm,SO.rs.symm,h3,rfl,rfl,rfl,hb0,by rw[← hfl],by rw[← hfl],⟨_,by rw[← hfl]⟩,⟨c2,o2,vs2,t2,rfl,SO.h2,SO.n2,SO.v2,q2⟩⟩ RO FO nR nF ne1
 ·rintro rr s' hr
  rcases rr with e | (v | _ | _ | _)
  ·exact hr
  all_goals first | exact hr.elim | skip
  obtain⟨ρ',h',t',rfl,Hf,Sf,rf⟩:=hr
  exact⟨.r hp.length,_,ρ',h',t',rfl,q,Hf,Sf,rf⟩
noncomputable def KX.codes(K:KX)(c2 c3:Addr)(o2 o3:Obj)(ps:Array Value)(n2:K.New c2)(n3:K.New c3):KX :=
 { K with hg:=fun b=>if b=c2 then some o2 else if b=c3 then some o3 else K.hg b,ok:=(· = ps),sub:=fun b o e=>(if_neg (KX.ne n2 (K.sub b o e))).trans ((if_neg (KX.ne n3 (K.sub b o e))).trans (K.sub b o e)) }
section
variable{K:KX}{c2 c3:Addr}{o2 o3:Obj}{ps:Array Value}{n2:K.New c2}{n3:K.New c3}{ρ:Rho}{hp:List O}{h:Heap}
theorem KX.codes_old{b:Addr}{o:Obj}(e:K.hg b=some o):(K.codes c2 c3 o2 o3 ps n2 n3).hg b=some o:=by
 show(if b=c2 then _ else _)=_
 rw[if_neg (KX.ne n2 e),if_neg (KX.ne n3 e)];exact e
theorem KX.codes_new{b:Addr}(e:K.New b)(h2:b≠c2)(h3:b≠c3):(K.codes c2 c3 o2 o3 ps n2 n3).New b:=by
 show(if b=c2 then _ else _)=_
 rw[if_neg h2,if_neg h3];exact e
theorem KX.codes_c2:(K.codes c2 c3 o2 o3 ps n2 n3).hg c2=some o2:=if_pos rfl
theorem HRel.codes(H:HRel K ρ hp h)(h2:h.get? c2=some o2)(h3:h.get? c3=some o3)(O2:Off ρ c2)(O3:Off ρ c3)(tb:h.get? K.tb=some { cls:=.none,data:=.fields ps }):HRel (K.codes c2 c3 o2 o3 ps n2 n3) ρ hp h:=by
 refine⟨let ⟨o,e⟩:=H.tbd;⟨o,KX.codes_old e⟩,fun b o e hb=>?_,⟨ps,rfl,tb⟩,H.len,H.nd,fun p hp=>KX.codes_new (H.hi p hp) (fun e=>(O2 p hp).1 e.symm) (fun e=>(O3 p hp).1 e.symm),
  fun p hp a ha=>⟨(H.fx p hp a ha).1,KX.codes_new (H.fx p hp a ha).2 (fun e=>(O2 p hp).2 (e ▸ ha)) (fun e=>(O3 p hp).2 (e ▸ ha))⟩,H.lt,fun i o p e q=>?_⟩
 ·have e:(if b=c2 then some o2 else if b=c3 then some o3 else K.hg b)=some o:=e
  by_cases h2':b=c2
  ·rw[if_pos h2'] at e;rw[h2'];exact h2.trans e
  ·rw[if_neg h2'] at e
   by_cases h3':b=c3
   ·rw[if_pos h3'] at e;rw[h3'];exact h3.trans e
   ·rw[if_neg h3'] at e;exact H.keepG b o e hb
 ·have r:=H.ob i o p e q
  cases o with
  | stream l =>
   obtain⟨d,X,f1,f2⟩:=r
   exact⟨d,⟨X.a1,X.a2,X.a3,X.a4,X.a5,X.b1,X.b3,X.b4,X.b6,X.b7,X.c1,X.c2,X.c3,X.c4,X.c5,X.c7,X.c8,X.c9,X.c10,X.c11,X.c12,X.c13,X.c14,X.d1,X.d2.imp id (fun q=>⟨KX.codes_old q.1,q.2⟩),X.d3,X.d4,X.e1,X.e2,X.e3⟩,f1,f2⟩
  | _=>exact r
theorem FRel.codes{env:Env}{look:Str→Option Nat}{vs:List (Option V)}(F:FRel K env look vs ρ h)(h2:h.get? c2=some o2)(h3:c3=c2∨h.get? c3=some o3)(d2:∃ fs,o2.data = .fields fs)(d3:∃ fs,o3.data = .fields fs):FRel (K.codes c2 c3 o2 o3 ps n2 n3) env look vs ρ h:=by
 obtain⟨f2,d2⟩:=d2
 obtain⟨f3,d3⟩:=d3
 have key:∀ {b o},h.get? b=some o→(∀ fs,o.data≠.fields fs)→b≠c2∧b≠c3:=fun e hn =>
  ⟨fun q=>by rw[q,h2] at e;cases e;exact hn _ d2,fun q=>by
   rcases h3 with h3 | h3
   ·rw[q,h3,h2] at e;cases e;exact hn _ d2
   ·rw[q,h3] at e;cases e;exact hn _ d3⟩
 refine⟨F.kd,F.gl,F.bi,?_,F.lo,F.ns,fun x hx=>?_,F.ci,F.ij⟩
 ·obtain⟨m,⟨o,es,ep,e,d,_⟩,_⟩:=F.ns
  obtain⟨a,b⟩:=key e (fun fs q=>by rw[d] at q;cases q)
  exact KX.codes_new F.lb a b
 ·obtain⟨c,o,ov,a1,a2,a3,a4,a5,a6⟩:=F.cl x hx
  obtain⟨a,b⟩:=key a4 (fun fs q=>by rw[a5] at q;cases q)
  exact⟨c,o,ov,a1,KX.codes_new a2 a b,a3,a4,a5,a6⟩
theorem Step.codes{ρ':Rho}{h':Heap}(S:Step K ρ h ρ' h'):Step (K.codes c2 c3 o2 o3 ps n2 n3) ρ h ρ' h':=⟨S.pre,S.new,S.keep,S.dom⟩
theorem Step.uncodes{ρ':Rho}{h':Heap}(S:Step (K.codes c2 c3 o2 o3 ps n2 n3) ρ h ρ' h'):Step K ρ h ρ' h':=⟨S.pre,S.new,S.keep,S.dom⟩
theorem StepS.codes{env:Env}{ρ':Rho}{h':Heap}(S:StepS K env ρ h ρ' h'):StepS (K.codes c2 c3 o2 o3 ps n2 n3) env ρ h ρ' h':=⟨S.pre,S.new,S.keep,S.dom⟩
end
noncomputable abbrev KX.okd(K:KX)(o:Array Value→Prop):KX:={ K with ok:=o }
theorem HRel.reok{K:KX}{ρ:Rho}{hp:List O}{h:Heap}{ps:Array Value}{o:Array Value→Prop}(H:HRel K ρ hp h)(e:h.get? K.tb=some { cls:=.none,data:=.fields ps })(ho:o ps):HRel (K.okd o) ρ hp h :=
 ⟨H.tbd,H.keepG,⟨ps,ho,e⟩,H.len,H.nd,H.hi,H.fx,H.lt,fun i o p e q=>by
  have:=H.ob i o p e q
  cases o<;>exact this⟩
theorem FRel.okd{K:KX}{env:Env}{look:Str→Option Nat}{vs:List (Option V)}{ρ:Rho}{h:Heap}{o:Array Value→Prop}(F:FRel K env look vs ρ h):FRel (K.okd o) env look vs ρ h:=⟨F.kd,F.gl,F.bi,F.lb,F.lo,F.ns,F.cl,F.ci,F.ij⟩
theorem StepS.unokd{K:KX}{env:Env}{ρ ρ':Rho}{h h':Heap}{o:Array Value→Prop}(S:StepS (K.okd o) env ρ h ρ' h'):StepS K env ρ h ρ' h':=⟨S.pre,S.new,S.keep,S.dom⟩
theorem HRel.tbNot{K:KX}{ρ:Rho}{hp:List O}{h:Heap}(H:HRel K ρ hp h):K.tb ∉ mu ρ∧∀ p∈ρ,K.tb ∉ p.f:=by
 refine⟨fun hm=>?_,fun p hp hf=>H.newTb (H.fx p hp _ hf).2 rfl⟩
 obtain⟨p,hp,e⟩:=List.mem_map.mp hm
 exact H.newTb (H.hi p hp) e
structure StreamNew(K:KX)(mg:Str→Option Value)(a c:Addr)(fd:FuncData):Prop where
 X:FnAt K a (fdOf (stAt 13) fd) (fBody (stAt 13))
 d1:fd.defaults = .none
 d2:fd.kwdefaults = .none
 co:fd.code = .ref c
 hd:W.CodeHd K.h0 c K.tb
 bl:K.h0.BuiltinsAt mg K.tb
 rp:K.readFd.params=fArgs (stS 2)
 rb:K.readFd.body = .stmts (fBody (stS 2))
 rs:K.readFd.scope=fScope (stS 2)
 tab:∀ ps',K.ok ps'→ps' = #[]
inductive PostFirst(K:KX)(mg:Str→Option Value)(a c:Addr)(fd:FuncData)(ρ:Rho)(hp:List O)(s:Shared)(l:List Nat)(rv:Value)(s':Shared):Prop
 | mk (ps:Array Value) (c2 c3:Addr) (o2 o3:Obj) (vs2:Array Value) (t2:Tok) (n2:K.New c2) (n3:K.New c3) (SO:StreamOk (K.codes c2 c3 o2 o3 ps n2 n3) mg a c fd ps c2 c3 o2 vs2 t2)
   (d3:∃ fs,o3.data = .fields fs) (P:PostStr (K.codes c2 c3 o2 o3 ps n2 n3) ρ hp s l rv s')
theorem among2(c2 c3:Addr):PySem.codeAmong pos2 ((#[] ++ #[rawInt pos2.line,rawInt pos2.col,.ref c2] ++ #[rawInt pos3.line,rawInt pos3.col,.ref c3]:Array Value)).toList=some (.ref c2):=rfl
theorem among3(c2 c3:Addr):PySem.codeAmong pos3 ((#[] ++ #[rawInt pos2.line,rawInt pos2.col,.ref c2] ++ #[rawInt pos3.line,rawInt pos3.col,.ref c3]:Array Value)).toList=some (.ref c3):=rfl
theorem among0(c2:Addr):PySem.codeAmong pos3 ((#[] ++ #[rawInt pos2.line,rawInt pos2.col,.ref c2]:Array Value)).toList=none:=rfl
theorem IW(fd:FuncData)(s s':Shared)(a a':Addr):qualnameIn (sEnv fd s a) "read" "read" = qualnameIn (sEnv fd s' a') "read" "read" := rfl
theorem tri2(c2 c3:Addr):TriplesOk ((#[] ++ #[rawInt pos2.line,rawInt pos2.col,.ref c2] ++ #[rawInt pos3.line,rawInt pos3.col,.ref c3]:Array Value)).toList:=trivial
theorem FnAt.codes{K:KX}{c2 c3:Addr}{o2 o3:Obj}{ps:Array Value}{n2:K.New c2}{n3:K.New c3}{a:Addr}{fd:FuncData}{body:List Stmt}(X:FnAt K a fd body):FnAt (K.codes c2 c3 o2 o3 ps n2 n3) a fd body:=⟨X.ob,X.tb,X.bd,X.code,X.clo,X.gl,X.bi,X.co,X.gen,X.kd⟩
theorem FK{K:KX}{mg mb:Str→Option Value}{a c:Addr}{fd:FuncData}(G:KG K mg mb)(SO:StreamNew K mg a c fd)(h3:mainGlobals=3)(hb0:builtinsNs=0)
  {A:Around} (ok:OkA 3 A) {ρ:Rho} {hp:List O} {s:Shared} {l:List Nat} {t:Tok} {E:Value→Shared→Prop} (H:HRel K ρ hp s.heap) (hz:l.length≤2 ^ 20) :
  codeAny (model K.prog K.w) A (.call (.ref a) ⟨[.str ⟨l.toArray⟩ t],[]⟩) (fun r s'=>match r with | .ok (.ret v)=>PostFirst K mg a c fd ρ hp s l v s' | .ok _=>False | .error e=>E e s') s:=by
 refine Dy (E:=E) (Post:=PostFirst K mg a c fd ρ hp s l) G SO.X SO.d1 SO.d2 ok H hz ?_
 intro h₂ A' E' p g t ok' SX
 obtain⟨S₂,np,F₄,H₄,T₄⟩:=SX
 have kread:(sEnv fd s a).kindOf "read" = some .local:=rfl
 have kstream:(sEnv fd s a).kindOf "stream" = some .local:=rfl
 have kl:(sEnv fd s a).kindOf "left" = some .cell:=rfl
 obtain⟨cc,oc,ov,c1,_⟩:=F₄.cl "left" (.inl kl)
 have hcne:c≠K.tb:=by obtain⟨o,vs,file,tf,flags,tg,inF,text,tt,_,_,_,_,_,_,_,_,_,e⟩:=SO.hd;exact e
 have envg:(sEnv fd s a).globals=mainGlobals:=by rw[h3];rfl
 have envc:(sEnv fd s a).code = .ref c:=SO.co
 have qsame:∀ s' a',qualnameIn (sEnv fd s a) "read" "read" = qualnameIn (sEnv fd s' a') "read" "read" := fun s' a'=>IW fd s s' a a'
 generalize hE:sEnv fd s a=env at *
 have hcl2:closureFor (fScope (stS 2)) env=pure (clo env.cells (fScope (stS 2)).names []):=by
  refine Ak (fun x hx hf=>?_)
  have:=List.all_eq_true.mp El x hx
  rw[hf] at this
  have e:x.1 = "left" := by simpa using this
  rw[e,c1];rfl
 obtain⟨ps',okp,tb4⟩:=H₄.tab
 obtain rfl:=SO.tab _ okp
 rw[GG]
 refine wpAny_execs_cons (GZ rfl rfl (W.makeFunction_K (P:=K.tb) (ps:=#[]) (mg:=mg) hcl2 envg (by rw[h3];exact H₄.nsOf G.g G.g') envc (Cv SO.hd (fun o e=>H₄.keep _ _ e hcne)) tb4 trivial rfl (by rw[h3];exact G.g')
  (Bf SO.bl (fun b o hb e=>H₄.keep _ _ e hb)) ?_))
 intro c2 ctv doc h5 tk hx5 hge5 hlt5 hrec5 htb5
 dsimp only at hx5 hge5 hlt5 ⊢
 refine viaP fun z zf=>?_
 obtain⟨cx,o2,vs2,t2,hcx,hoc2,hcd2,hcq2⟩:=hrec5
 cases hcx
 refine zf ?_
 generalize hfo:W.fnMade "read" (qualnameIn env "read" "read") (fArgs (stS 2)) (fBody (stS 2)) (fScope (stS 2)) (clo env.cells (fScope (stS 2)).names []) doc ((mg "__name__").getD .none) c2 ctv=fo
 have hx6:Heap.ExtBut K.tb g (h5.push fo):=fun b o hb e=>Heap.get?_push_of_some _ (hx5 b o hb e)
 have tb6:(h5.push fo).get? K.tb=some { cls:=.none,data:=.fields (#[] ++ #[rawInt pos2.line,rawInt pos2.col,.ref c2]) }:=Heap.get?_push_of_some _ htb5
 have nonec:g.get? c2=none:=AA hge5
 have N2:K.New c2:=H₄.fresh nonec
 have O2:Off (ρ++[p]) c2:=H₄.off nonec
 have H5:=H₄.table hx5 htb5 H₄.tbNot.1 H₄.tbNot.2
 have none5:h5.get? h5.objs.size=none:=AA (Nat.le_refl _)
 have RN:K.New h5.objs.size:=H5.fresh none5
 have RO:Off (ρ++[p]) h5.objs.size:=H5.off none5
 have C6:(h5.push fo).get? c2=some o2:=Heap.get?_push_of_some _ hoc2
 have R6:(h5.push fo).get? h5.objs.size=some fo:=Heap.get?_push_size _ (by rw[← hfo];rfl)
 have H₆:=(H₄.table hx6 tb6 H₄.tbNot.1 H₄.tbNot.2).reok (o:=(· = #[] ++ #[rawInt pos2.line,rawInt pos2.col,.ref c2])) tb6 rfl
 have S45:Step K (ρ++[p]) g (ρ++[p]) h5:=Step.table hx5 htb5
 have S46:Step K (ρ++[p]) g (ρ++[p]) (h5.push fo):=Step.table hx6 tb6
 have nR:s.heap.get? h5.objs.size=none:=AJ (fun b o e=>let ⟨o',e'⟩:=S₂.dom b o e;let ⟨o'',e''⟩:=T₄.dom b o' e';S45.dom b o'' e'') none5
 have nC2:s.heap.get? c2=none:=AJ (fun b o e=>let ⟨o',e'⟩:=S₂.dom b o e;T₄.dom b o' e') nonec
 have F₆:=F₄.step H₄ S46
 refine wpAny_mono (AV (K:=K.okd (· = #[] ++ #[rawInt pos2.line,rawInt pos2.col,.ref c2])) (k:=2) (v:=.g (.ref h5.objs.size)) (s:={ s with heap:=h5.push fo,toks:=tk }) (.inl kread) rfl F₆.okd H₆ ⟨rfl,trivial⟩) ?_ (fun z z x=>x)
 intro _ s7 zx
 refine viaP fun z zf=>?_
 obtain⟨h7,t7,rfl,F₇,H₇,S67⟩:=zx
 have T7:StepS K env ρ h₂ (ρ++[p]) h7:=(T₄.trans S46.toS).trans S67.unokd
 have R7:h7.get? h5.objs.size=some fo:=S67.keep _ _ R6 (H₄.newTb RN) RO.mu (F₆.notPlace R6 (by rw[← hfo];intro es n q;cases q) (by rw[← hfo];intro v q;cases q))
 have C7:h7.get? c2=some o2:=S67.keep _ _ C6 (H₄.newTb N2) O2.mu (F₆.notPlace C6 (by rw[hcd2];intro es n q;cases q) (by rw[hcd2];intro v q;cases q))
 clear F₆ H₆ S67 R6 C6 H5 F₄
 obtain⟨pn,lpos,f3,ld,lnm,lsw⟩:=GF
 obtain⟨ps7,okp7,tb7⟩:=H₇.tab
 cases okp7
 have g37:h7.Ns 3 mg:=by obtain⟨o,es,ep,e,q⟩:=G.g;exact⟨o,es,ep,H₇.keep _ _ e G.g',q⟩
 have hcl3:closureFor lamS env=pure []:=by
  have:=Ak (scope:=lamS) (env:=env) (fun x hx=>by rw[lnm] at hx;cases hx)
  rw[lnm] at this;exact this
 refine zf ?_
 rw[f3]
 refine wpAny_execs_cons (wpAny_Assign_Name (W.kla_eval (ld env) (W.kla_makeFunction (P:=K.tb) (ps:=#[] ++ #[rawInt pos2.line,rawInt pos2.col,.ref c2]) (mg:=mg) hcl3 envg (by rw[h3];exact g37) envc (Cv SO.hd (fun o e=>H₇.keep _ _ e hcne)) tb7 trivial (among0 c2) (by rw[h3];exact G.g')
  (Bf SO.bl (fun b o hb e=>H₇.keep _ _ e hb)) ?_)) (lsw env))
 intro c3 ctv8 h8 tk8 hx8 hge8 hlt8 hrec8 htb8
 dsimp only at hx8 hge8 hlt8 ⊢
 refine viaP fun z zf=>?_
 obtain⟨cy,o3,vs3,t3,hcy,hoc3,hcd3,_⟩:=hrec8
 cases hcy
 refine zf ?_
 generalize hfl:W.kla_obj "<lambda>" (env.qual ++ "<lambda>") lamA lamB lamS [] ((mg "__name__").getD .none) c3 ctv8=fl8
 have hx9:Heap.ExtBut K.tb h7 (h8.push fl8):=fun b o hb e=>Heap.get?_push_of_some _ (hx8 b o hb e)
 have tb9:=Heap.get?_push_of_some fl8 htb8
 have nonec3:h7.get? c3=none:=AA hge8
 have N3:K.New c3:=H₇.fresh nonec3
 have O3:Off (ρ++[p]) c3:=H₇.off nonec3
 have H8:=H₇.table hx8 htb8 H₇.tbNot.1 H₇.tbNot.2
 have none8:h8.get? h8.objs.size=none:=AA (Nat.le_refl _)
 have FN:K.New h8.objs.size:=H8.fresh none8
 have FO:Off (ρ++[p]) h8.objs.size:=H8.off none8
 have C9:(h8.push fl8).get? c2=some o2:=hx9 _ _ (H₄.newTb N2) C7
 have D9:(h8.push fl8).get? c3=some o3:=Heap.get?_push_of_some _ hoc3
 have R9:(h8.push fl8).get? h5.objs.size=some fo:=hx9 _ _ (H₄.newTb RN) R7
 have L9:(h8.push fl8).get? h8.objs.size=some fl8:=Heap.get?_push_size _ (by rw[← hfl];rfl)
 have S79:Step K (ρ++[p]) h7 (ρ++[p]) (h8.push fl8):=Step.table hx9 tb9
 have H₉:HRel (K.codes c2 c3 o2 o3 (#[] ++ #[rawInt pos2.line,rawInt pos2.col,.ref c2] ++ #[rawInt pos3.line,rawInt pos3.col,.ref c3]) N2 N3) (ρ++[p]) (hp++[.lst (sgn l).reverse]) (h8.push fl8) :=
  HRel.codes (K:=(K.okd (· = #[] ++ #[rawInt pos2.line,rawInt pos2.col,.ref c2])).free) (n2:=N2) (n3:=N3) (H₇.table hx9 tb9 H₇.tbNot.1 H₇.tbNot.2) C9 D9 O2 O3 tb9
 have F₉:FRel (K.codes c2 c3 o2 o3 (#[] ++ #[rawInt pos2.line,rawInt pos2.col,.ref c2] ++ #[rawInt pos3.line,rawInt pos3.col,.ref c3]) N2 N3) env _ _ (ρ++[p]) (h8.push fl8) :=
  FRel.codes (K:=K.okd (· = #[] ++ #[rawInt pos2.line,rawInt pos2.col,.ref c2])) (n2:=N2) (n3:=N3) (F₇.step H₇ (Step.table hx9 tb9)) C9 (.inr D9) ⟨_,hcd2⟩ ⟨_,hcd3⟩
 have C8:h8.get? c2=some o2:=hx8 _ _ (H₄.newTb N2) C7
 have rn2:h5.objs.size≠c2:=fun e=>by rw[← e,none5] at hoc2;cases hoc2
 have rn3:h5.objs.size≠c3:=fun e=>by rw[e,nonec3] at R7;cases R7
 have fn2:h8.objs.size≠c2:=fun e=>by rw[← e,none8] at C8;cases C8
 have fn3:h8.objs.size≠c3:=fun e=>by rw[← e,none8] at hoc3;cases hoc3
 have RN':=KX.codes_new (o2:=o2) (o3:=o3) (ps:=#[] ++ #[rawInt pos2.line,rawInt pos2.col,.ref c2] ++ #[rawInt pos3.line,rawInt pos3.col,.ref c3]) (n2:=N2) (n3:=N3) RN rn2 rn3
 have FN':=KX.codes_new (o2:=o2) (o3:=o3) (ps:=#[] ++ #[rawInt pos2.line,rawInt pos2.col,.ref c2] ++ #[rawInt pos3.line,rawInt pos3.col,.ref c3]) (n2:=N2) (n3:=N3) FN fn2 fn3
 have T79:=(StepS.codes (o2:=o2) (o3:=o3) (ps:=#[] ++ #[rawInt pos2.line,rawInt pos2.col,.ref c2] ++ #[rawInt pos3.line,rawInt pos3.col,.ref c3]) (n2:=N2) (n3:=N3) (T7.trans S79.toS))
 have S₂':=(Step.codes (o2:=o2) (o3:=o3) (ps:=#[] ++ #[rawInt pos2.line,rawInt pos2.col,.ref c2] ++ #[rawInt pos3.line,rawInt pos3.col,.ref c3]) (n2:=N2) (n3:=N3) S₂)
 have ntb2:c2≠K.tb:=H₄.newTb N2
 have tbR:h5.objs.size≠K.tb:=H₄.newTb RN
 have tbF:h8.objs.size≠K.tb:=H₄.newTb FN
 have nF:s.heap.get? h8.objs.size=none:=AJ (fun b o e=>let ⟨o',e'⟩:=S₂.dom b o e;let ⟨o'',e''⟩:=T7.dom b o' e';(Step.table (K:=K) (ρ:=ρ) hx8 htb8).dom b o'' e'') none8
 have ne1:h5.objs.size≠h8.objs.size:=fun e=>by
  have:=hx8 _ _ tbR R7
  rw[e,none8] at this;cases this
 have hlen:=H.len
 refine wpAny_mono (AV (K:=K.codes c2 c3 o2 o3 (#[] ++ #[rawInt pos2.line,rawInt pos2.col,.ref c2] ++ #[rawInt pos3.line,rawInt pos3.col,.ref c3]) N2 N3) (k:=3) (v:=.g (.ref h8.objs.size)) (s:={ s with heap:=h8.push fl8,toks:=tk8 }) (.inl kstream) rfl F₉ H₉ ⟨rfl,trivial⟩) ?_ (fun z z x=>x)
 rintro _ s10 ⟨h10,t10,rfl,F₁₀,H₁₀,S910⟩
 have R10:h10.get? h5.objs.size=some fo:=S910.keep _ _ R9 tbR RO.mu (F₉.notPlace R9 (by rw[← hfo];intro es n q;cases q) (by rw[← hfo];intro v q;cases q))
 have L10:h10.get? h8.objs.size=some fl8:=S910.keep _ _ L9 tbF FO.mu (F₉.notPlace L9 (by rw[← hfl];intro es n q;cases q) (by rw[← hfl];intro v q;cases q))
 refine wpAny_mono (EJ (s:=s) (K:=K.codes c2 c3 o2 o3 (#[] ++ #[rawInt pos2.line,rawInt pos2.col,.ref c2] ++ #[rawInt pos3.line,rawInt pos3.col,.ref c3]) N2 N3) kread kstream kl hlen S₂' np F₁₀ H₁₀ (T79.trans S910) (fl:=fl8) (fo:=fo)
   (rfd:=W.fnX "read" (qualnameIn env "read" "read") (fArgs (stS 2)) (fBody (stS 2)) (fScope (stS 2)) (clo env.cells (fScope (stS 2)).names []) .none .none doc ((mg "__name__").getD .none) Option.none (.ref c2) ctv)
   ⟨R10,L10,RN',FN',by rw[← hfo],by rw[← hfo],by rw[← hfo],SO.rp.symm,SO.rb.symm,SO.rs.symm,h3,rfl,rfl,rfl,hb0,by rw[← hfl],by rw[← hfl],⟨_,by rw[← hfl]⟩,⟨c2,o2,vs2,t2,rfl,KX.codes_c2,ntb2,hcd2,hcq2⟩⟩ RO FO nR nF ne1) ?_ (fun z z x=>x)
 rintro fl s' ⟨rv,rfl,P⟩
 exact⟨rv,rfl,#[] ++ #[rawInt pos2.line,rawInt pos2.col,.ref c2] ++ #[rawInt pos3.line,rawInt pos3.col,.ref c3],c2,c3,o2,o3,vs2,t2,N2,N3,⟨SO.X.codes,SO.d1,SO.d2,SO.co,SO.hd,SO.bl,SO.rp,SO.rb,SO.rs,fun z e=>e,tri2 c2 c3,among2 c2 c3,among3 c2 c3,KX.codes_c2,ntb2,hcd2,fun s' a'=>by rw[← qsame s' a'];exact hcq2⟩,⟨_,hcd3⟩,P⟩
structure S3(K:KX)(Kf:W.Frag)(mg mb:Str→Option Value):Prop where
 G:KG K mg mb
 X:KF K Kf
 attrs:K.attrs=(["_headers", "lineno", "instream", "whitespace", "pushback"]:List Str)
 x_Headers__convert_string_type:FnOk K 132 (clAt 11 1)
 m_Headers__convert_string_type:metOk Kf 231 "_convert_string_type" 132=true
 x_Headers_get_all:FnOk K 170 (clAt 11 7)
 m_Headers_get_all:metOk Kf 231 "get_all" 170=true
 x__netrclex_push_token:FnOk K 73 (clAt 3 3)
 m__netrclex_push_token:metOk Kf 76 "push_token" 73=true
 x_Headers_add_header:FnOk K 228 (clAt 11 16)
 m_Headers_add_header:metOk Kf 231 "add_header" 228=true
 x__formatparam:FnOkD K 110 (stAt 10) (.ref 103)
 bd__formatparam:∀ (fd:FuncData) S a0 a1 a2,fd.defaults = .ref 103→fd.kwdefaults = .none→W.peek Kf S (bindArgs (fdOf (stAt 10) fd) ⟨[a0,a1,a2],[]⟩)=some [(("param" : Str),a0),(("value" : Str),a1),(("quote" : Str),a2)]
 g__formatparam:mg "_formatparam" = some (.ref 110)
 x_Headers___init__:FnOkD K 125 (clAt 11 0) (.ref 118)
 bd_Headers___init__:∀ (fd:FuncData) S a0 a1,fd.defaults = .ref 118→fd.kwdefaults = .none→W.peek Kf S (bindArgs (fdOf (clAt 11 0) fd) ⟨[a0,a1],[]⟩)=some [(("self" : Str),a0),(("headers" : Str),a1)]
 m_Headers___init__:metOk Kf 231 "__init__" 125=true
 x__netrclex___init__:FnOk K 52 (clAt 3 0)
 m__netrclex___init__:metOk Kf 76 "__init__" 52=true
 x__law_stream:FnOk K 240 (stAt 13)
 g__law_stream:mg "_law_stream" = some (.ref 240)
 x__law_parts:FnOk K 247 (stAt 14)
 g__law_parts:mg "_law_parts" = some (.ref 247)
 x__law_drawn:FnOk K 254 (stAt 15)
 g__law_drawn:mg "_law_drawn" = some (.ref 254)
 x__netrclex__read_char:FnOk K 59 (clAt 3 1)
 m__netrclex__read_char:metOk Kf 76 "_read_char" 59=true
 x__netrclex_get_token:FnOk K 66 (clAt 3 2)
 m__netrclex_get_token:metOk Kf 76 "get_token" 66=true
 x__law_term:FnOk K 261 (stAt 16)
 g__law_term:mg "_law_term" = some (.ref 261)
 x__law_cut:FnOk K 268 (stAt 17)
 g__law_cut:mg "_law_cut" = some (.ref 268)
 x__law_named:FnOk K 289 (stAt 20)
 g__law_named:mg "_law_named" = some (.ref 289)
 x__law_due:FnOk K 294 (stAt 21)
 g__law_due:mg "_law_due" = some (.ref 294)
 x_replace:FnOk K 87 (stAt 5)
 g_replace:mg "replace" = some (.ref 87)
 x__law_pairs:FnOk K 275 (stAt 18)
 g__law_pairs:mg "_law_pairs" = some (.ref 275)
 x__law_made_alike:FnOk K 282 (stAt 19)
 g__law_made_alike:mg "_law_made_alike" = some (.ref 282)
 g_Headers:mg "Headers" = some (.ref 231)
 c_Headers:clsOk Kf 231=true
 f_Headers__headers:fldOk Kf 231 "_headers" = true
 g__netrclex:mg "_netrclex" = some (.ref 76)
 c__netrclex:clsOk Kf 76=true
 f__netrclex_lineno:fldOk Kf 76 "lineno" = true
 f__netrclex_instream:fldOk Kf 76 "instream" = true
 f__netrclex_whitespace:fldOk Kf 76 "whitespace" = true
 f__netrclex_pushback:fldOk Kf 76 "pushback" = true
 g__name_disallowed_re:mg "_name_disallowed_re" = some (.ref 97)
 g__value_disallowed_re:mg "_value_disallowed_re" = some (.ref 102)
 iter0:mg "iter" = none
 iter1:mb "iter" = some (.builtin "iter")
 len0:mg "len" = none
 len1:mb "len" = some (.builtin "len")
 list0:mg "list" = none
 list1:mb "list" = some (.type "list")
 range0:mg "range" = none
 range1:mb "range" = some (.type "range")
 str0:mg "str" = none
 str1:mb "str" = some (.type "str")
 type0:mg "type" = none
 type1:mb "type" = some (.type "type")
 zip0:mg "zip" = none
 zip1:mb "zip" = some (.type "zip")
 k_replace:W.keepIn Kf (.ref 87)=true
 bd0_Headers___init__:∀ (fd:FuncData) S a0,fd.defaults = .ref 118→fd.kwdefaults = .none→W.peek Kf S (bindArgs (fdOf (clAt 11 0) fd) ⟨[a0],[]⟩)=some [(("self" : Str),a0),(("headers" : Str),.none)]
 bd0__formatparam:∃ tq,∀ (fd:FuncData) S a0 a1,fd.defaults = .ref 103→fd.kwdefaults = .none→W.peek Kf S (bindArgs (fdOf (stAt 10) fd) ⟨[a0,a1],[]⟩)=some [(("param" : Str),a0),(("value" : Str),a1),(("quote" : Str),.int 1 tq)]
 sm:∃ o,K.h0.get? sysModules=some o
 rc:K.readChar=59
 rcm:metOk Kf 76 "_read_char" K.readChar=true
 rc1:W.specialIn Kf (.ref K.readChar) "__get__" = some (some (.builtin "function.__get__"))
 rc2:W.takesIn Kf (.ref K.readChar)=some false
 ah1:W.specialIn Kf (.ref 228) "__get__" = some (some (.builtin "function.__get__"))
 ah2:W.takesIn Kf (.ref 228)=some false
 rt:ReadText K "size" readBody
 re:∀ p∈([97,102]:List Addr),ReAt K p∧∀ o,K.h0.get? p=some o→o.dict=none
variable{K:KX}{Kf:W.Frag}{mg mb:Str→Option Value}
def Ah:XS:=(sCons (sIf (bCmp (opIsT false) (xCall fType (lCons (xVar 1) lNil)) (xG (.type "str"))) (sCons (sAssign 3 (xIte (bVal (xVar 2)) (xG (.ref 97)) (xG (.ref 102))))
 (sCons (sIf (bVal (xRe [97,102] (xVar 3) (xVar 1))) (sCons sDead
 sNil) sNil)
 (sCons (sRet (xVar 1))
 sNil))) sNil)
 (sCons sDead
 sNil))
theorem BR(N:S3 K Kf mg mb)(fd:FuncData){a L:Addr}:SoundSs K 0 (callEnvC (fdOf (clAt 11 1) fd) L a) (lk ((["self", "value", "name"]:List Str)++(["regex"]:List Str))) (fBody (clAt 11 1)) Ah:=by
 conv=>arg 5;whnf
 refine A0 ?_ ?_;refine Ar ?_ ?_ ?_;refine AI ?_ ?_ ?_ ?_;exact O5;refine CA N.G ?_ ?_ ?_ N.type0 N.type1 ?_ ?_;exact KN;refine l_c ?_ ?_ ?_;exact A1 (.inl rfl) rfl rfl rfl;exact A6;exact rfl;exact rfl;exact rfl;exact rfl;exact I8 N.G rfl N.str0 N.str1 rfl;exact rfl;refine A0 ?_ ?_;refine A5 ?_ ?_ ?_ ?_;refine E2 ?_ ?_ ?_;refine Ed ?_ ?_;exact A1 (.inl rfl) rfl rfl rfl;exact fun z=>rfl;exact KQ N.G rfl N.g__name_disallowed_re rfl;exact KQ N.G rfl N.g__value_disallowed_re rfl;exact .inl rfl;exact rfl;exact rfl;refine A0 ?_ ?_;refine Ar ?_ ?_ ?_;refine Ed ?_ ?_;refine Ol N.re ?_ ?_ ?_ ?_ ?_ ?_;exact A1 (.inl rfl) rfl rfl rfl;exact A1 (.inl rfl) rfl rfl rfl;exact rfl;exact rfl;exact rfl;exact rfl;exact fun z=>rfl;refine A0 ?_ ?_;exact D6;exact A3;exact A3;refine A0 ?_ ?_;refine Ag ?_;exact A1 (.inl rfl) rfl rfl rfl;exact A3;exact A3;refine A0 ?_ ?_;exact D6;exact A3
def A9:FT:=runFn false (bPlain 3) 1 Ah
theorem AE(N:S3 K Kf mg mb):SoundF K 1 (.ref 132) (["name"]:List Str) A9:=by
 obtain⟨fd,X,hd,hk⟩:=N.x_Headers__convert_string_type
 exact Bj (rest:=(["regex"]:List Str)) (kn:=(["name"]:List Str)) N.G X (Kh (kn:=(["name"]:List Str)) (ps:=(["self", "value", "name"]:List Str)) (fun ras ks h1 h2=>by rw[B0 hd hk];obtain⟨k0,rfl⟩:=len1 h1;obtain⟨a0,a1,rfl⟩:=len2 (show ras.length=2 from by simpa using h2);rfl)) (by decide) (kindsOk rfl) (noFree rfl) (fun L=>BR N fd)
def C1:XS:=(sCons (sAssign 1 (xMeth 231 A9 (xVar 0) (lCons (xMethS mLower (xVar 1) lNil) lNil) (lCons (cB true) lNil)))
 (sCons (sRet (xComp false 1 (tName 0) (xUn (getF 231 0) (xVar 0)) (bCmp opEq (xMethS mLower (xBin opItem (xVar 0) (cI 0)) lNil) (xVar 2)) (xBin opItem (xVar 0) (cI 1))))
 sNil))
theorem DI(N:S3 K Kf mg mb)(fd:FuncData){a L:Addr}:SoundSs K 1 (callEnvC (fdOf (clAt 11 7) fd) L a) (lk ((["self", "name"]:List Str)++([]:List Str))) (fBody (clAt 11 7)) C1:=by
 conv=>arg 5;whnf
 refine A0 ?_ ?_;refine A5 ?_ ?_ ?_ ?_;refine AK N.X N.x_Headers__convert_string_type N.m_Headers__convert_string_type ?_ ?_ ?_ ?_ ?_ ?_ ?_ ?_ ?_ ?_;exact SoundF.le (AE N) Lq;exact A1 (.inl rfl) rfl rfl rfl;refine l_c ?_ ?_ ?_;refine Bc (id := "str.lower") ?_ ?_ ?_ ?_ ?_ ?_ ?_ ?_;exact Hy;exact A1 (.inr (.inl rfl)) rfl rfl rfl;exact A6;exact PySem.F.slot_str_lower;exact PySem.F.type_str_lower;exact rfl;exact rfl;exact rfl;exact A6;exact rfl;refine Dq ?_ ?_;exact CD;exact BH;rw[N.attrs];decide;exact rfl;exact rfl;exact rfl;exact rfl;exact rfl;exact .inr rfl;exact rfl;exact rfl;refine A0 ?_ ?_;refine Ag ?_;refine Be ["kv"] (m:=false) ?_ ?_ ?_ ?_ ?_ ?_;refine CU (Bb N.X N.c_Headers N.f_Headers__headers (by rw[N.attrs] ; rfl)) ?_ ?_ ?_;exact A1 (.inl rfl) rfl rfl rfl;exact rfl;exact fun z z=>rfl;intro _ _;exact Ay rfl rfl;intro _ _;refine I6 ?_;refine AI ?_ ?_ ?_ ?_;exact CY;refine Bc (id := "str.lower") ?_ ?_ ?_ ?_ ?_ ?_ ?_ ?_;exact Hy;refine AG ?_ ?_ ?_;exact A1 (.inl rfl) rfl rfl rfl;exact AF;exact fun z z=>rfl;exact A6;exact PySem.F.slot_str_lower;exact PySem.F.type_str_lower;exact rfl;exact rfl;exact rfl;exact A1 (.inr (.inl rfl)) rfl rfl rfl;exact rfl;intro _ _;refine AG ?_ ?_ ?_;exact A1 (.inl rfl) rfl rfl rfl;exact AF;exact fun z z=>rfl;exact rfl;exact fun z=>rfl;exact A3
def BM:FT:=runFn false (bPlain 2) 0 C1
theorem Dh(N:S3 K Kf mg mb):SoundF K 2 (.ref 170) ([]:List Str) BM:=by
 obtain⟨fd,X,hd,hk⟩:=N.x_Headers_get_all
 exact Bj (rest:=([]:List Str)) (kn:=([]:List Str)) N.G X (B6 (ps:=(["self", "name"]:List Str)) (fun ras h=>by rw[B0 hd hk];obtain⟨a0,a1,rfl⟩:=len2 h;rfl)) (by decide) (kindsOk rfl) (noFree rfl) (fun L=>DI N fd)
def BE:XS:=(sCons (sExpr (xMethL mAppend (xUn (getF 76 4) (xVar 0)) (lCons (xVar 1) lNil)))
 sNil)
theorem CO(N:S3 K Kf mg mb)(fd:FuncData){a L:Addr}:SoundSs K 0 (callEnvC (fdOf (clAt 3 3) fd) L a) (lk ((["self", "token"]:List Str)++([]:List Str))) (fBody (clAt 3 3)) BE:=by
 conv=>arg 5;whnf
 refine A0 ?_ ?_;refine Ap ?_ ?_ ?_;refine An (id := "list.append") ?_ ?_ ?_ ?_ ?_ ?_ ?_ ?_;exact Av;refine CU (Bb N.X N.c__netrclex N.f__netrclex_pushback (by rw[N.attrs] ; rfl)) ?_ ?_ ?_;exact A1 (.inl rfl) rfl rfl rfl;exact rfl;exact fun z z=>rfl;refine l_c ?_ ?_ ?_;exact A1 (.inl rfl) rfl rfl rfl;exact A6;exact rfl;exact PySem.F.slot_list_append;exact PySem.F.type_list_append;exact rfl;exact rfl;exact rfl;exact rfl;exact rfl;exact A3
def AC:FT:=runFn false (bPlain 2) 0 BE
theorem Aa(N:S3 K Kf mg mb):SoundF K 1 (.ref 73) ([]:List Str) AC:=by
 obtain⟨fd,X,hd,hk⟩:=N.x__netrclex_push_token
 exact Bj (rest:=([]:List Str)) (kn:=([]:List Str)) N.G X (B6 (ps:=(["self", "token"]:List Str)) (fun ras h=>by rw[B0 hd hk];obtain⟨a0,a1,rfl⟩:=len2 h;rfl)) (by decide) (kindsOk rfl) (noFree rfl) (fun L=>CO N fd)
def BP:XS:=(sAssign 1 (xIte (bCmp opIsNot (xVar 1) cNone) (xVar 1) (xList true lNil)))
theorem CX(N:S3 K Kf mg mb)(fd:FuncData){a L:Addr}:SoundS K 1 (callEnvC (fdOf (clAt 11 0) fd) L a) (lk ((["self", "headers"]:List Str)++(["k", "v"]:List Str))) ((fBody (clAt 11 0)).getD 0 default) BP:=by
 conv=>arg 5;whnf
 refine A5 ?_ ?_ ?_ ?_;refine E2 ?_ ?_ ?_;refine AI ?_ ?_ ?_ ?_;exact FS;exact A1 (.inl rfl) rfl rfl rfl;exact Bi;exact rfl;exact A1 (.inl rfl) rfl rfl rfl;refine AZ (m:=true) ?_;exact A6;exact .inl rfl;exact rfl;exact rfl
def At:XS:=(sCons (sIf (bCmp (opIsT true) (xCall fType (lCons (xVar 1) lNil)) (xG (.type "list"))) (sCons sDead
 sNil) sNil)
 (sCons (sSetF (setF 231 0) (xVar 0) (xVar 1))
 (sCons (sIf (bVal (cB true)) (sCons (sFor (tTuple 2 (tsCons (tName 2) (tsCons (tName 3) tsNil))) (xVar 1) (sCons (sExpr (xMeth 231 A9 (xVar 0) (lCons (xVar 2) lNil) (lCons (cB true) lNil)))
 (sCons (sExpr (xMeth 231 A9 (xVar 0) (lCons (xVar 3) lNil) (lCons (cB false) lNil)))
 sNil)))
 sNil) sNil)
 sNil)))
theorem Ca(N:S3 K Kf mg mb)(fd:FuncData){a L:Addr}:SoundSs K 1 (callEnvC (fdOf (clAt 11 0) fd) L a) (lk ((["self", "headers"]:List Str)++(["k", "v"]:List Str))) ((fBody (clAt 11 0)).drop 1) At:=by
 conv=>arg 5;whnf
 refine A0 ?_ ?_;refine Ar ?_ ?_ ?_;refine AI ?_ ?_ ?_ ?_;exact JQ;refine CA N.G ?_ ?_ ?_ N.type0 N.type1 ?_ ?_;exact KN;refine l_c ?_ ?_ ?_;exact A1 (.inl rfl) rfl rfl rfl;exact A6;exact rfl;exact rfl;exact rfl;exact rfl;exact I8 N.G rfl N.list0 N.list1 rfl;exact rfl;refine A0 ?_ ?_;exact D6;exact A3;exact A3;refine A0 ?_ ?_;refine FP (Cq N.X N.attrs N.c_Headers N.f_Headers__headers (by rw[N.attrs] ; rfl) rfl) ?_ ?_ ?_;exact A1 (.inl rfl) rfl rfl rfl;exact A1 (.inl rfl) rfl rfl rfl;exact rfl;refine A0 ?_ ?_;refine Ar ?_ ?_ ?_;refine Ed ?_ ?_;exact CD;exact fun z=>rfl;refine A0 ?_ ?_;refine DL ?_ ?_ ?_ ?_;refine E6 ?_;refine Bz ?_ ?_ ?_;exact Al (.inl rfl) rfl;refine Bz ?_ ?_ ?_;exact Al (.inl rfl) rfl;exact FH;exact rfl;exact rfl;exact A1 (.inl rfl) rfl rfl rfl;refine A0 ?_ ?_;refine Ap ?_ ?_ ?_;refine AK N.X N.x_Headers__convert_string_type N.m_Headers__convert_string_type ?_ ?_ ?_ ?_ ?_ ?_ ?_ ?_ ?_ ?_;exact SoundF.le (AE N) Lq;exact A1 (.inl rfl) rfl rfl rfl;refine l_c ?_ ?_ ?_;exact A1 (.inl rfl) rfl rfl rfl;exact A6;exact rfl;refine Dq ?_ ?_;exact CD;exact BH;rw[N.attrs];decide;exact rfl;exact rfl;exact rfl;exact rfl;exact rfl;exact rfl;exact rfl;refine A0 ?_ ?_;refine Ap ?_ ?_ ?_;refine AK N.X N.x_Headers__convert_string_type N.m_Headers__convert_string_type ?_ ?_ ?_ ?_ ?_ ?_ ?_ ?_ ?_ ?_;exact SoundF.le (AE N) Lq;exact A1 (.inl rfl) rfl rfl rfl;refine l_c ?_ ?_ ?_;exact A1 (.inl rfl) rfl rfl rfl;exact A6;exact rfl;refine Dq ?_ ?_;exact CD;exact BH;rw[N.attrs];decide;exact rfl;exact rfl;exact rfl;exact rfl;exact rfl;exact rfl;exact rfl;exact A3;exact fun z=>rfl;exact A3;exact A3;exact A3
def BB:XS:=(sSetF (setF 76 1) (xVar 0) (cI 1))
theorem CH(N:S3 K Kf mg mb)(fd:FuncData){a L:Addr}:SoundS K 1 (callEnvC (fdOf (clAt 3 0) fd) L a) (lk ((["self", "fp"]:List Str)++([]:List Str))) ((fBody (clAt 3 0)).getD 0 default) BB:=by
 conv=>arg 5;whnf
 refine FP (Cq N.X N.attrs N.c__netrclex N.f__netrclex_lineno (by rw[N.attrs] ; rfl) rfl) ?_ ?_ ?_;exact A1 (.inl rfl) rfl rfl rfl;exact AF;exact rfl
def BA:XS:=(sSetF (setF 76 2) (xVar 0) (xVar 1))
theorem CG(N:S3 K Kf mg mb)(fd:FuncData){a L:Addr}:SoundS K 1 (callEnvC (fdOf (clAt 3 0) fd) L a) (lk ((["self", "fp"]:List Str)++([]:List Str))) ((fBody (clAt 3 0)).getD 1 default) BA:=by
 conv=>arg 5;whnf
 refine FP (Cq N.X N.attrs N.c__netrclex N.f__netrclex_instream (by rw[N.attrs] ; rfl) rfl) ?_ ?_ ?_;exact A1 (.inl rfl) rfl rfl rfl;exact A1 (.inl rfl) rfl rfl rfl;exact rfl
def B9:XS:=(sSetF (setF 76 3) (xVar 0) (cS "\n\t\r "))
theorem CF(N:S3 K Kf mg mb)(fd:FuncData){a L:Addr}:SoundS K 1 (callEnvC (fdOf (clAt 3 0) fd) L a) (lk ((["self", "fp"]:List Str)++([]:List Str))) ((fBody (clAt 3 0)).getD 2 default) B9:=by
 conv=>arg 5;whnf
 refine FP (Cq N.X N.attrs N.c__netrclex N.f__netrclex_whitespace (by rw[N.attrs] ; rfl) rfl) ?_ ?_ ?_;exact A1 (.inl rfl) rfl rfl rfl;exact AM;exact rfl
def DM:XS:=(sCons (sRet (xIte (bCmp opEq (xVar 0) (cS "\"")) (cI 2) (xIte (bCmp opEq (xVar 0) (cS "\\")) (cI 1) (cI 0))))
 sNil)
theorem FB(N:S3 K Kf mg mb)(fd:FuncData){a L:Addr}:SoundSs K 0 (callEnvC (fdOf (stAt 14) fd) L a) (lk ((["sign"]:List Str)++([]:List Str))) (fBody (stAt 14)) DM:=by
 conv=>arg 5;whnf
 refine A0 ?_ ?_;refine Ag ?_;refine E2 ?_ ?_ ?_;refine AI ?_ ?_ ?_ ?_;exact CY;exact A1 (.inl rfl) rfl rfl rfl;exact AM;exact rfl;exact AF;refine E2 ?_ ?_ ?_;refine AI ?_ ?_ ?_ ?_;exact CY;exact A1 (.inl rfl) rfl rfl rfl;exact AM;exact rfl;exact AF;exact AF;exact A3
def AQ:FT:=runFn false (bPlain 1) 0 DM
theorem Bq(N:S3 K Kf mg mb):SoundF K 1 (.ref 247) ([]:List Str) AQ:=by
 obtain⟨fd,X,hd,hk⟩:=N.x__law_parts
 exact Bj (rest:=([]:List Str)) (kn:=([]:List Str)) N.G X (B6 (ps:=(["sign"]:List Str)) (fun ras h=>by rw[B0 hd hk];obtain⟨a0,rfl⟩:=len1 h;rfl)) (by decide) (kindsOk rfl) (noFree rfl) (fun L=>FB N fd)
def DS:XS:=(sCons (sAssign 1 (cS "\""))
 (sCons (sAssign 2 (cI 2))
 (sCons (sFor (tName 3) (xVar 0) (sCons (sFor (tName 4) (xList false (lCons (xBin opMod (xVar 3) (cI 8)) (lCons (xBin opMod (xBin opDiv (xVar 3) (cI 8)) (cI 8)) lNil))) (sCons (sIf (bCmp opGt (xVar 2) (cI 0)) (sCons (sAssign 5 (xBin opItem (cS "\"xy\"z\\# ") (xVar 4)))
 (sCons (sAug opIAdd 1 (xVar 5))
 (sCons (sAug opIAdd 2 (xBin opSub (xCall AQ (lCons (xVar 5) lNil)) (cI 1)))
 sNil))) sNil)
 sNil))
 sNil))
 (sCons (sRet (xBin opAdd (xVar 1) (xSlice (cS "#x#x#x#x") pNone (pSome (xVar 2)))))
 sNil))))
theorem FE(N:S3 K Kf mg mb)(fd:FuncData){a L:Addr}:SoundSs K 1 (callEnvC (fdOf (stAt 15) fd) L a) (lk ((["numbers"]:List Str)++(["term", "need", "x", "figure", "sign"]:List Str))) (fBody (stAt 15)) DS:=by
 conv=>arg 5;whnf
 refine A0 ?_ ?_;refine A5 ?_ ?_ ?_ ?_;exact AM;exact .inl rfl;exact rfl;exact rfl;refine A0 ?_ ?_;refine A5 ?_ ?_ ?_ ?_;exact AF;exact .inl rfl;exact rfl;exact rfl;refine A0 ?_ ?_;refine DL ?_ ?_ ?_ ?_;exact Al (.inl rfl) rfl;exact A1 (.inl rfl) rfl rfl rfl;refine A0 ?_ ?_;refine DL ?_ ?_ ?_ ?_;exact Al (.inl rfl) rfl;refine AZ ?_;refine l_c ?_ ?_ ?_;refine Ax ?_ ?_ ?_;exact GM;exact A1 (.inl rfl) rfl rfl rfl;exact AF;refine l_c ?_ ?_ ?_;refine Ax ?_ ?_ ?_;exact GM;refine Ax ?_ ?_ ?_;exact JS;exact A1 (.inl rfl) rfl rfl rfl;exact AF;exact AF;exact A6;exact rfl;exact rfl;refine A0 ?_ ?_;refine Ar ?_ ?_ ?_;refine AI ?_ ?_ ?_ ?_;exact LC;exact A1 (.inl rfl) rfl rfl rfl;exact AF;exact rfl;refine A0 ?_ ?_;refine A5 ?_ ?_ ?_ ?_;refine AG ?_ ?_ ?_;exact AM;exact A1 (.inl rfl) rfl rfl rfl;exact fun z z=>rfl;exact .inl rfl;exact rfl;exact rfl;refine A0 ?_ ?_;refine CJ ?_ ?_ ?_ ?_;exact B7;exact A1 (.inl rfl) rfl rfl rfl;exact .inl rfl;exact rfl;refine A0 ?_ ?_;refine CJ ?_ ?_ ?_ ?_;exact B7;refine Ax ?_ ?_ ?_;exact GL;refine AN N.G (Ab N.x__law_parts) ?_ ?_ ?_ N.g__law_parts ?_ ?_;exact SoundF.le (Bq N) Lq;refine l_c ?_ ?_ ?_;exact A1 (.inl rfl) rfl rfl rfl;exact A6;exact rfl;exact rfl;exact rfl;exact Ao rfl;exact AF;exact .inl rfl;exact rfl;exact A3;exact A3;exact A3;exact fun z=>rfl;exact A3;exact fun z=>rfl;refine A0 ?_ ?_;refine Ag ?_;refine Ax ?_ ?_ ?_;exact Cy;exact A1 (.inl rfl) rfl rfl rfl;refine Da ?_ ?_ ?_;exact AM;exact EN;refine EM ?_;exact A1 (.inl rfl) rfl rfl rfl;exact A3
def Bs:FT:=runFn false (bPlain 1) 5 DS
theorem Dg(N:S3 K Kf mg mb):SoundF K 2 (.ref 254) ([]:List Str) Bs:=by
 obtain⟨fd,X,hd,hk⟩:=N.x__law_drawn
 exact Bj (rest:=(["term", "need", "x", "figure", "sign"]:List Str)) (kn:=([]:List Str)) N.G X (B6 (ps:=(["numbers"]:List Str)) (fun ras h=>by rw[B0 hd hk];obtain⟨a0,rfl⟩:=len1 h;rfl)) (by decide) (kindsOk rfl) (noFree rfl) (fun L=>FE N fd)
def Am:XS:=(sCons (sAssign 1 (xRead (xUn (getF 76 2) (xVar 0))))
 (sCons (sIf (bCmp opEq (xVar 1) (cS "\n")) (sCons (sAugF (getF 76 1) opIAdd (setF 76 1) (xVar 0) (cI 1))
 sNil) sNil)
 (sCons (sRet (xVar 1))
 sNil)))
theorem CP(N:S3 K Kf mg mb)(fd:FuncData){a L:Addr}:SoundSs K 1 (callEnvC (fdOf (clAt 3 1) fd) L a) (lk ((["self"]:List Str)++(["ch"]:List Str))) (fBody (clAt 3 1)) Am:=by
 conv=>arg 5;whnf
 refine A0 ?_ ?_;refine A5 ?_ ?_ ?_ ?_;refine NM N.G N.rt ?_ ?_ ?_ ?_;refine CU (Bb N.X N.c__netrclex N.f__netrclex_instream (by rw[N.attrs] ; rfl)) ?_ ?_ ?_;exact A1 (.inl rfl) rfl rfl rfl;exact rfl;exact fun z z=>rfl;exact rfl;exact rfl;exact rfl;exact .inl rfl;exact rfl;exact rfl;refine A0 ?_ ?_;refine Ar ?_ ?_ ?_;refine AI ?_ ?_ ?_ ?_;exact CY;exact A1 (.inl rfl) rfl rfl rfl;exact AM;exact rfl;refine A0 ?_ ?_;refine Mx (Bb N.X N.c__netrclex N.f__netrclex_lineno (by rw[N.attrs] ; rfl)) ?_ (Cq N.X N.attrs N.c__netrclex N.f__netrclex_lineno (by rw[N.attrs] ; rfl) rfl) ?_ ?_;exact B7;exact A1 (.inl rfl) rfl rfl rfl;exact AF;exact A3;exact A3;refine A0 ?_ ?_;refine Ag ?_;exact A1 (.inl rfl) rfl rfl rfl;exact A3
def A4:FT:=runFn false (bPlain 1) 1 Am
theorem AL(N:S3 K Kf mg mb):SoundF K 2 (.ref 59) ([]:List Str) A4:=by
 obtain⟨fd,X,hd,hk⟩:=N.x__netrclex__read_char
 exact Bj (rest:=(["ch"]:List Str)) (kn:=([]:List Str)) N.G X (B6 (ps:=(["self"]:List Str)) (fun ras h=>by rw[B0 hd hk];obtain⟨a0,rfl⟩:=len1 h;rfl)) (by decide) (kindsOk rfl) (noFree rfl) (fun L=>CP N fd)
def BO:XS:=(sCons (sIf (bVal (xUn (getF 76 4) (xVar 0))) (sCons (sRet (xMethL mPop (xUn (getF 76 4) (xVar 0)) (lCons (cI 0) lNil)))
 sNil) sNil)
 (sCons (sAssign 1 (cS ""))
 (sCons (sAssign 2 (xIter 76 (xVar 0)))
 (sCons (sForC A4 (tName 3) (xVar 2) (sCons (sIf (bCmp opIn (xVar 3) (xUn (getF 76 3) (xVar 0))) (sCons sCont
 sNil) sNil)
 (sCons (sIf (bCmp opEq (xVar 3) (cS "\"")) (sCons (sForC A4 (tName 3) (xVar 2) (sCons (sIf (bCmp opEq (xVar 3) (cS "\"")) (sCons (sRet (xVar 1))
 sNil) (sCons (sIf (bCmp opEq (xVar 3) (cS "\\")) (sCons (sAssign 3 (xMeth 76 A4 (xVar 0) lNil lNil))
 sNil) sNil)
 sNil))
 (sCons (sAug opIAdd 1 (xVar 3))
 sNil)))
 sNil) (sCons (sIf (bCmp opEq (xVar 3) (cS "\\")) (sCons (sAssign 3 (xMeth 76 A4 (xVar 0) lNil lNil))
 sNil) sNil)
 (sCons (sAug opIAdd 1 (xVar 3))
 (sCons (sForC A4 (tName 3) (xVar 2) (sCons (sIf (bCmp opIn (xVar 3) (xUn (getF 76 3) (xVar 0))) (sCons (sRet (xVar 1))
 sNil) (sCons (sIf (bCmp opEq (xVar 3) (cS "\\")) (sCons (sAssign 3 (xMeth 76 A4 (xVar 0) lNil lNil))
 sNil) sNil)
 sNil))
 (sCons (sAug opIAdd 1 (xVar 3))
 sNil)))
 sNil))))
 sNil)))
 (sCons (sRet (xVar 1))
 sNil)))))
theorem CW(N:S3 K Kf mg mb)(fd:FuncData){a L:Addr}:SoundSs K 3 (callEnvC (fdOf (clAt 3 2) fd) L a) (lk ((["self"]:List Str)++(["token", "fiter", "ch"]:List Str))) (fBody (clAt 3 2)) BO:=by
 conv=>arg 5;whnf
 refine A0 ?_ ?_;refine Ar ?_ ?_ ?_;refine Ed ?_ ?_;refine CU (Bb N.X N.c__netrclex N.f__netrclex_pushback (by rw[N.attrs] ; rfl)) ?_ ?_ ?_;exact A1 (.inl rfl) rfl rfl rfl;exact rfl;exact fun z z=>rfl;exact fun z=>rfl;refine A0 ?_ ?_;refine Ag ?_;refine An (id := "list.pop") ?_ ?_ ?_ ?_ ?_ ?_ ?_ ?_;exact Hx;refine CU (Bb N.X N.c__netrclex N.f__netrclex_pushback (by rw[N.attrs] ; rfl)) ?_ ?_ ?_;exact A1 (.inl rfl) rfl rfl rfl;exact rfl;exact fun z z=>rfl;refine l_c ?_ ?_ ?_;exact AF;exact A6;exact rfl;exact PySem.F.slot_list_pop;exact PySem.F.type_list_pop;exact rfl;exact rfl;exact rfl;exact A3;exact A3;refine A0 ?_ ?_;refine A5 ?_ ?_ ?_ ?_;exact AM;exact .inl rfl;exact rfl;exact rfl;refine A0 ?_ ?_;refine A5 ?_ ?_ ?_ ?_;refine NQ N.G N.X ?_ ?_ N.iter0 N.iter1 ?_ (Jv N.rcm) (ID N.c__netrclex) (GS N.rcm) (GR N.rcm) N.rc1 N.rc2 ?_ ?_ ?_ ?_ ?_ ?_ ?_;exact A1 (.inl rfl) rfl rfl rfl;exact rfl;exact rfl;exact rfl;rw[N.attrs];decide;exact rfl;exact fun z z=>rfl;exact rfl;exact rfl;exact rfl;exact .inl rfl;exact rfl;exact rfl;refine A0 ?_ ?_;refine Dk N.x__netrclex__read_char N.rc ?_ ?_ ?_ ?_ ?_ ?_;exact AL N;exact Al (.inl rfl) rfl;exact A1 (.inl rfl) rfl rfl rfl;refine A0 ?_ ?_;refine Ar ?_ ?_ ?_;refine AI ?_ ?_ ?_ ?_;exact Gz;exact A1 (.inl rfl) rfl rfl rfl;refine CU (Bb N.X N.c__netrclex N.f__netrclex_whitespace (by rw[N.attrs] ; rfl)) ?_ ?_ ?_;exact A1 (.inl rfl) rfl rfl rfl;exact rfl;exact fun z z=>rfl;exact rfl;refine A0 ?_ ?_;exact Mv;exact A3;exact A3;refine A0 ?_ ?_;refine Ar ?_ ?_ ?_;refine AI ?_ ?_ ?_ ?_;exact CY;exact A1 (.inl rfl) rfl rfl rfl;exact AM;exact rfl;refine A0 ?_ ?_;refine Dk N.x__netrclex__read_char N.rc ?_ ?_ ?_ ?_ ?_ ?_;exact AL N;exact Al (.inl rfl) rfl;exact A1 (.inl rfl) rfl rfl rfl;refine A0 ?_ ?_;refine Ar ?_ ?_ ?_;refine AI ?_ ?_ ?_ ?_;exact CY;exact A1 (.inl rfl) rfl rfl rfl;exact AM;exact rfl;refine A0 ?_ ?_;refine Ag ?_;exact A1 (.inl rfl) rfl rfl rfl;exact A3;refine A0 ?_ ?_;refine Ar ?_ ?_ ?_;refine AI ?_ ?_ ?_ ?_;exact CY;exact A1 (.inl rfl) rfl rfl rfl;exact AM;exact rfl;refine A0 ?_ ?_;refine A5 ?_ ?_ ?_ ?_;refine AK N.X N.x__netrclex__read_char N.m__netrclex__read_char ?_ ?_ ?_ ?_ ?_ ?_ ?_ ?_ ?_ ?_;exact SoundF.le (AL N) Lq;exact A1 (.inl rfl) rfl rfl rfl;exact A6;exact BH;rw[N.attrs];decide;exact rfl;exact rfl;exact rfl;exact rfl;exact rfl;exact .inl rfl;exact rfl;exact rfl;exact A3;exact A3;exact A3;refine A0 ?_ ?_;refine CJ ?_ ?_ ?_ ?_;exact B7;exact A1 (.inl rfl) rfl rfl rfl;exact .inl rfl;exact rfl;exact A3;exact fun z=>rfl;exact fun z z=>rfl;exact A3;refine A0 ?_ ?_;refine Ar ?_ ?_ ?_;refine AI ?_ ?_ ?_ ?_;exact CY;exact A1 (.inl rfl) rfl rfl rfl;exact AM;exact rfl;refine A0 ?_ ?_;refine A5 ?_ ?_ ?_ ?_;refine AK N.X N.x__netrclex__read_char N.m__netrclex__read_char ?_ ?_ ?_ ?_ ?_ ?_ ?_ ?_ ?_ ?_;exact SoundF.le (AL N) Lq;exact A1 (.inl rfl) rfl rfl rfl;exact A6;exact BH;rw[N.attrs];decide;exact rfl;exact rfl;exact rfl;exact rfl;exact rfl;exact .inl rfl;exact rfl;exact rfl;exact A3;exact A3;refine A0 ?_ ?_;refine CJ ?_ ?_ ?_ ?_;exact B7;exact A1 (.inl rfl) rfl rfl rfl;exact .inl rfl;exact rfl;refine A0 ?_ ?_;refine Dk N.x__netrclex__read_char N.rc ?_ ?_ ?_ ?_ ?_ ?_;exact AL N;exact Al (.inl rfl) rfl;exact A1 (.inl rfl) rfl rfl rfl;refine A0 ?_ ?_;refine Ar ?_ ?_ ?_;refine AI ?_ ?_ ?_ ?_;exact Gz;exact A1 (.inl rfl) rfl rfl rfl;refine CU (Bb N.X N.c__netrclex N.f__netrclex_whitespace (by rw[N.attrs] ; rfl)) ?_ ?_ ?_;exact A1 (.inl rfl) rfl rfl rfl;exact rfl;exact fun z z=>rfl;exact rfl;refine A0 ?_ ?_;refine Ag ?_;exact A1 (.inl rfl) rfl rfl rfl;exact A3;refine A0 ?_ ?_;refine Ar ?_ ?_ ?_;refine AI ?_ ?_ ?_ ?_;exact CY;exact A1 (.inl rfl) rfl rfl rfl;exact AM;exact rfl;refine A0 ?_ ?_;refine A5 ?_ ?_ ?_ ?_;refine AK N.X N.x__netrclex__read_char N.m__netrclex__read_char ?_ ?_ ?_ ?_ ?_ ?_ ?_ ?_ ?_ ?_;exact SoundF.le (AL N) Lq;exact A1 (.inl rfl) rfl rfl rfl;exact A6;exact BH;rw[N.attrs];decide;exact rfl;exact rfl;exact rfl;exact rfl;exact rfl;exact .inl rfl;exact rfl;exact rfl;exact A3;exact A3;exact A3;refine A0 ?_ ?_;refine CJ ?_ ?_ ?_ ?_;exact B7;exact A1 (.inl rfl) rfl rfl rfl;exact .inl rfl;exact rfl;exact A3;exact fun z=>rfl;exact fun z z=>rfl;exact A3;exact A3;exact fun z=>rfl;exact fun z z=>rfl;refine A0 ?_ ?_;refine Ag ?_;exact A1 (.inl rfl) rfl rfl rfl;exact A3
def A7:FT:=runFn false (bPlain 1) 3 BO
theorem AS(N:S3 K Kf mg mb):SoundF K 4 (.ref 66) ([]:List Str) A7:=by
 obtain⟨fd,X,hd,hk⟩:=N.x__netrclex_get_token
 exact Bj (rest:=(["token", "fiter", "ch"]:List Str)) (kn:=([]:List Str)) N.G X (B6 (ps:=(["self"]:List Str)) (fun ras h=>by rw[B0 hd hk];obtain⟨a0,rfl⟩:=len1 h;rfl)) (by decide) (kindsOk rfl) (noFree rfl) (fun L=>CW N fd)
def Dz:XS:=(sCons (sAssign 1 (cS ""))
 (sCons (sAssign 2 (cI 1))
 (sCons (sWhile (bCmp opGt (xVar 2) (cI 0)) (sCons (sAssign 3 (xMeth 76 A7 (xVar 0) lNil lNil))
 (sCons (sIf (bCmp opEq (xVar 3) (cS "")) (sCons (sRet (xVar 1))
 sNil) sNil)
 (sCons (sAug opIAdd 1 (xVar 3))
 (sCons (sAug opIAdd 2 (xBin opSub (xCall AQ (lCons (xVar 3) lNil)) (cI 1)))
 sNil)))))
 (sCons (sRet (xVar 1))
 sNil))))
theorem G5(N:S3 K Kf mg mb)(fd:FuncData){a L:Addr}:SoundSs K 4 (callEnvC (fdOf (stAt 16) fd) L a) (lk ((["lexer"]:List Str)++(["term", "need", "sign"]:List Str))) (fBody (stAt 16)) Dz:=by
 conv=>arg 5;whnf
 refine A0 ?_ ?_;refine A5 ?_ ?_ ?_ ?_;exact AM;exact .inl rfl;exact rfl;exact rfl;refine A0 ?_ ?_;refine A5 ?_ ?_ ?_ ?_;exact AF;exact .inl rfl;exact rfl;exact rfl;refine A0 ?_ ?_;refine Ck ?_ ?_;refine AI ?_ ?_ ?_ ?_;exact LC;exact A1 (.inl rfl) rfl rfl rfl;exact AF;exact rfl;refine A0 ?_ ?_;refine A5 ?_ ?_ ?_ ?_;refine AK N.X N.x__netrclex_get_token N.m__netrclex_get_token ?_ ?_ ?_ ?_ ?_ ?_ ?_ ?_ ?_ ?_;exact SoundF.le (AS N) Lq;exact A1 (.inl rfl) rfl rfl rfl;exact A6;exact BH;rw[N.attrs];decide;exact rfl;exact rfl;exact rfl;exact rfl;exact rfl;exact .inl rfl;exact rfl;exact rfl;refine A0 ?_ ?_;refine Ar ?_ ?_ ?_;refine AI ?_ ?_ ?_ ?_;exact CY;exact A1 (.inl rfl) rfl rfl rfl;exact AM;exact rfl;refine A0 ?_ ?_;refine Ag ?_;exact A1 (.inl rfl) rfl rfl rfl;exact A3;exact A3;refine A0 ?_ ?_;refine CJ ?_ ?_ ?_ ?_;exact B7;exact A1 (.inl rfl) rfl rfl rfl;exact .inl rfl;exact rfl;refine A0 ?_ ?_;refine CJ ?_ ?_ ?_ ?_;exact B7;refine Ax ?_ ?_ ?_;exact GL;refine AN N.G (Ab N.x__law_parts) ?_ ?_ ?_ N.g__law_parts ?_ ?_;exact SoundF.le (Bq N) Lq;refine l_c ?_ ?_ ?_;exact A1 (.inl rfl) rfl rfl rfl;exact A6;exact rfl;exact rfl;exact rfl;exact Ao rfl;exact AF;exact .inl rfl;exact rfl;exact A3;refine A0 ?_ ?_;refine Ag ?_;exact A1 (.inl rfl) rfl rfl rfl;exact A3
def CC:FT:=runFn false (bPlain 1) 3 Dz
theorem E4(N:S3 K Kf mg mb):SoundF K 5 (.ref 261) ([]:List Str) CC:=by
 obtain⟨fd,X,hd,hk⟩:=N.x__law_term
 exact Bj (rest:=(["term", "need", "sign"]:List Str)) (kn:=([]:List Str)) N.G X (B6 (ps:=(["lexer"]:List Str)) (fun ras h=>by rw[B0 hd hk];obtain⟨a0,rfl⟩:=len1 h;rfl)) (by decide) (kindsOk rfl) (noFree rfl) (fun L=>G5 N fd)
def EP:XS:=(sCons (sAssign 1 (xList true lNil))
 (sCons (sAssign 2 (cI 0))
 (sCons (sFor (tName 3) (xSlice (xVar 0) (pSome (cI 1)) pNone) (sCons (sIf (bCmp opEq (xVar 2) (cI 0)) (sCons (sExpr (xMethL mAppend (xVar 1) (lCons (cS "") lNil)))
 (sCons (sAssign 2 (cI 1))
 sNil)) sNil)
 (sCons (sAugItem opIAdd (xVar 1) (xNeg (cI 1)) (xVar 3))
 (sCons (sAug opIAdd 2 (xBin opSub (xCall AQ (lCons (xVar 3) lNil)) (cI 1)))
 sNil))))
 (sCons (sRet (xVar 1))
 sNil))))
theorem Gp(N:S3 K Kf mg mb)(fd:FuncData){a L:Addr}:SoundSs K 1 (callEnvC (fdOf (stAt 17) fd) L a) (lk ((["term"]:List Str)++(["pieces", "need", "sign"]:List Str))) (fBody (stAt 17)) EP:=by
 conv=>arg 5;whnf
 refine A0 ?_ ?_;refine A5 ?_ ?_ ?_ ?_;refine AZ (m:=true) ?_;exact A6;exact .inl rfl;exact rfl;exact rfl;refine A0 ?_ ?_;refine A5 ?_ ?_ ?_ ?_;exact AF;exact .inl rfl;exact rfl;exact rfl;refine A0 ?_ ?_;refine DL ?_ ?_ ?_ ?_;exact Al (.inl rfl) rfl;refine Da ?_ ?_ ?_;exact A1 (.inl rfl) rfl rfl rfl;refine EM ?_;exact AF;exact EN;refine A0 ?_ ?_;refine Ar ?_ ?_ ?_;refine AI ?_ ?_ ?_ ?_;exact CY;exact A1 (.inl rfl) rfl rfl rfl;exact AF;exact rfl;refine A0 ?_ ?_;refine Ap ?_ ?_ ?_;refine An (id := "list.append") ?_ ?_ ?_ ?_ ?_ ?_ ?_ ?_;exact Av;exact A1 (.inl rfl) rfl rfl rfl;refine l_c ?_ ?_ ?_;exact AM;exact A6;exact rfl;exact PySem.F.slot_list_append;exact PySem.F.type_list_append;exact rfl;exact rfl;exact rfl;exact rfl;exact rfl;refine A0 ?_ ?_;refine A5 ?_ ?_ ?_ ?_;exact AF;exact .inl rfl;exact rfl;exact rfl;exact A3;exact A3;refine A0 ?_ ?_;refine IR ?_ ?_ ?_ ?_ ?_;exact B7;exact A1 (.inl rfl) rfl rfl rfl;refine I9 ?_;exact AF;exact A1 (.inl rfl) rfl rfl rfl;exact fun z z z=>rfl;refine A0 ?_ ?_;refine CJ ?_ ?_ ?_ ?_;exact B7;refine Ax ?_ ?_ ?_;exact GL;refine AN N.G (Ab N.x__law_parts) ?_ ?_ ?_ N.g__law_parts ?_ ?_;exact SoundF.le (Bq N) Lq;refine l_c ?_ ?_ ?_;exact A1 (.inl rfl) rfl rfl rfl;exact A6;exact rfl;exact rfl;exact rfl;exact Ao rfl;exact AF;exact .inl rfl;exact rfl;exact A3;exact fun z=>rfl;refine A0 ?_ ?_;refine Ag ?_;exact A1 (.inl rfl) rfl rfl rfl;exact A3
def BV:FT:=runFn false (bPlain 1) 3 EP
theorem Ef(N:S3 K Kf mg mb):SoundF K 2 (.ref 268) ([]:List Str) BV:=by
 obtain⟨fd,X,hd,hk⟩:=N.x__law_cut
 exact Bj (rest:=(["pieces", "need", "sign"]:List Str)) (kn:=([]:List Str)) N.G X (B6 (ps:=(["term"]:List Str)) (fun ras h=>by rw[B0 hd hk];obtain⟨a0,rfl⟩:=len1 h;rfl)) (by decide) (kindsOk rfl) (noFree rfl) (fun L=>Gp N fd)
def DQ:XS:=(sCons (sAssign 1 (cS ""))
 (sCons (sAssign 2 (cS ""))
 (sCons (sFor (tName 3) (xVar 0) (sCons (sIf (bCmp opIn (xVar 3) (cS "xyz")) (sCons (sIf (bCmp opNotIn (xVar 3) (xVar 1)) (sCons (sAug opIAdd 1 (xVar 3))
 sNil) sNil)
 (sCons (sAug opIAdd 2 (xBin opItem (cS "012") (xMethS mFind (xVar 1) (lCons (xVar 3) lNil))))
 sNil)) (sCons (sAug opIAdd 2 (xVar 3))
 sNil))
 sNil))
 (sCons (sRet (xVar 2))
 sNil))))
theorem FD(N:S3 K Kf mg mb)(fd:FuncData){a L:Addr}:SoundSs K 0 (callEnvC (fdOf (stAt 20) fd) L a) (lk ((["term"]:List Str)++(["seen", "named", "sign"]:List Str))) (fBody (stAt 20)) DQ:=by
 conv=>arg 5;whnf
 refine A0 ?_ ?_;refine A5 ?_ ?_ ?_ ?_;exact AM;exact .inl rfl;exact rfl;exact rfl;refine A0 ?_ ?_;refine A5 ?_ ?_ ?_ ?_;exact AM;exact .inl rfl;exact rfl;exact rfl;refine A0 ?_ ?_;refine DL ?_ ?_ ?_ ?_;exact Al (.inl rfl) rfl;exact A1 (.inl rfl) rfl rfl rfl;refine A0 ?_ ?_;refine Ar ?_ ?_ ?_;refine AI ?_ ?_ ?_ ?_;exact Gz;exact A1 (.inl rfl) rfl rfl rfl;exact AM;exact rfl;refine A0 ?_ ?_;refine Ar ?_ ?_ ?_;refine AI ?_ ?_ ?_ ?_;exact EA;exact A1 (.inl rfl) rfl rfl rfl;exact A1 (.inl rfl) rfl rfl rfl;exact rfl;refine A0 ?_ ?_;refine CJ ?_ ?_ ?_ ?_;exact B7;exact A1 (.inl rfl) rfl rfl rfl;exact .inl rfl;exact rfl;exact A3;exact A3;refine A0 ?_ ?_;refine CJ ?_ ?_ ?_ ?_;exact B7;refine AG ?_ ?_ ?_;exact AM;refine Bc (id := "str.find") ?_ ?_ ?_ ?_ ?_ ?_ ?_ ?_;exact Jx;exact A1 (.inl rfl) rfl rfl rfl;refine l_c ?_ ?_ ?_;exact A1 (.inl rfl) rfl rfl rfl;exact A6;exact rfl;exact PySem.F.slot_str_find;exact PySem.F.type_str_find;exact rfl;exact rfl;exact rfl;exact fun z z=>rfl;exact .inl rfl;exact rfl;exact A3;refine A0 ?_ ?_;refine CJ ?_ ?_ ?_ ?_;exact B7;exact A1 (.inl rfl) rfl rfl rfl;exact .inl rfl;exact rfl;exact A3;exact A3;exact fun z=>rfl;refine A0 ?_ ?_;refine Ag ?_;exact A1 (.inl rfl) rfl rfl rfl;exact A3
def BK:FT:=runFn false (bPlain 1) 3 DQ
theorem De(N:S3 K Kf mg mb):SoundF K 1 (.ref 289) ([]:List Str) BK:=by
 obtain⟨fd,X,hd,hk⟩:=N.x__law_named
 exact Bj (rest:=(["seen", "named", "sign"]:List Str)) (kn:=([]:List Str)) N.G X (B6 (ps:=(["term"]:List Str)) (fun ras h=>by rw[B0 hd hk];obtain⟨a0,rfl⟩:=len1 h;rfl)) (by decide) (kindsOk rfl) (noFree rfl) (fun L=>FD N fd)
def D7:XS:=(sCons (sAssign 1 (xList true (lStrs ["x", "y", "z"])))
 (sCons (sAssign 2 (xList true (lCons (xList false lNil) (lCons (xList false lNil) (lCons (xList false lNil) lNil)))))
 (sCons (sAssign 3 (xList true lNil))
 (sCons (sFor (tName 4) (xVar 0) (sCons (sAssign 5 (xList true lNil))
 (sCons (sFor (tName 6) (xCall fRange (lCons (xBin opSub (xCall fLen (lCons (xVar 4) lNil)) (cI 1)) (lCons (xNeg (cI 1)) (lCons (xNeg (cI 1)) lNil)))) (sCons (sIf (bCmp opIn (xBin opItem (xVar 4) (xVar 6)) (cS "xyz")) (sCons (sExpr (xMethL mAppend (xVar 5) (lCons (xMethS mFind (cS "xyz") (lCons (xBin opItem (xVar 4) (xVar 6)) lNil)) lNil)))
 sNil) (sCons (sExpr (xMethL mAppend (xVar 2) (lCons (xComp false 1 (tName 0) (xCall fRange (lCons (xCall AQ (lCons (xBin opItem (xVar 4) (xVar 6)) lNil)) lNil)) iNil (xMethL mPop (xVar 6) lNil)) lNil)))
 (sCons (sExpr (xMethL mAppend (xVar 1) (lCons (xBin opItem (xVar 4) (xVar 6)) lNil)))
 (sCons (sExpr (xMethL mAppend (xVar 5) (lCons (xBin opSub (xCall fLen (lCons (xVar 1) lNil)) (cI 1)) lNil)))
 sNil))))
 sNil))
 (sCons (sExpr (xMethL mAppend (xVar 3) (lCons (xMethL mPop (xVar 5) lNil) lNil)))
 sNil))))
 (sCons (sAssign 7 (xComp false 1 (tName 0) (xCall fRange (lCons (xCall fLen (lCons (xVar 1) lNil)) lNil)) iNil (xVar 0)))
 (sCons (sAssign 8 (xComp true 1 (tName 0) (xVar 7) iNil (xIte (bCmp opGt (xVar 0) (cI 2)) (xVar 0) (xNeg (cI 1)))))
 (sCons (sAssign 9 (xList true (lCons (xTuple (lCons (xBin opItem (xVar 3) (cI 0)) (lCons (xBin opItem (xVar 3) (cI 1)) lNil))) lNil)))
 (sCons (sWhile (bCmp opNe (xVar 9) (xList false lNil)) (sCons (sAssignT (tTuple 2 (tsCons (tName 10) (tsCons (tName 11) tsNil))) (xMethL mPop (xVar 9) lNil))
 (sCons (sAssign 10 (xBin opItem (xVar 7) (xVar 10)))
 (sCons (sAssign 11 (xBin opItem (xVar 7) (xVar 11)))
 (sCons (sIf (bCmp opNe (xVar 10) (xVar 11)) (sCons (sAssign 7 (xComp false 1 (tName 0) (xVar 7) iNil (xIte (bCmp opEq (xVar 0) (xVar 12)) (xVar 11) (xVar 0))))
 (sCons (sIf (bCmp opLt (xBin opItem (xVar 8) (xVar 10)) (cI 0)) (sCons (sPut (xVar 8) (xVar 10) (xBin opItem (xVar 8) (xVar 11)))
 sNil) (sCons (sIf (bCmp opGe (xBin opItem (xVar 8) (xVar 11)) (cI 0)) (sCons (sIf (bCmp opNe (xBin opItem (xVar 1) (xBin opItem (xVar 8) (xVar 10))) (xBin opItem (xVar 1) (xBin opItem (xVar 8) (xVar 11)))) (sCons (sRet cNone)
 sNil) sNil)
 (sCons (sAug opIAdd 9 (xListZip (lCons (xBin opItem (xVar 2) (xBin opItem (xVar 8) (xVar 10))) (lCons (xBin opItem (xVar 2) (xBin opItem (xVar 8) (xVar 11))) lNil))))
 sNil)) sNil)
 sNil))
 sNil)) sNil)
 sNil)))))
 (sCons (sAssign 12 (xComp true 1 (tName 0) (xCall fRange (lCons (xCall fLen (lCons (xVar 1) lNil)) lNil)) iNil (xIte (bCmp opLt (xBin opItem (xVar 9) (xVar 0)) (cI 0)) (xBin opItem (xVar 2) (xVar 0)) (cS ""))))
 (sCons (sAssign 13 (xComp false 1 (tName 0) (xCall fRange (lCons (xCall fLen (lCons (xVar 1) lNil)) lNil)) (bAnd (bCmp opEq (xBin opItem (xVar 8) (xVar 0)) (xVar 0)) (bCmp opGe (xBin opItem (xVar 9) (xVar 0)) (cI 0))) (xVar 0)))
 (sCons (sAssign 14 (xVar 13))
 (sCons (sWhile (bCmp opNe (xVar 14) (xList false lNil)) (sCons (sAssign 14 (xComp false 1 (tName 0) (xVar 13) (bCmp opNotIn (cS "") (xComp false 1 (tName 0) (xBin opItem (xVar 3) (xBin opItem (xVar 9) (xVar 0))) iNil (xBin opItem (xVar 14) (xBin opItem (xVar 9) (xVar 0))))) (xVar 0)))
 (sCons (sFor (tName 15) (xVar 14) (sCons (sPut (xVar 12) (xVar 15) (xBin opAdd (xBin opItem (xVar 1) (xBin opItem (xVar 8) (xVar 15))) (xMethS mJoin (cS "") (lCons (xComp false 1 (tName 0) (xBin opItem (xVar 2) (xBin opItem (xVar 8) (xVar 15))) iNil (xBin opItem (xVar 13) (xBin opItem (xVar 8) (xVar 0)))) lNil))))
 sNil))
 (sCons (sAssign 13 (xComp false 1 (tName 0) (xVar 13) (bCmp opNotIn (xVar 0) (xVar 15)) (xVar 0)))
 sNil))))
 (sCons (sIf (bCmp opEq (xBin opItem (xVar 12) (xBin opItem (xVar 7) (xBin opItem (xVar 3) (cI 0)))) (cS "")) (sCons (sRet cNone)
 sNil) sNil)
 (sCons (sRet (xCall BK (lCons (xBin opItem (xVar 12) (xBin opItem (xVar 7) (xBin opItem (xVar 3) (cI 0)))) lNil)))
 sNil))))))))))))))
theorem Go(N:S3 K Kf mg mb)(fd:FuncData){a L:Addr}:SoundSs K 1 (callEnvC (fdOf (stAt 21) fd) L a) (lk ((["terms"]:List Str)++(["signs", "parts", "tops", "term", "pile", "k", "of", "head", "todo", "a", "b", "told", "left", "ready", "c"]:List Str))) (fBody (stAt 21)) D7:=by
 conv=>arg 5;whnf
 refine A0 ?_ ?_;refine A5 ?_ ?_ ?_ ?_;refine AZ (m:=true) ?_;refine HG ?_;(focus repeat constructor);exact .inr rfl;exact rfl;exact rfl;refine A0 ?_ ?_;refine A5 ?_ ?_ ?_ ?_;refine AZ (m:=true) ?_;refine l_c ?_ ?_ ?_;refine AZ ?_;exact A6;refine l_c ?_ ?_ ?_;refine AZ ?_;exact A6;refine l_c ?_ ?_ ?_;refine AZ ?_;exact A6;exact A6;exact rfl;exact rfl;exact rfl;exact .inr rfl;exact rfl;exact rfl;refine A0 ?_ ?_;refine A5 ?_ ?_ ?_ ?_;refine AZ (m:=true) ?_;exact A6;exact .inl rfl;exact rfl;exact rfl;refine A0 ?_ ?_;refine DL ?_ ?_ ?_ ?_;exact Al (.inl rfl) rfl;exact A1 (.inl rfl) rfl rfl rfl;refine A0 ?_ ?_;refine A5 ?_ ?_ ?_ ?_;refine AZ (m:=true) ?_;exact A6;exact .inr rfl;exact rfl;exact rfl;refine A0 ?_ ?_;refine DL ?_ ?_ ?_ ?_;exact Al (.inl rfl) rfl;refine CA N.G ?_ ?_ ?_ N.range0 N.range1 ?_ ?_;exact Cs;refine l_c ?_ ?_ ?_;refine Ax ?_ ?_ ?_;exact GL;refine CB N.G ?_ ?_ ?_ N.len0 N.len1 ?_ ?_;exact E1;refine l_c ?_ ?_ ?_;exact A1 (.inl rfl) rfl rfl rfl;exact A6;exact rfl;exact rfl;exact rfl;exact rfl;exact AF;refine l_c ?_ ?_ ?_;refine I9 ?_;exact AF;refine l_c ?_ ?_ ?_;refine I9 ?_;exact AF;exact A6;exact rfl;exact rfl;exact rfl;exact rfl;exact rfl;exact rfl;refine A0 ?_ ?_;refine Ar ?_ ?_ ?_;refine AI ?_ ?_ ?_ ?_;exact Gz;refine AG ?_ ?_ ?_;exact A1 (.inl rfl) rfl rfl rfl;exact A1 (.inl rfl) rfl rfl rfl;exact fun z z=>rfl;exact AM;exact rfl;refine A0 ?_ ?_;refine Ap ?_ ?_ ?_;refine An (id := "list.append") ?_ ?_ ?_ ?_ ?_ ?_ ?_ ?_;exact Av;exact A1 (.inr (.inl rfl)) rfl rfl rfl;refine l_c ?_ ?_ ?_;refine Bc (id := "str.find") ?_ ?_ ?_ ?_ ?_ ?_ ?_ ?_;exact Jx;exact AM;refine l_c ?_ ?_ ?_;refine AG ?_ ?_ ?_;exact A1 (.inl rfl) rfl rfl rfl;exact A1 (.inl rfl) rfl rfl rfl;exact fun z z=>rfl;exact A6;exact rfl;exact PySem.F.slot_str_find;exact PySem.F.type_str_find;exact rfl;exact rfl;exact rfl;exact A6;exact rfl;exact PySem.F.slot_list_append;exact PySem.F.type_list_append;exact rfl;exact rfl;exact rfl;exact rfl;exact rfl;exact A3;refine A0 ?_ ?_;refine Ap ?_ ?_ ?_;refine An (id := "list.append") ?_ ?_ ?_ ?_ ?_ ?_ ?_ ?_;exact Av;exact A1 (.inr (.inl rfl)) rfl rfl rfl;refine l_c ?_ ?_ ?_;refine Be ["part"] (m:=false) ?_ ?_ ?_ ?_ ?_ ?_;refine CA N.G ?_ ?_ ?_ N.range0 N.range1 ?_ ?_;exact Cs;refine l_c ?_ ?_ ?_;refine AN N.G (Ab N.x__law_parts) ?_ ?_ ?_ N.g__law_parts ?_ ?_;exact SoundF.le (Bq N) Lq;refine l_c ?_ ?_ ?_;refine AG ?_ ?_ ?_;exact A1 (.inl rfl) rfl rfl rfl;exact A1 (.inl rfl) rfl rfl rfl;exact fun z z=>rfl;exact A6;exact rfl;exact rfl;exact rfl;exact Ao rfl;exact A6;exact rfl;exact rfl;exact rfl;exact rfl;intro _ _;exact Ay rfl rfl;intro _ _;exact DU;intro _ _;refine An (id := "list.pop") ?_ ?_ ?_ ?_ ?_ ?_ ?_ ?_;exact Hx;exact A1 (.inr (.inl rfl)) rfl rfl rfl;exact A6;exact PySem.F.slot_list_pop;exact PySem.F.type_list_pop;exact rfl;exact rfl;exact rfl;exact rfl;exact fun z=>rfl;exact A6;exact rfl;exact PySem.F.slot_list_append;exact PySem.F.type_list_append;exact rfl;exact rfl;exact rfl;exact rfl;exact rfl;refine A0 ?_ ?_;refine Ap ?_ ?_ ?_;refine An (id := "list.append") ?_ ?_ ?_ ?_ ?_ ?_ ?_ ?_;exact Av;exact A1 (.inr (.inl rfl)) rfl rfl rfl;refine l_c ?_ ?_ ?_;refine AG ?_ ?_ ?_;exact A1 (.inl rfl) rfl rfl rfl;exact A1 (.inl rfl) rfl rfl rfl;exact fun z z=>rfl;exact A6;exact rfl;exact PySem.F.slot_list_append;exact PySem.F.type_list_append;exact rfl;exact rfl;exact rfl;exact rfl;exact rfl;refine A0 ?_ ?_;refine Ap ?_ ?_ ?_;refine An (id := "list.append") ?_ ?_ ?_ ?_ ?_ ?_ ?_ ?_;exact Av;exact A1 (.inr (.inl rfl)) rfl rfl rfl;refine l_c ?_ ?_ ?_;refine Ax ?_ ?_ ?_;exact GL;refine CB N.G ?_ ?_ ?_ N.len0 N.len1 ?_ ?_;exact E1;refine l_c ?_ ?_ ?_;exact A1 (.inr (.inl rfl)) rfl rfl rfl;exact A6;exact rfl;exact rfl;exact rfl;exact rfl;exact AF;exact A6;exact rfl;exact PySem.F.slot_list_append;exact PySem.F.type_list_append;exact rfl;exact rfl;exact rfl;exact rfl;exact rfl;exact A3;exact A3;exact fun z=>rfl;refine A0 ?_ ?_;refine Ap ?_ ?_ ?_;refine An (id := "list.append") ?_ ?_ ?_ ?_ ?_ ?_ ?_ ?_;exact Av;exact A1 (.inl rfl) rfl rfl rfl;refine l_c ?_ ?_ ?_;refine An (id := "list.pop") ?_ ?_ ?_ ?_ ?_ ?_ ?_ ?_;exact Hx;exact A1 (.inr (.inl rfl)) rfl rfl rfl;exact A6;exact PySem.F.slot_list_pop;exact PySem.F.type_list_pop;exact rfl;exact rfl;exact rfl;exact A6;exact rfl;exact PySem.F.slot_list_append;exact PySem.F.type_list_append;exact rfl;exact rfl;exact rfl;exact rfl;exact rfl;exact A3;exact fun z=>rfl;refine A0 ?_ ?_;refine A5 ?_ ?_ ?_ ?_;refine Be ["c"] (m:=false) ?_ ?_ ?_ ?_ ?_ ?_;refine CA N.G ?_ ?_ ?_ N.range0 N.range1 ?_ ?_;exact Cs;refine l_c ?_ ?_ ?_;refine CB N.G ?_ ?_ ?_ N.len0 N.len1 ?_ ?_;exact E1;refine l_c ?_ ?_ ?_;exact A1 (.inr (.inl rfl)) rfl rfl rfl;exact A6;exact rfl;exact rfl;exact rfl;exact rfl;exact A6;exact rfl;exact rfl;exact rfl;exact rfl;intro _ _;exact Ay rfl rfl;intro _ _;exact DU;intro _ _;exact A1 (.inl rfl) rfl rfl rfl;exact rfl;exact fun z=>rfl;exact .inr rfl;exact rfl;exact rfl;refine A0 ?_ ?_;refine A5 ?_ ?_ ?_ ?_;refine Be ["c"] (m:=true) ?_ ?_ ?_ ?_ ?_ ?_;exact A1 (.inr (.inl rfl)) rfl rfl rfl;intro _ _;exact Ay rfl rfl;intro _ _;exact DU;intro _ _;refine E2 ?_ ?_ ?_;refine AI ?_ ?_ ?_ ?_;exact LC;exact A1 (.inl rfl) rfl rfl rfl;exact AF;exact rfl;exact A1 (.inl rfl) rfl rfl rfl;refine I9 ?_;exact AF;exact rfl;exact fun z=>rfl;exact .inr rfl;exact rfl;exact rfl;refine A0 ?_ ?_;refine A5 ?_ ?_ ?_ ?_;refine AZ (m:=true) ?_;refine l_c ?_ ?_ ?_;refine Fw ?_;refine l_c ?_ ?_ ?_;refine AG ?_ ?_ ?_;exact A1 (.inl rfl) rfl rfl rfl;exact AF;exact fun z z=>rfl;refine l_c ?_ ?_ ?_;refine AG ?_ ?_ ?_;exact A1 (.inl rfl) rfl rfl rfl;exact AF;exact fun z z=>rfl;exact A6;exact rfl;exact rfl;exact A6;exact rfl;exact .inl rfl;exact rfl;exact rfl;refine A0 ?_ ?_;refine Ck ?_ ?_;refine AI ?_ ?_ ?_ ?_;exact FQ;exact A1 (.inl rfl) rfl rfl rfl;refine AZ ?_;exact A6;exact rfl;refine A0 ?_ ?_;refine IS ?_ ?_ ?_ ?_;refine An (id := "list.pop") ?_ ?_ ?_ ?_ ?_ ?_ ?_ ?_;exact Hx;exact A1 (.inl rfl) rfl rfl rfl;exact A6;exact PySem.F.slot_list_pop;exact PySem.F.type_list_pop;exact rfl;exact rfl;exact rfl;refine E6 ?_;refine Bz ?_ ?_ ?_;exact Al (.inr rfl) rfl;refine Bz ?_ ?_ ?_;exact Al (.inr rfl) rfl;exact FH;exact rfl;exact rfl;exact rfl;exact rfl;refine A0 ?_ ?_;refine A5 ?_ ?_ ?_ ?_;refine AG ?_ ?_ ?_;exact A1 (.inr (.inl rfl)) rfl rfl rfl;exact A1 (.inr (.inl rfl)) rfl rfl rfl;exact fun z z=>rfl;exact .inr rfl;exact rfl;exact rfl;refine A0 ?_ ?_;refine A5 ?_ ?_ ?_ ?_;refine AG ?_ ?_ ?_;exact A1 (.inr (.inl rfl)) rfl rfl rfl;exact A1 (.inr (.inl rfl)) rfl rfl rfl;exact fun z z=>rfl;exact .inr rfl;exact rfl;exact rfl;refine A0 ?_ ?_;refine Ar ?_ ?_ ?_;refine AI ?_ ?_ ?_ ?_;exact FQ;exact A1 (.inr (.inl rfl)) rfl rfl rfl;exact A1 (.inr (.inl rfl)) rfl rfl rfl;exact rfl;refine A0 ?_ ?_;refine A5 ?_ ?_ ?_ ?_;refine Be ["c"] (m:=false) ?_ ?_ ?_ ?_ ?_ ?_;exact A1 (.inr (.inl rfl)) rfl rfl rfl;intro _ _;exact Ay rfl rfl;intro _ _;exact DU;intro _ _;refine E2 ?_ ?_ ?_;refine AI ?_ ?_ ?_ ?_;exact CY;exact A1 (.inl rfl) rfl rfl rfl;exact A1 (.inr (.inl rfl)) rfl rfl rfl;exact rfl;exact A1 (.inr (.inl rfl)) rfl rfl rfl;exact A1 (.inl rfl) rfl rfl rfl;exact rfl;exact fun z=>rfl;exact .inr rfl;exact rfl;exact rfl;refine A0 ?_ ?_;refine Ar ?_ ?_ ?_;refine AI ?_ ?_ ?_ ?_;exact O4;refine AG ?_ ?_ ?_;exact A1 (.inr (.inl rfl)) rfl rfl rfl;exact A1 (.inr (.inl rfl)) rfl rfl rfl;exact fun z z=>rfl;exact AF;exact rfl;refine A0 ?_ ?_;refine M0 ?_ ?_ ?_ ?_;refine AG ?_ ?_ ?_;exact A1 (.inr (.inl rfl)) rfl rfl rfl;exact A1 (.inr (.inl rfl)) rfl rfl rfl;exact fun z z=>rfl;exact A1 (.inr (.inl rfl)) rfl rfl rfl;exact A1 (.inr (.inl rfl)) rfl rfl rfl;exact rfl;exact A3;refine A0 ?_ ?_;refine Ar ?_ ?_ ?_;refine AI ?_ ?_ ?_ ?_;exact O7;refine AG ?_ ?_ ?_;exact A1 (.inr (.inl rfl)) rfl rfl rfl;exact A1 (.inr (.inl rfl)) rfl rfl rfl;exact fun z z=>rfl;exact AF;exact rfl;refine A0 ?_ ?_;refine Ar ?_ ?_ ?_;refine AI ?_ ?_ ?_ ?_;exact FQ;refine AG ?_ ?_ ?_;exact A1 (.inr (.inl rfl)) rfl rfl rfl;refine AG ?_ ?_ ?_;exact A1 (.inr (.inl rfl)) rfl rfl rfl;exact A1 (.inr (.inl rfl)) rfl rfl rfl;exact fun z z=>rfl;exact fun z z=>rfl;refine AG ?_ ?_ ?_;exact A1 (.inr (.inl rfl)) rfl rfl rfl;refine AG ?_ ?_ ?_;exact A1 (.inr (.inl rfl)) rfl rfl rfl;exact A1 (.inr (.inl rfl)) rfl rfl rfl;exact fun z z=>rfl;exact fun z z=>rfl;exact rfl;refine A0 ?_ ?_;refine Ag ?_;exact Bi;exact A3;exact A3;refine A0 ?_ ?_;refine CJ ?_ ?_ ?_ ?_;exact B7;refine Iu N.G ?_ ?_ ?_ N.list0 N.list1 N.zip0 N.zip1 ?_ ?_;refine l_c ?_ ?_ ?_;refine AG ?_ ?_ ?_;exact A1 (.inr (.inl rfl)) rfl rfl rfl;refine AG ?_ ?_ ?_;exact A1 (.inr (.inl rfl)) rfl rfl rfl;exact A1 (.inr (.inl rfl)) rfl rfl rfl;exact fun z z=>rfl;exact fun z z=>rfl;refine l_c ?_ ?_ ?_;refine AG ?_ ?_ ?_;exact A1 (.inr (.inl rfl)) rfl rfl rfl;refine AG ?_ ?_ ?_;exact A1 (.inr (.inl rfl)) rfl rfl rfl;exact A1 (.inr (.inl rfl)) rfl rfl rfl;exact fun z z=>rfl;exact fun z z=>rfl;exact A6;exact rfl;exact rfl;exact rfl;exact rfl;exact rfl;exact rfl;exact .inl rfl;exact rfl;exact A3;exact A3;exact A3;exact A3;exact A3;exact A3;refine A0 ?_ ?_;refine A5 ?_ ?_ ?_ ?_;refine Be ["c"] (m:=true) ?_ ?_ ?_ ?_ ?_ ?_;refine CA N.G ?_ ?_ ?_ N.range0 N.range1 ?_ ?_;exact Cs;refine l_c ?_ ?_ ?_;refine CB N.G ?_ ?_ ?_ N.len0 N.len1 ?_ ?_;exact E1;refine l_c ?_ ?_ ?_;exact A1 (.inr (.inl rfl)) rfl rfl rfl;exact A6;exact rfl;exact rfl;exact rfl;exact rfl;exact A6;exact rfl;exact rfl;exact rfl;exact rfl;intro _ _;exact Ay rfl rfl;intro _ _;exact DU;intro _ _;refine E2 ?_ ?_ ?_;refine AI ?_ ?_ ?_ ?_;exact O4;refine AG ?_ ?_ ?_;exact A1 (.inr (.inl rfl)) rfl rfl rfl;exact A1 (.inl rfl) rfl rfl rfl;exact fun z z=>rfl;exact AF;exact rfl;refine AG ?_ ?_ ?_;exact A1 (.inr (.inl rfl)) rfl rfl rfl;exact A1 (.inl rfl) rfl rfl rfl;exact fun z z=>rfl;exact AM;exact rfl;exact fun z=>rfl;exact .inr rfl;exact rfl;exact rfl;refine A0 ?_ ?_;refine FU ["c"] (m:=false) ?_ ?_ ?_ ?_ ?_ ?_ ?_ ?_ ?_;refine CA N.G ?_ ?_ ?_ N.range0 N.range1 ?_ ?_;exact Cs;refine l_c ?_ ?_ ?_;refine CB N.G ?_ ?_ ?_ N.len0 N.len1 ?_ ?_;exact E1;refine l_c ?_ ?_ ?_;exact A1 (.inr (.inl rfl)) rfl rfl rfl;exact A6;exact rfl;exact rfl;exact rfl;exact rfl;exact A6;exact rfl;exact rfl;exact rfl;exact rfl;intro _ _;exact Ay rfl rfl;intro _ _;refine I6 ?_;refine Oe ?_ ?_;refine AI ?_ ?_ ?_ ?_;exact CY;refine AG ?_ ?_ ?_;exact A1 (.inr (.inl rfl)) rfl rfl rfl;exact A1 (.inl rfl) rfl rfl rfl;exact fun z z=>rfl;exact A1 (.inl rfl) rfl rfl rfl;exact rfl;refine AI ?_ ?_ ?_ ?_;exact O7;refine AG ?_ ?_ ?_;exact A1 (.inr (.inl rfl)) rfl rfl rfl;exact A1 (.inl rfl) rfl rfl rfl;exact fun z z=>rfl;exact AF;exact rfl;intro _ _;exact A1 (.inl rfl) rfl rfl rfl;exact rfl;exact fun z=>rfl;exact rfl;exact rfl;exact rfl;refine A0 ?_ ?_;refine A5 ?_ ?_ ?_ ?_;exact A1 (.inl rfl) rfl rfl rfl;exact .inr rfl;exact rfl;exact rfl;refine A0 ?_ ?_;refine Ck ?_ ?_;refine AI ?_ ?_ ?_ ?_;exact FQ;exact A1 (.inr (.inl rfl)) rfl rfl rfl;refine AZ ?_;exact A6;exact rfl;refine A0 ?_ ?_;refine A5 ?_ ?_ ?_ ?_;refine Be ["c"] (m:=false) ?_ ?_ ?_ ?_ ?_ ?_;exact A1 (.inl rfl) rfl rfl rfl;intro _ _;exact Ay rfl rfl;intro _ _;refine I6 ?_;refine AI ?_ ?_ ?_ ?_;exact EA;exact AM;refine Be ["part"] (m:=false) ?_ ?_ ?_ ?_ ?_ ?_;refine AG ?_ ?_ ?_;exact A1 (.inr (.inl rfl)) rfl rfl rfl;refine AG ?_ ?_ ?_;exact A1 (.inr (.inl rfl)) rfl rfl rfl;exact A1 (.inl rfl) rfl rfl rfl;exact fun z z=>rfl;exact fun z z=>rfl;intro _ _;exact Ay rfl rfl;intro _ _;exact DU;intro _ _;refine AG ?_ ?_ ?_;exact A1 (.inr (.inl rfl)) rfl rfl rfl;refine AG ?_ ?_ ?_;exact A1 (.inr (.inl rfl)) rfl rfl rfl;exact A1 (.inl rfl) rfl rfl rfl;exact fun z z=>rfl;exact fun z z=>rfl;exact rfl;exact fun z=>rfl;exact rfl;intro _ _;exact A1 (.inl rfl) rfl rfl rfl;exact rfl;exact fun z=>rfl;exact .inr rfl;exact rfl;exact rfl;refine A0 ?_ ?_;refine DL ?_ ?_ ?_ ?_;exact Al (.inl rfl) rfl;exact A1 (.inr (.inl rfl)) rfl rfl rfl;refine A0 ?_ ?_;refine M0 ?_ ?_ ?_ ?_;refine Ax ?_ ?_ ?_;exact Cy;refine AG ?_ ?_ ?_;exact A1 (.inr (.inl rfl)) rfl rfl rfl;refine AG ?_ ?_ ?_;exact A1 (.inr (.inl rfl)) rfl rfl rfl;exact A1 (.inl rfl) rfl rfl rfl;exact fun z z=>rfl;exact fun z z=>rfl;refine Bc (id := "str.join") ?_ ?_ ?_ ?_ ?_ ?_ ?_ ?_;exact Fk;exact AM;refine l_c ?_ ?_ ?_;refine Be ["part"] (m:=false) ?_ ?_ ?_ ?_ ?_ ?_;refine AG ?_ ?_ ?_;exact A1 (.inr (.inl rfl)) rfl rfl rfl;refine AG ?_ ?_ ?_;exact A1 (.inr (.inl rfl)) rfl rfl rfl;exact A1 (.inl rfl) rfl rfl rfl;exact fun z z=>rfl;exact fun z z=>rfl;intro _ _;exact Ay rfl rfl;intro _ _;exact DU;intro _ _;refine AG ?_ ?_ ?_;exact A1 (.inr (.inl rfl)) rfl rfl rfl;refine AG ?_ ?_ ?_;exact A1 (.inr (.inl rfl)) rfl rfl rfl;exact A1 (.inl rfl) rfl rfl rfl;exact fun z z=>rfl;exact fun z z=>rfl;exact rfl;exact fun z=>rfl;exact A6;exact rfl;exact PySem.F.slot_str_join;exact PySem.F.type_str_join;exact rfl;exact rfl;exact rfl;exact A1 (.inr (.inl rfl)) rfl rfl rfl;exact A1 (.inl rfl) rfl rfl rfl;exact rfl;exact A3;exact fun z=>rfl;refine A0 ?_ ?_;refine FU ["c"] (m:=false) ?_ ?_ ?_ ?_ ?_ ?_ ?_ ?_ ?_;exact A1 (.inl rfl) rfl rfl rfl;intro _ _;exact Ay rfl rfl;intro _ _;refine I6 ?_;refine AI ?_ ?_ ?_ ?_;exact EA;exact A1 (.inl rfl) rfl rfl rfl;exact A1 (.inr (.inl rfl)) rfl rfl rfl;exact rfl;intro _ _;exact A1 (.inl rfl) rfl rfl rfl;exact rfl;exact fun z=>rfl;exact rfl;exact rfl;exact rfl;exact A3;refine A0 ?_ ?_;refine Ar ?_ ?_ ?_;refine AI ?_ ?_ ?_ ?_;exact CY;refine AG ?_ ?_ ?_;exact A1 (.inr (.inl rfl)) rfl rfl rfl;refine AG ?_ ?_ ?_;exact A1 (.inr (.inl rfl)) rfl rfl rfl;refine AG ?_ ?_ ?_;exact A1 (.inl rfl) rfl rfl rfl;exact AF;exact fun z z=>rfl;exact fun z z=>rfl;exact fun z z=>rfl;exact AM;exact rfl;refine A0 ?_ ?_;refine Ag ?_;exact Bi;exact A3;exact A3;refine A0 ?_ ?_;refine Ag ?_;refine AN N.G (Ab N.x__law_named) ?_ ?_ ?_ N.g__law_named ?_ ?_;exact SoundF.le (De N) Lq;refine l_c ?_ ?_ ?_;refine AG ?_ ?_ ?_;exact A1 (.inr (.inl rfl)) rfl rfl rfl;refine AG ?_ ?_ ?_;exact A1 (.inr (.inl rfl)) rfl rfl rfl;refine AG ?_ ?_ ?_;exact A1 (.inl rfl) rfl rfl rfl;exact AF;exact fun z z=>rfl;exact fun z z=>rfl;exact fun z z=>rfl;exact A6;exact rfl;exact rfl;exact rfl;exact Ao rfl;exact A3
def DE:FT:=runFn false (bPlain 1) 15 D7
theorem HX(N:S3 K Kf mg mb):SoundF K 2 (.ref 294) ([]:List Str) DE:=by
 obtain⟨fd,X,hd,hk⟩:=N.x__law_due
 exact Bj (rest:=(["signs", "parts", "tops", "term", "pile", "k", "of", "head", "todo", "a", "b", "told", "left", "ready", "c"]:List Str)) (kn:=([]:List Str)) N.G X (B6 (ps:=(["terms"]:List Str)) (fun ras h=>by rw[B0 hd hk];obtain⟨a0,rfl⟩:=len1 h;rfl)) (by decide) (kindsOk rfl) (noFree rfl) (fun L=>Go N fd)
def Dm:XS:=(sCons (sWhile (bVal (xVar 1)) (sCons (sAssign 0 (xMethS mJoin (xBin opItem (xVar 1) (cI 1)) (lCons (xMethS mSplit (xVar 0) (lCons (xBin opItem (xVar 1) (cI 0)) lNil)) lNil)))
 (sCons (sAssign 1 (xSlice (xVar 1) (pSome (cI 2)) pNone))
 sNil)))
 (sCons (sRet (xVar 0))
 sNil))
theorem IL(N:S3 K Kf mg mb)(fd:FuncData){a L:Addr}:SoundSs K 0 (callEnvC (fdOf (stAt 5) fd) L a) (lk ((["text", "pairs"]:List Str)++([]:List Str))) (fBody (stAt 5)) Dm:=by
 conv=>arg 5;whnf
 refine A0 ?_ ?_;refine Ck ?_ ?_;refine Ed ?_ ?_;exact A1 (.inl rfl) rfl rfl rfl;exact fun z=>rfl;refine A0 ?_ ?_;refine A5 ?_ ?_ ?_ ?_;refine Bc (id := "str.join") ?_ ?_ ?_ ?_ ?_ ?_ ?_ ?_;exact Fk;refine AG ?_ ?_ ?_;exact A1 (.inl rfl) rfl rfl rfl;exact AF;exact fun z z=>rfl;refine l_c ?_ ?_ ?_;refine Bc (id := "str.split") ?_ ?_ ?_ ?_ ?_ ?_ ?_ ?_;exact LO;exact A1 (.inl rfl) rfl rfl rfl;refine l_c ?_ ?_ ?_;refine AG ?_ ?_ ?_;exact A1 (.inl rfl) rfl rfl rfl;exact AF;exact fun z z=>rfl;exact A6;exact rfl;exact PySem.F.slot_str_split;exact PySem.F.type_str_split;exact rfl;exact rfl;exact rfl;exact A6;exact rfl;exact PySem.F.slot_str_join;exact PySem.F.type_str_join;exact rfl;exact rfl;exact rfl;exact .inl rfl;exact rfl;exact rfl;refine A0 ?_ ?_;refine A5 ?_ ?_ ?_ ?_;refine Da ?_ ?_ ?_;exact A1 (.inl rfl) rfl rfl rfl;refine EM ?_;exact AF;exact EN;exact .inl rfl;exact rfl;exact rfl;exact A3;refine A0 ?_ ?_;refine Ag ?_;exact A1 (.inl rfl) rfl rfl rfl;exact A3
def AU:FT:=runFn false bStar 0 Dm
theorem Bt(N:S3 K Kf mg mb):SoundF K 1 (.ref 87) ([]:List Str) AU:=by
 obtain⟨fd,X,hd,hk⟩:=N.x_replace
 exact Bj (rest:=([]:List Str)) (kn:=([]:List Str)) N.G X (Nb (fun a rest=>by rw[B0 hd hk];cases rest<;>rfl)) (by decide) (kindsOk rfl) (noFree rfl) (fun L=>IL N fd)
end Mine
namespace Mine
open PySem PySem.Spec PySem.Calls PyProof.Rows
theorem OT{K:KX}{mg mb:Str→Option Value}(G:KG K mg mb){r:Nat}{a:Addr}{fd:FuncData}{body:List Stmt}(X:FnAt K a fd body){ps rest:List Str}{n:Nat}
  (nd:ps.Nodup) (hkind:∀ x∈ps,fd.scope.names.lookup x=some .local∨fd.scope.names.lookup x=some .cell) (hfree:∀ x,fd.scope.names.lookup x≠some .free)
  {A:Around} (ok:OkA (r+1) A) {ρ₀ ρ:Rho} {hp₀ hp:List O} {s₀ s:Shared} {vas:List V} {ras:List Value} {args:Args} {E:Value→Shared→Prop} {Post:Value→Shared→Prop} (H₀:HRel K ρ₀ hp₀ s₀.heap) (H:HRel K ρ hp s.heap) (R:VRs ρ s.heap vas ras) (hl:ras.length=ps.length) (hbinds:∀ (A:Around) (E:Value→Shared→Prop) (Q:List (Str×Value)→Shared→Prop),A.handled=none→Q (ps.zip ras) s→wpAny (model K.prog K.w) A (bindArgs fd args) Q E s₀)
  (hbody:∀ h₂ t₂ A' E',OkA r A'→FRel K (callEnvC fd s.heap.objs.size a) (lk (ps++rest)) (vas.map some++List.replicate n none) ρ h₂→HRel K ρ hp h₂→Step K ρ s.heap ρ h₂ →
   (∀ b o,s.heap.get? b=some o→¬ Place (callEnvC fd s.heap.objs.size a) b) →
   wpAny (model K.prog K.w) A' (execs body (callEnvC fd s.heap.objs.size a)) (fun fl s'=>(fl = .next∧Post .none s')∨∃ rv,fl = .ret rv∧Post rv s') E' { s with heap:=h₂,toks:=t₂ }) :
  codeAny (model K.prog K.w) A (.call (.ref a) args) (fun r s'=>match r with | .ok (.ret v)=>Post v s' | .ok _=>False | .error e=>E e s') s₀:=by
 obtain⟨o,ho,hd⟩:=X.ob
 refine codeAny_call_function (fd:=fd) (by have:=ok.dp;lia) (H₀.keep _ _ ho X.tb) hd X.co X.gen X.bd ?_ ?_
 ·obtain⟨c,oc,vs,t,e1,e2,e3,e4,e5⟩:=X.code
  exact⟨c,oc,vs,t,e1,H₀.keep _ _ e2 e5,e3,e4⟩
 refine hbinds _ _ _ (by exact ok.hh) (HQ G X nd hkind hfree ok H R hl fun h₂ t₂ A' E' ok' F H₂ S₂ np=>wpAny_mono (hbody h₂ t₂ A' E' ok' F H₂ S₂ np) ?_ (fun z z x=>x))
 rintro fl s₃ (⟨rfl,p⟩ | ⟨rv,rfl,p⟩)<;>exact p
theorem MA{K:KX}{mg mb:Str→Option Value}(G:KG K mg mb){r:Nat}{a:Addr}{fd:FuncData}{body:List Stmt}(X:FnAt K a fd body){ps rest:List Str}{n:Nat}
  (nd:ps.Nodup) (hkind:∀ x∈ps,fd.scope.names.lookup x=some .local∨fd.scope.names.lookup x=some .cell) (hfree:∀ x,fd.scope.names.lookup x≠some .free)
  {A:Around} (ok:OkA (r+1) A) {ρ:Rho} {hp:List O} {s:Shared} {vas:List V} {ras ras0:List Value} {E:Value→Shared→Prop} {Post:Value→Shared→Prop} (H:HRel K ρ hp s.heap) (R:VRs ρ s.heap vas ras) (hl:ras.length=ps.length) (hbinds:BindsTo s fd ⟨ras0,[]⟩ (ps.zip ras))
  (hbody:∀ h₂ t₂ A' E',OkA r A'→FRel K (callEnvC fd s.heap.objs.size a) (lk (ps++rest)) (vas.map some++List.replicate n none) ρ h₂→HRel K ρ hp h₂→Step K ρ s.heap ρ h₂ →
   (∀ b o,s.heap.get? b=some o→¬ Place (callEnvC fd s.heap.objs.size a) b) →
   wpAny (model K.prog K.w) A' (execs body (callEnvC fd s.heap.objs.size a)) (fun fl s'=>(fl = .next∧Post .none s')∨∃ rv,fl = .ret rv∧Post rv s') E' { s with heap:=h₂,toks:=t₂ }) :
  codeAny (model K.prog K.w) A (.call (.ref a) ⟨ras0,[]⟩) (fun r s'=>match r with | .ok (.ret v)=>Post v s' | .ok _=>False | .error e=>E e s') s :=
 OT G X nd hkind hfree ok H H R hl (fun A E Q z q=>hbinds _ A E Q q) hbody
noncomputable def flipI(n i:Nat):Nat:=if i=n then n+1 else if i=n+1 then n else i
noncomputable def flipV(n:Nat):V→V | .r i=>.r (flipI n i) | v=>v
theorem KI{α:Type}{ρ:List α}{p q x:α}{i:Nat}(e:(ρ++[p,q])[i]?=some x):(ρ++[q,p])[flipI ρ.length i]?=some x:=by
 unfold flipI
 by_cases h1:i<ρ.length
 ·rw[if_neg (Nl h1),if_neg (by lia),List.getElem?_append_left h1]
  rwa[List.getElem?_append_left h1] at e
 ·rw[List.getElem?_append_right (by lia)] at e
  by_cases h2:i=ρ.length
  ·subst h2
   rw[if_pos rfl,List.getElem?_append_right Lr]
   simp at e ⊢
   exact e
  ·rw[if_neg h2]
   have h3:i=ρ.length+1:=by
    have:=(List.getElem?_eq_some_iff.mp e).1
    simp at this;lia
   subst h3
   rw[if_pos rfl]
   simp at e ⊢
   exact e
theorem GX{n i:Nat}(h:i<n):flipI n i=i:=by unfold flipI;rw[if_neg (Nl h),if_neg (by lia)]
theorem mem_flip{α:Type}{ρ:List α}{p q x:α}:x∈ρ++[q,p]↔x∈ρ++[p,q]:=by simp only[List.mem_append,List.mem_cons,List.not_mem_nil,or_false];constructor<;>(rintro(h | h | h)<;>simp[h])
theorem mu_flip{ρ:Rho}{p q:P}{a:Addr}:a∈mu (ρ++[q,p])↔a∈mu (ρ++[p,q]):=by simp only[mu,List.map_append,List.map_cons,List.map_nil];exact mem_flip
theorem VR.flip{ρ:Rho}{p q:P}{h:Heap}{v:V}{rv:Value}(x:VR (ρ++[p,q]) h v rv):VR (ρ++[q,p]) h (flipV ρ.length v) rv:=by
 cases v with
 | d y=>exact DR.mono (fun a o vs n e hd hm=>⟨e,fun z=>hm (mu_flip.mp z)⟩) x
 | r i=>obtain⟨pp,e,rfl⟩:=x;exact⟨pp,KI e,rfl⟩
 | rng a b c=>obtain⟨qq,t,u,w,rfl,e1,hm⟩:=x;exact⟨qq,t,u,w,rfl,e1,fun z=>hm (mu_flip.mp z)⟩
 | g v=>exact x
theorem FRel.flip{K:KX}{env:Env}{look:Str→Option Nat}{vs:List (Option V)}{ρ:Rho}{p q:P}{h:Heap}(F:FRel K env look vs (ρ++[p,q]) h):FRel K env look (vs.map fun x=>x.map (flipV ρ.length)) (ρ++[q,p]) h:=by
 have key:∀ {k:Nat} {v:V},(vs.map fun x=>x.map (flipV ρ.length))[k]?=some (some v)→∃ u,vs[k]?=some (some u)∧v=flipV ρ.length u:=by
  intro k v e
  rw[List.getElem?_map] at e
  cases hq:vs[k]? with
  | none=>rw[hq] at e;cases e
  | some w =>
   rw[hq] at e
   cases w with
   | none=>simp at e
   | some u=>simp at e;exact⟨u,rfl,e.symm⟩
 refine⟨F.kd,F.gl,F.bi,F.lb,fun x hx=>F.lo x (mem_flip.mp hx),?_,?_,F.ci,F.ij⟩
 ·obtain⟨m,nn,f⟩:=F.ns
  refine⟨m,nn,fun x k v hx hl e=>?_⟩
  obtain⟨u,e1,rfl⟩:=key e
  obtain⟨rv,f1,f2⟩:=f x k u hx hl e1
  exact⟨rv,f1,f2.flip⟩
 ·intro x hx
  obtain⟨c,o,ov,a1,a2,a3,a4,a5,a6⟩:=F.cl x hx
  refine⟨c,o,ov,a1,a2,fun y hy=>a3 y (mem_flip.mp hy),a4,a5,fun k v hl e=>?_⟩
  obtain⟨u,e1,rfl⟩:=key e
  obtain⟨rv,f1,f2⟩:=a6 k u hl e1
  exact⟨rv,f1,f2.flip⟩
theorem HRel.flip{K:KX}{ρ:Rho}{p q:P}{h:Heap}{hp:List O}{C:Addr}{fs:List (Nat×V)}{l:List PyData}(H:HRel K (ρ++[p,q]) (hp++[.inst C fs,.lst l]) h)(hl:ρ.length=hp.length):HRel K (ρ++[q,p]) (hp++[.lst l,.inst C fs]) h:=by
 have hV:∀ {v:V} {rv:Value} {i:Nat},i≤ρ.length→(∀ j,v = .r j→j<i)→VR (ρ++[p,q]) h v rv→VR (ρ++[q,p]) h v rv:=by
  intro v rv i hi hj x
  have:=x.flip
  cases v with
  | r j =>
   have e:flipV ρ.length (.r j) = .r j:=by show V.r (flipI _ _)=_;rw[GX (Nat.lt_of_lt_of_le (hj j rfl) hi)]
   rw[e] at this;exact this
  | _=>exact this
 have hD:∀ {vs:List Value} {xs:List PyData},DRs h (mu (ρ++[p,q])) vs xs→DRs h (mu (ρ++[q,p])) vs xs:=fun d=>d.mono fun a o vs n e hd hm=>⟨e,fun z=>hm (mu_flip.mp z)⟩
 refine⟨H.tbd,H.keepG,H.tab,by simp[hl],?_,fun x hx=>H.hi x (mem_flip.mp hx),fun x hx a ha=>⟨fun z=>(H.fx x (mem_flip.mp hx) a ha).1 (mu_flip.mp z),(H.fx x (mem_flip.mp hx) a ha).2⟩,fun x hx=>H.lt x (mem_flip.mp hx),?_⟩
 ·have:=H.nd
  simp only[mu,List.map_append,List.map_cons,List.map_nil] at this ⊢
  rw[List.nodup_append] at this ⊢
  obtain⟨a,b,c⟩:=this
  refine⟨a,by simp at b ⊢;exact fun e=>b e.symm,fun x hx y hy=>c x hx y ?_⟩
  simp only[List.mem_cons,List.not_mem_nil,or_false] at hy ⊢
  exact hy.symm
 ·intro i oi pi e e'
  by_cases hi:i<hp.length
  ·rw[List.getElem?_append_left hi] at e
   have hi':i<ρ.length:=Tt hi (Qr hl)
   have e2:(ρ++[p,q])[i]?=some pi:=by rw[List.getElem?_append_left hi'] at e' ⊢;exact e'
   have r:=H.ob i oi pi (A8 e _) e2
   cases oi with
   | lst l=>obtain⟨a,vs,n,h1,h4⟩:=r;exact⟨a,vs,n,h1,hD h4⟩
   | inst c fs =>
    obtain⟨o,od,m,h1,h2,h3,h4,h5,h7,h8,h9,h10,h11⟩:=r
    refine⟨o,od,m,h1,h2,h3,h4,h5,h7,h8,h9,?_,h11⟩
    intro k x hx
    have q':=h10 k x hx
    revert q'
    cases fs.lookup k with
    | none=>exact id
    | some v=>rintro⟨⟨rv,q1,q2⟩,q3,q4⟩;exact⟨⟨rv,q1,hV (Nat.le_of_lt hi') q3 q2⟩,q3,q4⟩
   | stream l=>obtain⟨d,X,f1,f4⟩:=r;exact⟨d,X,f1,hD f4⟩
   | edict=>exact r
   | own=>exact r
   | dict1=>exact r
   | citer c =>
    obtain⟨e,o,vs,h1,h2,h3,h4⟩:=r
    refine⟨e,o,vs,h1,h2,h3,?_⟩
    cases c with
    | none=>exact h4
    | some j =>
     refine viaP fun w zf=>?_
     obtain⟨hj,M,t',q',q1,q2,q4,q6⟩:=h4
     refine zf ?_
     exact⟨hj,M,t',q',q1,q2,q4,by rw[List.getElem?_append_left (Tl hj (Tt hi (Qr hl)))] at q6 ⊢;exact q6⟩
  ·rw[List.getElem?_append_right (by lia)] at e
   have h2:i=hp.length∨i=hp.length+1:=by
    have:=(List.getElem?_eq_some_iff.mp e).1
    simp at this;lia
   rw[List.getElem?_append_right (by lia)] at e'
   rcases h2 with rfl | rfl
   ·simp[hl] at e e'
    subst e;subst e'
    have r:=H.ob (hp.length+1) (.lst l) q (by simp) (by rw[← hl];simp)
    obtain⟨a,vs,n,h1,h4⟩:=r
    exact⟨a,vs,n,h1,hD h4⟩
   ·simp[hl] at e e'
    subst e;subst e'
    have r:=H.ob hp.length (.inst C fs) p (by simp) (by rw[← hl];simp)
    refine viaP fun w zf=>?_
    obtain⟨o,od,m,h1,h2,h3,h4,h5,h7,h8,h9,h10,h11⟩:=r
    refine zf ?_
    refine⟨o,od,m,h1,h2,h3,h4,h5,h7,h8,h9,fun k x hx=>?_,h11⟩
    have q':=h10 k x hx
    revert q'
    cases fs.lookup k with
    | none=>exact id
    | some v=>rintro⟨⟨rv,q1,q2⟩,q3,q4⟩;exact⟨⟨rv,q1,hV (Nat.le_of_eq hl.symm) q3 q2⟩,fun j e=>Nat.lt_succ_of_lt (q3 j e),q4⟩
def DF:FT:=fun vas Q hp=>vas=[]∧Q (.r (hp.length+1)) (hp++[.lst [],.inst 231 [(0,.r hp.length)]])
theorem JB{n:Nat}{hp:List O}{Q:QS}(q:Q .next [some (.r n),some (.r hp.length),none,none] (hp++[.lst []])) :
  BP [some (.r n),some (.d .none),none,none] Q hp:=by
 show(match datas [] with | some xs=>xs.length≤sizeLine∧mkL true xs _ _ | none=>False)
 exact⟨by simp[sizeLine_eq],q⟩
theorem HN{α:Type}{l:List α}{a b:α}:(l++[a,b])[l.length]?=some a:=by simp
theorem Fs{α:Type}{l:List α}{a b:α}:(l++[a,b])[l.length+1]?=some b:=by simp
theorem JN{α:Type}{l:List α}{a b c:α}:(l++[a,b]).set (l.length+1) c=l++[a,c]:=by
 rw[List.set_append_right _ _ Lr];simp
theorem JA{hp:List O}{Q:QS}(q:Q .next [some (.r (hp.length+1)),some (.r hp.length),none,none] (hp++[.lst [],.inst 231 [(0,.r hp.length)]])) :
  At [some (.r (hp.length+1)),some (.r hp.length),none,none] Q (hp++[.lst [],.inst 231 []]):=by
 unfold At sCons sIf
 simp only[bCmp,xCall,lCons,lNil,xVar,xG,List.getElem?_cons_zero,List.getElem?_cons_succ]
 unfold fType
 have e1:dget (.r hp.length) (hp++[.lst [],.inst 231 []])=some (.list []):=by unfold dget;simp
 dsimp only[tyOf]
 rw[e1]
 dsimp only[opIsT,tyV,truthV,sNil]
 simp only[if_true,show((Value.type "list" == Value.type "list"))=true from by decide,Bool.not_true]
 simp only[sSetF,xVar,List.getElem?_cons_zero,List.getElem?_cons_succ]
 unfold setF atI
 simp only[Fs,JN]
 refine⟨trivial,Nat.lt_succ_self _,?_⟩
 dsimp only[bVal,cB,truthV,sFor,xVar,List.getElem?_cons_zero,List.getElem?_cons_succ]
 unfold iterV
 simp only[putFs,List.filter_nil,HN]
 exact⟨HN,q⟩
theorem Step.flip{K:KX}{ρ:Rho}{p q:P}{h h':Heap}(S:Step K ρ h (ρ++[p,q]) h'):Step K ρ h (ρ++[q,p]) h' :=
 ⟨List.prefix_append _ _,fun x hx=>S.new x (mem_flip.mp hx),S.keep,S.dom⟩
theorem StepS.full{K:KX}{env:Env}{ρ ρ':Rho}{h h₂ h':Heap}(S₂:Step K ρ h ρ h₂)(S:StepS K env ρ h₂ ρ' h')(np:∀ b o,h.get? b=some o→¬ Place env b):Step K ρ h ρ' h':=by
 have T:=S₂.toS (env:=env) |>.trans S
 exact⟨T.pre,T.new,fun b o e hb hm=>T.keep b o e hb hm (np b o e),T.dom⟩
theorem G9{K:KX}{ρ ρ₁:Rho}{hp:List O}{a b:O}{h:Heap}{p:P}(H:HRel K ρ₁ (hp++[a,b]) h)(hl:ρ.length=hp.length)(hpre:ρ++[p] <+: ρ₁):∃ q,ρ₁=ρ++[p,q]:=by
 obtain⟨t,rfl⟩:=hpre
 have:=H.len
 simp only[List.length_append,List.length_cons,List.length_nil,hl] at this
 obtain⟨q,rfl⟩:=List.length_eq_one_iff.mp (by lia:t.length=1)
 exact⟨q,by simp⟩
theorem GQ{K:KX}{ρ:Rho}{hp:List O}{h:Heap}(C:Addr)(H:HRel K ρ hp h):∃ pi:P,pi.a=h.objs.size+1∧(∀ b o,h.get? b=some o→((h.push W.emptyDict).push (W.instObj C h.objs.size)).get? b=some o) ∧
  HRel K (ρ++[pi]) (hp++[.inst C []]) ((h.push W.emptyDict).push (W.instObj C h.objs.size))∧Step K ρ h (ρ++[pi]) ((h.push W.emptyDict).push (W.instObj C h.objs.size)):=by
 have keep:∀ b o,h.get? b=some o→((h.push W.emptyDict).push (W.instObj C h.objs.size)).get? b=some o:=fun b o e=>Heap.get?_push_of_some _ (Heap.get?_push_of_some _ e)
 have gx:((h.push W.emptyDict).push (W.instObj C h.objs.size)).get? (h.objs.size+1)=some (W.instObj C h.objs.size):=by
  have:=Heap.get?_push_size (o:=W.instObj C h.objs.size) (h.push W.emptyDict) rfl
  rwa[Heap.size_push] at this
 have gd:((h.push W.emptyDict).push (W.instObj C h.objs.size)).get? h.objs.size=some W.emptyDict:=Heap.get?_push_of_some _ (Heap.get?_push_size _ rfl)
 obtain⟨H',S'⟩:=H.add keep (p:=⟨h.objs.size+1,h.objs.size,[h.objs.size+1]⟩) (o:=.inst C []) (AA (Nat.le_refl _)) ⟨_,gd⟩ (by
   intro a ha
   rw[List.mem_singleton.mp ha]
   exact⟨AA (Nat.le_succ _),⟨_,gx⟩,Nat.succ_ne_self _⟩) (by
   refine⟨_,_,fun z=>none,gx,rfl,rfl,rfl,by simp,gd,rfl,⟨_,#[],0,gd,rfl,(fun e he=>by simp at he),(by unfold UniqKeys;simp),fun z=>rfl⟩,?_,fun z z=>rfl⟩
   intro k x hx
   rfl)
 exact⟨_,rfl,keep,H',S'⟩
theorem G8{A:Around}(C:Addr)(ras:List Value)(ok:OkA 3 A):OkA 2 (A.under (.builtin "type.__call__" ⟨.ref C::ras,([]:List Str).zip []⟩)):=by
 refine⟨ok.hh,?_,?_⟩
 ·have:=ok.dp
  rw[W.depth_under_kw A C ras (([]:List Str).zip [])];lia
 ·have:=ok.un
  show A.units+1+100*2+200<_
  lia
section
variable{K:KX}{Kf:W.Frag}{mg mb:Str→Option Value}
theorem HY(N:S3 K Kf mg mb):SoundF K 3 (.ref 231) [] DF:=by
 rintro A ok ρ hp s vas ras ks Q E hlen ⟨rfl,q⟩ H R
 obtain⟨rfl,rfl⟩:ras=[]∧ks=[]:=by
  have:=R.length
  simp only[List.length_nil,List.length_append] at this
  exact⟨List.eq_nil_of_length_eq_zero (by omega),List.eq_nil_of_length_eq_zero (by omega)⟩
 obtain⟨hh,g,d,t,os⟩:=s
 have Xn:=N.X.now H
 refine W.make_core (W.makes_of Xn (ME N.c_Headers)) (W.looks_findIn Xn (GS N.m_Headers___init__)) (fun self=>W.bind_fn Xn self (GR N.m_Headers___init__)) (.inl rfl) ?_
 obtain⟨pi,hpa,keep,H',S'⟩:=GQ 231 H
 generalize (hh.push W.emptyDict).push (W.instObj 231 hh.objs.size)=h0 at *
 have ok':=G8 231 [] ok
 obtain⟨fd,X,hd,hk⟩:=N.x_Headers___init__
 have hl:ρ.length=hp.length:=H.len
 have R':VRs (ρ++[pi]) h0 [.r hp.length,.d .none] [.ref pi.a,.none]:=.cons ⟨pi,by rw[← hl];simp,rfl⟩ (.cons (v:=.d .none) (x:=.none) DR.none .nil)
 have W':=MA (r:=1) (ps:=["self", "headers"]) (rest:=(["k", "v"]:List Str)) (n:=2) (s:=⟨h0,g,d,t,os⟩) (E:=E) (ras0:=[.ref (hh.objs.size+1)])
  (Post:=fun v s'=>v = .none∧∃ ρ' h' t',s'=⟨h',g,d,t',os⟩∧HRel K ρ' (hp++[.lst [],.inst 231 [(0,.r hp.length)]]) h'∧Step K ρ hh ρ' h'∧ρ'[hp.length+1]?=some pi)
  N.G X (by decide) (kindsOk rfl) (noFree rfl) ok' H' R' rfl (by rw[← hpa];exact W.kp_binds (N.X.now H') (fun S=>N.bd0_Headers___init__ fd S _ hd hk)) ?_
 ·refine codeAny_mono W' ?_
  intro rr s' hr
  rcases rr with e | (v | _ | _ | _)
  ·exact hr
  all_goals first | exact hr.elim | skip
  obtain⟨rfl,ρ',h',t',rfl,Hf,Sf,gp⟩:=hr
  exact⟨rfl,.r (hp.length+1),_,ρ',h',t',rfl,q,Hf,Sf,⟨pi,gp,by rw[hpa]⟩⟩
 intro h₂ t₂ A' E' ok2 F H₂ S₂ np
 have hb:fBody (clAt 11 0)=(fBody (clAt 11 0)).getD 0 default::(fBody (clAt 11 0)).drop 1:=rfl
 rw[hb]
 refine wpAny_execs_cons (wpAny_mono (CX N fd A' ok2 [some (.r hp.length),some (.d .none),none,none] (fun fl vs' hp'=>fl = .next∧vs'=[some (.r hp.length),some (.r (hp.length+1)),none,none]∧hp'=hp++[.inst 231 [],.lst []])
  (hp++[.inst 231 []]) (ρ++[pi]) ⟨h₂,g,d,t₂,os⟩ E' ?_ F H₂) ?_ (fun z z x=>x))
 ·have:=JB (n:=hp.length) (hp:=hp++[.inst 231 []]) (Q:=fun fl vs' hp'=>fl = .next∧vs'=[some (.r hp.length),some (.r (hp.length+1)),none,none]∧hp'=hp++[.inst 231 [],.lst []]) ⟨rfl,by simp,by simp⟩
  exact this
 rintro fl s₃ ⟨af,vs',hp',ρ₃,h₃,t₃,rfl,⟨rfl,rfl,rfl⟩,F₃,H₃,S₃,fr⟩
 cases fl<;>first | exact fr.elim | skip
 refine viaP fun z zf=>?_
 obtain⟨pl,rfl⟩:=G9 H₃ hl S₃.pre
 dsimp only at F₃ H₃ S₃ ⊢
 have T₃:Step K (ρ++[pi]) h0 (ρ++[pi,pl]) h₃:=StepS.full S₂ S₃ np
 have T₃':Step K ρ hh (ρ++[pl,pi]) h₃:=(S'.trans T₃).flip
 have F₃':=F₃.flip
 have H₃':=H₃.flip hl
 have ev:([some (.r hp.length),some (.r (hp.length+1)),none,none]:List (Option V)).map (fun x=>x.map (flipV ρ.length))=[some (.r (hp.length+1)),some (.r hp.length),none,none]:=by
  simp[flipV,flipI,hl]
 rw[ev] at F₃'
 refine zf ?_
 refine wpAny_mono (Ca N fd A' ok2 _ (fun fl vs' hp'=>fl = .next∧hp'=hp++[.lst [],.inst 231 [(0,.r hp.length)]]) _ _ ⟨h₃,g,d,t₃,os⟩ E' (JA ⟨rfl,rfl⟩) F₃' H₃') ?_ (fun z z x=>x)
 rintro fl s₄ ⟨af,vs',hp',ρ₄,h₄,t₄,rfl,⟨rfl,rfl⟩,F₄,H₄,S₄,fr⟩
 cases fl<;>first | exact fr.elim | skip
 have ST:=T₃'.toS.trans S₄
 exact .inl ⟨rfl,rfl,ρ₄,h₄,t₄,rfl,H₄,⟨ST.pre,ST.new,fun b o e hb hm=>ST.keep b o e hb hm (np b o (keep b o e)),ST.dom⟩,BD S₄.pre (by rw[← hl];simp)⟩
theorem NN{r:Nat}{env:Env}{look:Str→Option Nat}(G:KG K mg mb)(X:KF K Kf){f:Str}{C:Addr}{p pos:Pos}{F:FT}(hF:SoundF K r (.ref C) [] F)
  (hkp:W.keepIn Kf (.ref C)=true) (hk:env.kindOf f=some .globalImplicit) (hg:mg f=some (.ref C)) (hd:(f == ("__debug__" : Str))=false) :
  SoundE K r env look (.Call (.Name f p) [] [] pos) (xCall F lNil):=by
 intro A ok vs Q hp ρ s E q FR H
 refine wpAny_Call_Name_kw (Calls.Name_function_global FR.kd hk (Calls.loadGlobal_global (mg:=mg) ?_ hg ?_) hd)
 ·rw[FR.gl];exact H.nsOf G.g G.g'
 refine W.callWith_K0 (X.now H) hkp ?_
 exact hF.call A ok ρ hp s [] [] [] Q E rfl q H .nil
end
noncomputable def lexFs(n j:Nat):List (Nat×V):=putFs 4 (.r n) (putFs 3 (.d (.str "\n\t\r ")) (putFs 2 (.r j) (putFs 1 (.d (.int 1)) [])))
def Ci:FT:=fun vas Q hp=>∃ j,vas=[.r j]∧j<hp.length∧Q (.r (hp.length+1)) (hp++[.lst [],.inst 76 (lexFs hp.length j)])
theorem LZ{n:Nat}:flipV n (.r n) = .r (n+1):=by simp[flipV,flipI]
theorem KJ{n:Nat}:flipV n (.r (n+1)) = .r n:=by simp[flipV,flipI]
theorem Ip{n i:Nat}(h:i<n):flipV n (.r i) = .r i:=by show V.r (flipI n i)=_;rw[GX h]
theorem OS{α:Type}{l:List α}{a:α}:(l++[a])[l.length]?=some a:=by simp
theorem O1{α:Type}{l:List α}{a c:α}:(l++[a]).set l.length c=l++[c]:=by simp
theorem J7{k:Nat}{hp:List O}{fs:List (Nat×V)}{w:V}{vs:List (Option V)}{a:XE}{Q:QS}(hw:(match w with | .r j=>j<hp.length | .rng ..=>False | .g _=>False | _=>True:Prop))(h0:vs[0]?=some (some (.r hp.length)))(ha:∀ K:V→List O→Prop,K w (hp++[.inst 76 fs])→a vs K (hp++[.inst 76 fs]))
  (q:Q .next vs (hp++[.inst 76 (putFs k w fs)])):sSetF (setF 76 k) (xVar 0) a vs Q (hp++[.inst 76 fs]):=by
 refine ha _ ?_
 unfold xVar
 rw[h0]
 show atI (.r hp.length) _ 76 _
 unfold atI
 dsimp only
 rw[OS]
 refine⟨rfl,hw,?_⟩
 rw[O1];exact q
section
variable{K:KX}{Kf:W.Frag}{mg mb:Str→Option Value}
theorem Je{ρ ρ₁:Rho}{hp:List O}{o:O}{h:Heap}{p:P}(H:HRel K ρ₁ (hp++[o]) h)(hl:ρ.length=hp.length)(hpre:ρ++[p] <+: ρ₁):ρ₁=ρ++[p] :=
 (hpre.eq_of_length (by have:=H.len;simp at this ⊢;lia)).symm
theorem HI:fBody (clAt 3 0)=[(fBody (clAt 3 0)).getD 0 default,(fBody (clAt 3 0)).getD 1 default,(fBody (clAt 3 0)).getD 2 default,(fBody (clAt 3 0)).getD 3 default]:=rfl
theorem Ij:∃ p1 p2 p3 pos,(fBody (clAt 3 0)).getD 3 default = .Assign [.Attribute (.Name "self" p1) "pushback" p2] (.List [] p3) pos∧∀ env,swapsWith (.List [] p3) (some (.Attribute (.Name "self" p1) "pushback" p2)) pos.line env=pure false:=⟨_,_,_,_,rfl,fun z=>rfl⟩
theorem E3(N:S3 K Kf mg mb):SoundF K 3 (.ref 76) [] Ci:=by
 rintro A ok ρ hp s vas ras ks Q E hlen ⟨j,rfl,hj,q⟩ H R
 obtain⟨ra,rfl,rfl⟩:∃ ra,ras=[ra]∧ks=[]:=by
  have hk:ks=[]:=List.eq_nil_of_length_eq_zero hlen
  subst hk
  have:=R.length
  simp only[List.length_cons,List.length_nil,List.append_nil] at this
  obtain⟨a,e⟩:=List.length_eq_one_iff.mp this.symm
  exact⟨a,e,rfl⟩
 rw[List.append_nil] at R
 obtain⟨hh,g,d,t,os⟩:=s
 have Xn:=N.X.now H
 refine W.make_core (W.makes_of Xn (ME N.c__netrclex)) (W.looks_findIn Xn (GS N.m__netrclex___init__)) (fun self=>W.bind_fn Xn self (GR N.m__netrclex___init__)) (.inl rfl) ?_
 obtain⟨pi,hpa,keep,H',S'⟩:=GQ 76 H
 have R':VRs (ρ++[pi]) ((hh.push W.emptyDict).push (W.instObj 76 hh.objs.size)) [.r hp.length,.r j] [.ref pi.a,ra]:=.cons ⟨pi,by rw[← H.len];simp,rfl⟩ (R.step S' H)
 generalize (hh.push W.emptyDict).push (W.instObj 76 hh.objs.size)=h0 at *
 have ok':=G8 76 [ra] ok
 obtain⟨fd,X,hd,hk⟩:=N.x__netrclex___init__
 have hl:ρ.length=hp.length:=H.len
 have W':=MA (r:=1) (ps:=["self", "fp"]) (rest:=([]:List Str)) (n:=0) (s:=⟨h0,g,d,t,os⟩) (E:=E) (ras0:=[.ref (hh.objs.size+1),ra])
  (Post:=fun v s'=>v = .none∧∃ ρ' h' t',s'=⟨h',g,d,t',os⟩∧HRel K ρ' (hp++[.lst [],.inst 76 (lexFs hp.length j)]) h'∧Step K ρ hh ρ' h'∧ρ'[hp.length+1]?=some pi)
  N.G X (by decide) (kindsOk rfl) (noFree rfl) ok' H' R' rfl (by rw[← hpa];exact BindsTo.of_eq (by rw[B0 hd hk];rfl)) ?_
 ·refine codeAny_mono W' ?_
  intro rr s' hr
  rcases rr with e | (v | _ | _ | _)
  ·exact hr
  all_goals first | exact hr.elim | skip
  obtain⟨rfl,ρ',h',t',rfl,Hf,Sf,gp⟩:=hr
  exact⟨rfl,.r (hp.length+1),_,ρ',h',t',rfl,q,Hf,Sf,⟨pi,gp,by rw[hpa]⟩⟩
 intro h₂ t₂ A' E' ok2 F H₂ S₂ np
 rw[HI]
 have v0:([V.r hp.length,V.r j].map some++List.replicate 0 none:List (Option V))=[some (.r hp.length),some (.r j)]:=rfl
 rw[v0] at F
 refine Eo (rest:=[(fBody (clAt 3 0)).getD 3 default]) (Q:=fun vs' hp'=>vs'=[some (.r hp.length),some (.r j)]∧hp'=hp++[.inst 76 (putFs 3 (.d (.str "\n\t\r ")) (putFs 2 (.r j) (putFs 1 (.d (.int 1)) [])))]) ok2
  [((fBody (clAt 3 0)).getD 0 default,BB),((fBody (clAt 3 0)).getD 1 default,BA),((fBody (clAt 3 0)).getD 2 default,B9)] _ _ _ ⟨h₂,g,d,t₂,os⟩ ?_ ?_ F H₂ ?_
 ·intro x hx
  rcases List.mem_cons.mp hx with rfl | hx
  ·exact CH N fd
  rcases List.mem_cons.mp hx with rfl | hx
  ·exact CG N fd
  rw[List.mem_singleton.mp hx]
  exact CF N fd
 ·unfold seqX
  dsimp only[List.foldr_cons,List.foldr_nil]
  exact DB (J7 (vs:=[some (.r hp.length),some (.r j)]) (w:=.d (.int 1)) trivial rfl (fun K k=>k) (Ad (DB (J7 (w:=.r j) hj rfl (fun K k=>k) (Ad (DB (J7 (w:=.d (.str "\n\t\r ")) trivial rfl (fun K k=>k) (Ad ⟨rfl,rfl,rfl⟩))))))))
 rintro _ _ ρ₅ h₅ t₅ ⟨rfl,rfl⟩ F₅ H₅ S35
 refine viaP fun z zf=>?_
 obtain rfl:=Je H₅ hl S35.pre
 clear F H₂
 generalize hfs:putFs 3 (V.d (.str "\n\t\r ")) (putFs 2 (.r j) (putFs 1 (.d (.int 1)) []))=fs at H₅
 obtain⟨p1,p2,p3,pos,e,sw⟩:=Ij
 refine zf ?_
 rw[e]
 refine wpAny_execs_cons (plainObj_wpAny_Assign_Attribute ((AZ (m:=true) A6).then ok2 (s:=⟨h₅,g,d,t₅,os⟩) (Q:=fun v hp'=>v = .r (hp.length+1)∧hp'=hp++[.inst 76 fs,.lst []]) ?_ F₅ H₅ ?_) (sw _))
 ·show(match datas [] with | some xs=>xs.length≤sizeLine∧mkL true xs _ _ | none=>False)
  refine⟨by simp[sizeLine_eq],?_⟩
  show _∧_
  simp
 rintro v hp₁ ρ₁ h₁ t₁ rl ⟨rfl,rfl⟩ H₁ S₁ r₁ F₁
 refine viaP fun z zf=>?_
 obtain⟨pl,rfl⟩:=G9 H₁ hl S₁.pre
 have F₁':=F₁.flip
 have H₁':=H₁.flip hl
 have r₁':=r₁.flip
 have ev:([some (.r hp.length),some (.r j)]:List (Option V)).map (fun x=>x.map (flipV ρ.length))=[some (.r (hp.length+1)),some (.r j)]:=by
  show[some (flipV ρ.length (.r hp.length)),some (flipV ρ.length (.r j))]=_
  rw[hl,LZ,Ip hj]
 rw[ev] at F₁'
 have el:flipV ρ.length (.r (hp.length+1)) = .r hp.length:=by rw[hl,KJ]
 rw[el] at r₁'
 refine zf ?_
 refine(A1 (k:=0) (.inl rfl) rfl rfl rfl).then ok2 (vs:=[some (.r (hp.length+1)),some (.r j)]) (hp:=hp++[.lst [],.inst 76 fs]) (s:=⟨h₁,g,d,t₁,os⟩) (Q:=fun v hp'=>v = .r (hp.length+1)∧hp'=hp++[.lst [],.inst 76 fs]) ⟨rfl,rfl⟩ F₁' H₁' ?_
 rintro v hp₂ ρ₂ h₆ t₆ rs ⟨rfl,rfl⟩ H₆ S₆ r₆ F₆
 have SS:=Cq (C:=76) (k:=4) (x := "pushback") N.X N.attrs N.c__netrclex N.f__netrclex_pushback (by rw[N.attrs];rfl) rfl
 refine wpAny_mono (SS A' ρ₂ _ ⟨h₆,g,d,t₆,os⟩ (.r (hp.length+1)) (.r hp.length) rs rl (fun hp'=>hp'=hp++[.lst [],.inst 76 (putFs 4 (.r hp.length) fs)]) E' ?_ H₆ r₆ (r₁'.step S₆ H₁')) ?_ (fun z z x=>x)
 ·show atI (.r (hp.length+1)) _ 76 _
  unfold atI
  dsimp only
  rw[Fs]
  exact⟨rfl,Nat.lt_succ_self _,by rw[JN]⟩
 rintro _ s₇ ⟨hp₇,h₇,t₇,rfl,rfl,H₇,S₇⟩
 have e1:ρ₂=ρ++[pl,pi]:=(S₆.pre.eq_of_length (by have:=H₆.len;simp at this ⊢;lia)).symm
 subst e1
 have T:=StepS.full S₂ (S35.trans S₁.toS) np
 have T':Step K ρ hh (ρ++[pl,pi]) h₇:=(((S'.trans T).flip).trans S₆).trans S₇
 refine wpAny_execs_nil (.inl ⟨rfl,rfl,_,h₇,t₇,rfl,?_,T',by rw[← hl];simp⟩)
 unfold lexFs
 rw[hfs]
 exact H₇
end
section
variable{K:KX}{Kf:W.Frag}{mg mb:Str→Option Value}{r:Nat}{env:Env}{look:Str→Option Nat}
def xRepl0(x:Str)(a:XE):XE:=fun vs Q=>a vs fun v hp=>∃ z:Str,v = .d (.str z)∧(Builtin.Str.occurrences z x 0 z.length (z.length+1)).isEmpty=true∧Q (.d (.str z)) hp
set_option tactic.hygienic true in
theorem Lg{o:Expr}{x y:Str}{k1 k2:Nat}{p1 p2 apos pos:Pos}{a:XE}(ha:SoundE K r env look o a)
  (hbase:attributeBase o "replace" env (eval o env)=eval o env)
  (hfew:((backTo pos (starEach [.Constant (.str x) k1 p1,.Constant (.str y) k2 p2] env)).all (fun x => !x.1) && (backToKw pos (keywordEach [] env)).all (fun x=>x.1.isSome)
   && decide (([.Constant (.str x) k1 p1,.Constant (.str y) k2 p2]:List Expr).length+([]:List Keyword).length+(if ([]:List Keyword).isEmpty then 0 else 1)<30))=true)
  (hline:(apos.endLine == pos.line)=true)
  (he:backTo pos (starEach [.Constant (.str x) k1 p1,.Constant (.str y) k2 p2] env)=[(false,eval (.Constant (.str x) k1 p1) env),(false,eval (.Constant (.str y) k2 p2) env)]) :
  SoundE K r env look (.Call (.Attribute o "replace" apos) [.Constant (.str x) k1 p1,.Constant (.str y) k2 p2] [] pos) (xRepl0 x a):=by
 intro A ok vs Q hp ρ s E q F H
 refine wpAny_Call_method_lateS hbase hfew hline (wpAny_mono (ha A ok vs _ hp ρ s E q F H) ?_ (fun w w x=>x))
 rintro ra s₁ ⟨va,hp₁,ρ₁,h₁,t₁,rfl,⟨z,rfl,hz,q₁⟩,H₁,S₁,r₁⟩
 cases r₁
 rename_i t
 refine⟨"str", "str.replace", PySem.F.plainAttrs_str,PySem.F.slot_str_replace,PySem.F.type_str_replace,typeIs_str _ _ _,(fun w e=>nomatch e),AO (by rw[he];rfl) ?_⟩
 rw[he]
 refine Calls.spliced_cons (wpAny_Constant_str (Calls.spliced_cons (wpAny_Constant_str (Calls.spliced_nil ?_))))
 refine call_gives PySem.F.slot_str_replace (typeIs_str _ _ _) PySem.F.entry_str_replace (PySem.F.args_str_replace_3 _ _ _) (gives_str_replace z x y _ _ _ (fun h=>by rw[hz,Bool.true_or] at h;cases h)) ?_
 rw[hz,Bool.true_or]
 exact⟨_,hp₁,ρ₁,h₁,_,rfl,q₁,H₁,S₁,.str ..⟩
theorem Nc(X:KF K Kf){fd:FuncData}{n:Nat}{ps:List Str}{i:Int}{tk:Tok}(hn:ps.length=n+1)(h:∀ ras:List Value,ras.length=n→∀ S,W.peek Kf S (bindArgs fd ⟨ras,[]⟩)=some (ps.zip (ras++[.int i tk]))):SoundBind K fd [] ps (bDef n (.int i)):=by
 intro A hh ρ hp s vas ras ks Q E hk q H R
 cases ks with
 | cons _ _=>simp at hk
 | nil =>
  rw[List.append_nil] at R
  have hl:=R.length
  have e:ras.length=n:=by rw[← hl];exact q.1
  rw[show([]:List Str).zip ([]:List Value)=[] from rfl]
  exact W.kp_binds (X.now H) (h ras e) _ _ _ _ ⟨vas++[.d (.int i)],ras++[.int i tk],hp,ρ,s.heap,s.toks,rfl,rfl,by rw[List.length_append,e,hn];rfl,q.2,H,Step.refl ..,R.append (.cons (v:=.d (.int i)) (.int ..) .nil)⟩
end
variable{K:KX}{Kf:W.Frag}{mg mb:Str→Option Value}
def Cb:XS:=(sCons (sIf (bAnd (bCmp opIsNot (xVar 1) cNone) (bCmp opGt (xCall fLen (lCons (xVar 1) lNil)) (cI 0))) (sCons (sIf (bOrL (bVal (xVar 2))) (sCons (sAssign 1 (xRepl "\"" "\\\"" (xRepl "\\" "\\\\" (xVar 1))))
 (sCons (sRet (xJoin (jCons (xFv (xVar 0)) (jCons (cS "=\"") (jCons (xFv (xVar 1)) (jCons (cS "\"") jNil))))))
 sNil)) (sCons sDead sNil))
 sNil) (sCons (sRet (xVar 0))
 sNil))
 sNil)
theorem EH(N:S3 K Kf mg mb)(fd:FuncData){a L:Addr}:SoundSs K 0 (callEnvC (fdOf (stAt 10) fd) L a) (lk ((["param", "value", "quote"]:List Str)++([]:List Str))) (fBody (stAt 10)) Cb:=by
 conv=>arg 5;whnf
 refine A0 ?_ A3
 refine O6 ?_ ?_ ?_
 ·refine NZ ?_ ?_
  ·refine AI ?_ ?_ ?_ ?_
   ·exact FS
   ·exact A1 (.inl rfl) rfl rfl rfl
   ·exact Bi
   ·rfl
  ·refine NY ?_ ?_ ?_
   ·exact LC
   ·refine CB N.G ?_ ?_ ?_ N.len0 N.len1 ?_ ?_
    ·exact E1
    ·refine l_c ?_ ?_ ?_
     ·exact A1 (.inl rfl) rfl rfl rfl
     ·exact A6
     ·rfl
    ·rfl
    ·rfl
    ·rfl
   ·rfl
 ·refine GH ?_ A3
  refine O8 ?_ ?_ ?_
  ·refine Oc ?_
   refine Ed ?_ ?_
   ·exact A1 (.inl rfl) rfl rfl rfl
   ·exact fun z=>rfl
  ·refine GH ?_ ?_
   ·refine IT ?_ ?_ ?_ ?_
    ·refine IB ?_ ?_ ?_ ?_ ?_ ?_
     ·refine IB ?_ ?_ ?_ ?_ ?_ ?_
      ·exact OX (A1 (.inl rfl) rfl rfl rfl)
      all_goals rfl
     all_goals rfl
    ·exact .inl rfl
    ·rfl
    ·rfl
   ·refine A0 ?_ A3
    refine Ag ?_
    refine NP (Fo ?_ (Fo ?_ (Fo ?_ (Fo ?_ OI))))
    ·exact OW (A1 (.inl rfl) rfl rfl rfl)
    ·exact AM
    ·exact OW (A1 (.inl rfl) rfl rfl rfl)
    ·exact AM
  ·exact A0 D6 A3
 ·refine A0 ?_ A3
  refine Ag ?_
  exact A1 (.inl rfl) rfl rfl rfl
def By:FT:=runFn false (bDef 2 (.int 1)) 0 Cb
theorem Eg(N:S3 K Kf mg mb):SoundF K 1 (.ref 110) ([]:List Str) By:=by
 obtain⟨fd,X,hd,hk⟩:=N.x__formatparam
 obtain⟨tq,b⟩:=N.bd0__formatparam
 exact Bj (rest:=([]:List Str)) (kn:=([]:List Str)) N.G X (Nc N.X (n:=2) (ps:=(["param", "value", "quote"]:List Str)) rfl (fun ras h S=>by obtain⟨a0,a1,rfl⟩:=len2 h;exact b _ S _ _ hd hk)) (by decide) (kindsOk rfl) (noFree rfl) (fun L=>EH N fd)
def As:XS:=(sCons (sAssign 4 (xList true lNil))
 (sCons (sIf (bCmp opIsNot (xVar 2) cNone) (sCons sDead (sCons sDead sNil)) sNil)
 (sCons (sForD 3 (tTuple 2 (tsCons (tName 5) (tsCons (tName 6) tsNil))) (sCons (sAssign 5 (xMeth 231 A9 (xVar 0) (lCons (xVar 5) lNil) (lCons (cB true) lNil)))
  (sCons (sIf (bCmp opIs (xVar 6) cNone) (sCons sDead sNil) (sCons (sAssign 6 (xMeth 231 A9 (xVar 0) (lCons (xVar 6) lNil) (lCons (cB false) lNil)))
   (sCons (sExpr (xMethL mAppend (xVar 4) (lCons (xCall By (lCons (xRepl0 "_" (xVar 5)) (lCons (xVar 6) lNil))) lNil))) sNil))) sNil)))
 (sCons (sExpr (xMethL mAppend (xUn (getF 231 0) (xVar 0)) (lCons (xTuple (lCons (xMeth 231 A9 (xVar 0) (lCons (xVar 1) lNil) (lCons (cB true) lNil)) (lCons (xMethS mJoin (cS "; ") (lCons (xVar 4) lNil)) lNil))) lNil)))
 sNil))))
theorem CZ(N:S3 K Kf mg mb)(fd:FuncData){a L:Addr}:SoundSs K 1 (callEnvC (fdOf (clAt 11 16) fd) L a) (lk ((["self", "_name", "_value", "_params"]:List Str)++(["parts", "k", "v"]:List Str))) (fBody (clAt 11 16)) As:=by
 conv=>arg 5;whnf
 refine A0 ?_ ?_
 ·refine A5 ?_ ?_ ?_ ?_
  ·refine AZ (m:=true) ?_
   exact A6
  ·exact .inl rfl
  ·rfl
  ·rfl
 refine A0 ?_ ?_
 ·refine Ar ?_ ?_ ?_
  ·refine AI ?_ ?_ ?_ ?_
   ·exact FS
   ·exact A1 (.inl rfl) rfl rfl rfl
   ·exact Bi
   ·rfl
  ·exact A0 D6 (A0 D6 A3)
  ·exact A3
 refine A0 ?_ ?_
 ·refine Mt N.sm ?_ ?_ ?_ ?_ ?_ ?_ ?_ ?_
  ·rfl
  ·rfl
  ·rfl
  ·refine E6 ?_
   refine Bz ?_ ?_ ?_
   ·refine Al ?_ ?_
    ·exact .inl rfl
    ·rfl
   ·refine Bz ?_ ?_ ?_
    ·refine Al ?_ ?_
     ·exact .inl rfl
     ·rfl
    ·exact FH
    ·rfl
   ·rfl
  ·refine A0 ?_ ?_
   ·refine A5 ?_ ?_ ?_ ?_
    ·refine AK N.X N.x_Headers__convert_string_type N.m_Headers__convert_string_type ?_ ?_ ?_ ?_ ?_ ?_ ?_ ?_ ?_ ?_
     ·exact SoundF.le (AE N) Lq
     ·exact A1 (.inl rfl) rfl rfl rfl
     ·refine l_c ?_ ?_ ?_
      ·exact A1 (.inl rfl) rfl rfl rfl
      ·exact A6
      ·rfl
     ·refine Dq ?_ ?_
      ·exact CD
      ·exact BH
     ·rw[N.attrs];decide
     all_goals rfl
    ·exact .inl rfl
    ·rfl
    ·rfl
   refine A0 ?_ A3
   refine Ar ?_ ?_ ?_
   ·refine AI ?_ ?_ ?_ ?_
    ·exact JR
    ·exact A1 (.inl rfl) rfl rfl rfl
    ·exact Bi
    ·rfl
   ·exact A0 D6 A3
   ·refine A0 ?_ ?_
    ·refine A5 ?_ ?_ ?_ ?_
     ·refine AK N.X N.x_Headers__convert_string_type N.m_Headers__convert_string_type ?_ ?_ ?_ ?_ ?_ ?_ ?_ ?_ ?_ ?_
      ·exact SoundF.le (AE N) Lq
      ·exact A1 (.inl rfl) rfl rfl rfl
      ·refine l_c ?_ ?_ ?_
       ·exact A1 (.inl rfl) rfl rfl rfl
       ·exact A6
       ·rfl
      ·refine Dq ?_ ?_
       ·exact CD
       ·exact BH
      ·rw[N.attrs];decide
      all_goals rfl
     ·exact .inl rfl
     ·rfl
     ·rfl
    refine A0 ?_ A3
    refine Ap ?_ ?_ ?_
    ·refine An (id := "list.append") ?_ ?_ ?_ ?_ ?_ ?_ ?_ ?_
     ·exact Av
     ·exact A1 (.inl rfl) rfl rfl rfl
     ·refine l_c ?_ A6 ?_
      ·obtain⟨fd',X',_,_⟩:=N.x__formatparam
       refine KR N.G X' (SoundF.le (Eg N) Lq) ?_ ?_ N.g__formatparam ?_ (backFalse (Ao rfl))
       ·refine l_c ?_ ?_ ?_
        ·refine Lg ?_ ?_ ?_ ?_ ?_
         ·exact A1 (.inl rfl) rfl rfl rfl
         all_goals rfl
        ·refine l_c ?_ A6 ?_
         ·exact A1 (.inl rfl) rfl rfl rfl
         ·rfl
        ·rfl
       ·rfl
       ·rfl
      ·rfl
     ·exact PySem.F.slot_list_append
     ·exact PySem.F.type_list_append
     all_goals rfl
    ·rfl
    ·rfl
  ·rfl
  ·rfl
  ·exact fun z=>rfl
 refine A0 ?_ A3
 refine Ap ?_ ?_ ?_
 ·refine An (id := "list.append") ?_ ?_ ?_ ?_ ?_ ?_ ?_ ?_
  ·exact Av
  ·refine CU (Bb N.X N.c_Headers N.f_Headers__headers (by rw[N.attrs] ; rfl)) ?_ ?_ ?_
   ·exact A1 (.inl rfl) rfl rfl rfl
   ·rfl
   ·exact fun z z=>rfl
  ·refine l_c ?_ A6 ?_
   ·refine Fw ?_
    refine l_c ?_ ?_ ?_
    ·refine AK N.X N.x_Headers__convert_string_type N.m_Headers__convert_string_type ?_ ?_ ?_ ?_ ?_ ?_ ?_ ?_ ?_ ?_
     ·exact SoundF.le (AE N) Lq
     ·exact A1 (.inl rfl) rfl rfl rfl
     ·refine l_c ?_ ?_ ?_
      ·exact A1 (.inl rfl) rfl rfl rfl
      ·exact A6
      ·rfl
     ·refine Dq ?_ ?_
      ·exact CD
      ·exact BH
     ·rw[N.attrs];decide
     all_goals rfl
    ·refine l_c ?_ A6 ?_
     ·refine Bc (id := "str.join") ?_ ?_ ?_ ?_ ?_ ?_ ?_ ?_
      ·exact Fk
      ·exact AM
      ·refine l_c ?_ ?_ ?_
       ·exact A1 (.inl rfl) rfl rfl rfl
       ·exact A6
       ·rfl
      ·exact PySem.F.slot_str_join
      ·exact PySem.F.type_str_join
      all_goals rfl
     ·rfl
    ·rfl
   ·rfl
  ·exact PySem.F.slot_list_append
  ·exact PySem.F.type_list_append
  all_goals rfl
 ·rfl
 ·rfl
def Ac(x:Str):FT:=runFn false (bKw1 3 x) 3 As
theorem Ch(N:S3 K Kf mg mb){x:Str}(hx:x = "x" ∨ x = "y" ∨ x = "z"):SoundF K 2 (.ref 228) [x] (Ac x):=by
 obtain⟨fd,X,hd,hk⟩:=N.x_Headers_add_header
 refine Bj (rest:=(["parts", "k", "v"]:List Str)) N.G X (Od (n:=3) (ps:=(["self", "_name", "_value", "_params"]:List Str)) rfl (fun ras v h=>?_)) (by decide) (kindsOk rfl) (noFree rfl) (fun L=>CZ N fd)
 rw[B0 hd hk]
 obtain⟨a0,a1,a2,rfl⟩:=len3 h
 rcases hx with rfl | rfl | rfl<;>rfl
end Mine
namespace Mine
open PySem PySem.Spec PySem.Calls PyProof.Rows
variable{K:KX}{Kf:W.Frag}{mg mb:Str→Option Value}{r:Nat}{env:Env}{look:Str→Option Nat}
def xAddH(a b c:XE):XE:=fun vs Q=>a vs fun v hp=>atI v hp 231 fun w w=>b vs (fun vb=>c vs fun vc hp=>match vb with
 | .d (.str x)=>(match vc with | .d (.str y)=>(x = "x" ∨ x = "y" ∨ x = "z")∧Ac x [v,.d (.str "is"),.d .none,.d (.str y)] Q hp | _=>False) | _=>False) hp
theorem NS(N:S3 K Kf mg mb){o ek ev:Expr}{apos pos dpos kpos p1 p2:Pos}{k1 k2:Nat}{a b c:XE}(ho:SoundE K (r+3) env look o a)(hx:SoundE K (r+3) env look ek b)(hy:SoundE K (r+3) env look ev c)
  (hbase:attributeBase o "add_header" env (eval o env)=eval o env)
  (hargs:backTo pos (starEach [.Constant (.str "is") k1 p1,.Constant .none k2 p2] env)=[(false,eval (.Constant (.str "is") k1 p1) env),(false,eval (.Constant .none k2 p2) env)])
  (hform:methodCallForm 3 [(false,eval (.Constant (.str "is") k1 p1) env),(false,eval (.Constant .none k2 p2) env)] (backToKw pos (keywordEach [⟨none,.Dict [some ek] [ev] dpos,kpos⟩] env))=false)
  (hkw:backToKw pos (keywordEach [⟨none,.Dict [some ek] [ev] dpos,kpos⟩] env)=[(none,do let v ← eval (.Dict [some ek] [ev] dpos) env;standAt pos;pure v)])
  (hshape:(evalEachOpt [some ek] env).zip ((evalEach [ev] env).map fun v=>do let x ← v;standAt dpos;pure x)=[(some (eval ek env),do let x ← eval ev env;standAt dpos;pure x)]) :
  SoundE K (r+3) env look (.Call (.Attribute o "add_header" apos) [.Constant (.str "is") k1 p1,.Constant .none k2 p2] [⟨none,.Dict [some ek] [ev] dpos,kpos⟩] pos) (xAddH a b c):=by
 intro A ok vs Q hp ρ s E q F H
 rw[arm_eval_Call,hbase]
 refine wpAny_bind (ho.then ok q F H ?_)
 intro v hp₁ ρ₁ h₁ t₁ rv q₁ H₁ S₁ r₁ F₁
 refine wpAny_bind (wpAny_standAt ?_)
 unfold methodCall
 rw[hargs]
 generalize hfm:methodCallForm _ _ _=fm
 obtain rfl:fm=false:=hfm.symm.trans hform
 obtain⟨i,p,fs,ox,od,m,rfl,rfl,q₁,e,ep,I,hd,hod,n,hfld,hout⟩:=Dc q₁ H₁ r₁
 have Xn:=N.X.now H₁
 have pg:=W.plainGet_of (Jv N.m_Headers_add_header)
 refine wpAny_bind (wpAny_holding (wpAny_bind ?_))
 refine W.get_bind (s:={ s with heap:=h₁,toks:=t₁ }) Xn I pg.1 (W.findObj_fn (ID N.c_Headers) (GS N.m_Headers_add_header) N.ah1 N.ah2 (by kernel_rfl) (by rw[Cm n hod,hout _ (by rw[N.attrs];decide)])) pg.2 ?_
 refine wpAny_call ?_
 refine W.fn_get Xn (GR N.m_Headers_add_header) ?_
 refine W.handed_on ?_ ?_
 ·rfl
 refine wpAny_pure ?_
 dsimp only
 have hpos:methodCallPos false o env apos pos=pure pos:=by unfold methodCallPos;rfl
 rw[hpos]
 refine wpAny_bind ?_
 refine wpAny_pure ?_
 rw[hkw]
 refine viaP fun w zf=>?_
 obtain⟨fd,Y,_⟩:=N.x_Headers_add_header
 obtain⟨of,hof,hdf⟩:=Y.ob
 refine zf ?_
 refine Ec (f:=228) (self:=.ref p.a) (of:=of) (fd:=fdOf (clAt 11 16) fd) ?_ ?_
 ·rfl
 refine Ga ?_
 refine Calls.spliced_cons (wpAny_Constant_str (Calls.spliced_cons (wpAny_Constant_none (Calls.spliced_nil ?_))))
 dsimp only
 have gM:(h₁.push (W.methodObj (.ref 228) (.ref p.a))).get? h₁.objs.size=some (W.methodObj (.ref 228) (.ref p.a)):=Heap.get?_push_size _ rfl
 have up₂:∀ b o,h₁.get? b=some o→(h₁.push (W.methodObj (.ref 228) (.ref p.a))).get? b=some o:=fun b o e=>Heap.get?_push_of_some _ e
 have nM:h₁.get? h₁.objs.size=none:=AA (Nat.le_refl _)
 have oM:=H₁.off nM
 have fM:=H₁.fresh nM
 generalize h₁.push (W.methodObj (.ref 228) (.ref p.a))=h₂ at gM up₂
 generalize h₁.objs.size=M at gM nM oM fM
 have S₂:Step K ρ₁ h₁ ρ₁ h₂:=Step.grow up₂
 have H₂:=H₁.grow up₂
 have nD:h₂.get? h₂.objs.size=none:=AA (Nat.le_refl _)
 have oD:=H₂.off nD
 have fD:=H₂.fresh nD
 have gD:(h₂.push { cls:=.type "dict", data:=.dict #[] }).get? h₂.objs.size=some { cls:=.type "dict", data:=.dict #[] }:=Heap.get?_push_size _ rfl
 have up₃:∀ b o,h₂.get? b=some o→(h₂.push { cls:=.type "dict", data:=.dict #[] }).get? b=some o:=fun b o e=>Heap.get?_push_of_some _ e
 generalize h₂.push { cls:=.type "dict", data:=.dict #[] }=h₃ at gD up₃ ⊢
 generalize h₂.objs.size=D at gD nD oD fD ⊢
 have S₃:Step K ρ₁ h₂ ρ₁ h₃:=Step.grow up₃
 have H₃:=H₂.grow up₃
 have F₃:=(F₁.step H₁ S₂).step H₂ S₃
 refine wpAny_bind (wpAny_mono (Iv ok (Q:=fun x y hp=>(x = "x" ∨ x = "y" ∨ x = "z")∧Ac x [.r i,.d (.str "is"),.d .none,.d (.str y)] Q hp) hx hy hshape (s:={ s with heap:=h₃,toks:=t₁+1+1 }) q₁ F₃ H₃) ?_ (fun w w x=>x))
 rintro rd s' ⟨d,x,y,ty,hp₄,ρ₄,h₄,t₄,rfl,rfl,Dx,⟨hx3,q₄⟩,H₄,S₄,n₄,o₄⟩
 refine wpAny_bind (wpAny_standAt (wpAny_pure ?_))
 obtain⟨tk,epo,g₄⟩:=KT Dx
 have gD₄:=S₄.keep _ _ gD (H₃.newTb fD) oD.mu
 refine⟨d,x,tk,.str y ty,epo,rfl,g₄,AP n₄ gD,?_,gD₄,?_⟩
 ·rw[beq_eq_false_iff_ne]
  rintro rfl
  obtain⟨o',eo⟩:=N.sm
  by_cases hT:sysModules=K.tb
  ·obtain⟨ps,_,e⟩:=H₃.tab
   rw[hT,e] at n₄;cases n₄
  ·rw[H₃.keep _ _ eo hT] at n₄;cases n₄
 intro h₅ nn g₅ hs
 have gM₄:h₄.get? M=some (W.methodObj (.ref 228) (.ref p.a)):=S₄.keep _ _ (up₃ _ _ gM) (H₃.newTb fM) oM.mu
 have hMD:M≠D:=AP nD gM
 have oD₄:Off ρ₄ D:=oD.step S₄ gD
 have H₅:HRel K ρ₄ hp₄ h₅:=H₄.other fD oD₄ hs.extBut (fun o' e' vs n hq=>by rw[gD₄] at e';cases e';cases hq)
 have S₅:Step K ρ₁ h₂ ρ₄ h₅:=(S₃.trans S₄).skip nD hs.extBut
 have S₂₅:=S₂.trans S₅
 refine⟨hs.extBut _ _ hMD gM₄,H₅.keep _ _ hof Y.tb,hdf,?_⟩
 refine wpAny_call (W.method_call (hs.extBut _ _ hMD gM₄) ?_)
 have R:VRs ρ₄ h₅ [.r i,.d (.str "is"),.d .none,.d (.str y)] ([.ref p.a,.str "is" (t₁+1),.none]++[.str y ty]):=.cons (r₁.step S₂₅ H₁) (.cons (.str ..) (.cons DR.none (.cons (.str ..) .nil)))
 have ok':OkA 2 A:=ok.le Lq
 refine codeAny_mono (Ch N hx3 A ok' ρ₄ hp₄ { s with heap:=h₅,toks:=t₄ } _ _ [.str y ty] Q E rfl q₄ H₅ R) ?_
 intro rr s₆ z
 cases rr with
 | ok f=>cases f<;>first | exact z.elim | exact PostE.after (S₁.trans S₂₅) z
 | error e=>exact z
end Mine
namespace Mine
open PySem PySem.Spec PySem.Calls PyProof.Rows
abbrev StrT(K:KX):Prop:=SoundF K 3 (.ref 240) ([]:List Str) CE
variable{K:KX}{Kf:W.Frag}{mg mb:Str→Option Value}
def DP:XS:=(sCons (sAssign 1 (xCall AU (lCons (xMethS mJoin (cS "\n") (lCons (xMeth 231 BM (xVar 0) (lCons (cS "IS") lNil) lNil) lNil)) (lCons (cS "=\"") (lCons (cS " \"") lNil)))))
 (sCons (sAssign 2 (xCall Ci (lCons (xCall CE (lCons (xVar 1) lNil)) lNil)))
 (sCons (sAssign 3 (xList true lNil))
 (sCons (sAssign 4 (xMeth 76 A7 (xVar 2) lNil lNil))
 (sCons (sWhile (bCmp opNe (xVar 4) (cS "")) (sCons (sExpr (xMethL mAppend (xVar 3) (lCons (xVar 4) lNil)))
 (sCons (sAssign 4 (xMeth 76 A7 (xVar 2) lNil lNil))
 sNil)))
 (sCons (sRet (xVar 3))
 sNil))))))
theorem FC(N:S3 K Kf mg mb)(T:StrT K)(fd:FuncData){a L:Addr}:SoundSs K 4 (callEnvC (fdOf (stAt 18) fd) L a) (lk ((["book"]:List Str)++(["text", "lexer", "pairs", "word"]:List Str))) (fBody (stAt 18)) DP:=by
 conv=>arg 5;whnf
 refine A0 ?_ ?_;refine A5 ?_ ?_ ?_ ?_;refine AN N.G (Ab N.x_replace) ?_ ?_ ?_ N.g_replace ?_ ?_;exact SoundF.le (Bt N) Lq;refine l_c ?_ ?_ ?_;refine Bc (id := "str.join") ?_ ?_ ?_ ?_ ?_ ?_ ?_ ?_;exact Fk;exact AM;refine l_c ?_ ?_ ?_;refine AK N.X N.x_Headers_get_all N.m_Headers_get_all ?_ ?_ ?_ ?_ ?_ ?_ ?_ ?_ ?_ ?_;exact SoundF.le (Dh N) Lq;exact A1 (.inl rfl) rfl rfl rfl;refine l_c ?_ ?_ ?_;exact AM;exact A6;exact rfl;exact BH;rw[N.attrs];decide;exact rfl;exact rfl;exact rfl;exact rfl;exact rfl;exact A6;exact rfl;exact PySem.F.slot_str_join;exact PySem.F.type_str_join;exact rfl;exact rfl;exact rfl;refine l_c ?_ ?_ ?_;exact AM;refine l_c ?_ ?_ ?_;exact AM;exact A6;exact rfl;exact rfl;exact rfl;exact rfl;exact rfl;exact Ao rfl;exact .inl rfl;exact rfl;exact rfl;refine A0 ?_ ?_;refine A5 ?_ ?_ ?_ ?_;refine OV N.G N.X ?_ ?_ (Ka N.c__netrclex) ?_ N.g__netrclex ?_ ?_ ?_;exact SoundF.le (E3 N) Lq;refine l_c ?_ ?_ ?_;refine AN N.G (Ab N.x__law_stream) ?_ ?_ ?_ N.g__law_stream ?_ ?_;exact SoundF.le (T) Lq;refine l_c ?_ ?_ ?_;exact A1 (.inl rfl) rfl rfl rfl;exact A6;exact rfl;exact rfl;exact rfl;exact Ao rfl;exact A6;exact rfl;exact rfl;exact rfl;exact rfl;exact rfl;exact .inl rfl;exact rfl;exact rfl;refine A0 ?_ ?_;refine A5 ?_ ?_ ?_ ?_;refine AZ (m:=true) ?_;exact A6;exact .inl rfl;exact rfl;exact rfl;refine A0 ?_ ?_;refine A5 ?_ ?_ ?_ ?_;refine AK N.X N.x__netrclex_get_token N.m__netrclex_get_token ?_ ?_ ?_ ?_ ?_ ?_ ?_ ?_ ?_ ?_;exact SoundF.le (AS N) Lq;exact A1 (.inl rfl) rfl rfl rfl;exact A6;exact BH;rw[N.attrs];decide;exact rfl;exact rfl;exact rfl;exact rfl;exact rfl;exact .inl rfl;exact rfl;exact rfl;refine A0 ?_ ?_;refine Ck ?_ ?_;refine AI ?_ ?_ ?_ ?_;exact FQ;exact A1 (.inl rfl) rfl rfl rfl;exact AM;exact rfl;refine A0 ?_ ?_;refine Ap ?_ ?_ ?_;refine An (id := "list.append") ?_ ?_ ?_ ?_ ?_ ?_ ?_ ?_;exact Av;exact A1 (.inl rfl) rfl rfl rfl;refine l_c ?_ ?_ ?_;exact A1 (.inl rfl) rfl rfl rfl;exact A6;exact rfl;exact PySem.F.slot_list_append;exact PySem.F.type_list_append;exact rfl;exact rfl;exact rfl;exact rfl;exact rfl;refine A0 ?_ ?_;refine A5 ?_ ?_ ?_ ?_;refine AK N.X N.x__netrclex_get_token N.m__netrclex_get_token ?_ ?_ ?_ ?_ ?_ ?_ ?_ ?_ ?_ ?_;exact SoundF.le (AS N) Lq;exact A1 (.inl rfl) rfl rfl rfl;exact A6;exact BH;rw[N.attrs];decide;exact rfl;exact rfl;exact rfl;exact rfl;exact rfl;exact .inl rfl;exact rfl;exact rfl;exact A3;refine A0 ?_ ?_;refine Ag ?_;exact A1 (.inl rfl) rfl rfl rfl;exact A3
def Br:FT:=runFn false (bPlain 1) 4 DP
theorem Fz(N:S3 K Kf mg mb)(T:StrT K):SoundF K 5 (.ref 275) ([]:List Str) Br:=by
 obtain⟨fd,X,hd,hk⟩:=N.x__law_pairs
 exact Bj (rest:=(["text", "lexer", "pairs", "word"]:List Str)) (kn:=([]:List Str)) N.G X (B6 (ps:=(["book"]:List Str)) (fun ras h=>by rw[B0 hd hk];obtain⟨a0,rfl⟩:=len1 h;rfl)) (by decide) (kindsOk rfl) (noFree rfl) (fun L=>FC N T fd)
def BF:XS:=(sCons (sAssign 1 (xCall DF lNil))
 (sCons (sAssign 2 (xList false lNil))
 (sCons (sWhile (bVal (cB true)) (sCons (sAssign 3 (xCall AU (lCons (xMeth 76 A7 (xVar 0) lNil lNil) (lStar (xVar 2)))))
 (sCons (sAssign 4 (xCall AU (lCons (xMeth 76 A7 (xVar 0) lNil lNil) (lStar (xVar 2)))))
 (sCons (sIf (bCmp opEq (xVar 3) (cS "")) (sCons (sRet (xVar 2))
 sNil) sNil)
 (sCons (sIf (bCmp opNe (xVar 3) (xVar 4)) (sCons (sIf (bCmp opNotIn (xVar 3) (xList false (lStrs ["x", "y", "z"]))) (sCons (sSwap 3 4 (xTuple (lCons (xVar 4) (lCons (xVar 3) lNil))))
 sNil) sNil)
 (sCons (sIf (bCmp opIn (xVar 3) (xList false (lStrs ["x", "y", "z"]))) (sCons (sIf (bCmp opIn (xVar 3) (xVar 4)) (sCons (sRet cNone)
 sNil) sNil)
 (sCons (sExpr (xAddH (xVar 1) (xVar 3) (xVar 4)))
 (sCons (sAssign 2 (xCall Br (lCons (xVar 1) lNil)))
 sNil))) (sCons (sIf (bCmp opNe (xBin opItem (xVar 3) (cI 0)) (xBin opItem (xVar 4) (cI 0))) (sCons (sRet cNone)
 sNil) (sCons (sForZ (tTuple 2 (tsCons (tName 5) (tsCons (tName 6) tsNil))) (lCons (xCall BV (lCons (xVar 3) lNil)) (lCons (xCall BV (lCons (xVar 4) lNil)) lNil)) (sCons (sExpr (xMeth 76 AC (xVar 0) (lCons (xVar 5) lNil) lNil))
 (sCons (sExpr (xMeth 76 AC (xVar 0) (lCons (xVar 6) lNil) lNil))
 sNil)))
 sNil))
 sNil))
 sNil)) sNil)
 sNil)))))
 sNil)))
theorem DH(N:S3 K Kf mg mb)(T:StrT K)(fd:FuncData){a L:Addr}:SoundSs K 5 (callEnvC (fdOf (stAt 19) fd) L a) (lk ((["lexer"]:List Str)++(["book", "pairs", "left", "right", "one", "two"]:List Str))) (fBody (stAt 19)) BF:=by
 conv=>arg 5;whnf
 refine A0 ?_ ?_;refine A5 ?_ ?_ ?_ ?_;refine NN N.G N.X ?_ (Ka N.c_Headers) ?_ N.g_Headers ?_;exact SoundF.le (HY N) Lq;exact rfl;exact rfl;exact .inl rfl;exact rfl;exact rfl;refine A0 ?_ ?_;refine A5 ?_ ?_ ?_ ?_;refine AZ ?_;exact A6;exact .inl rfl;exact rfl;exact rfl;refine A0 ?_ ?_;refine Ck ?_ ?_;refine Ed ?_ ?_;exact CD;exact fun z=>rfl;refine A0 ?_ ?_;refine A5 ?_ ?_ ?_ ?_;refine Db N.G N.X ?_ ?_ N.k_replace ?_ N.g_replace ?_ ?_ ?_;exact SoundF.le (Bt N) Lq;refine l_c ?_ ?_ ?_;refine AK N.X N.x__netrclex_get_token N.m__netrclex_get_token ?_ ?_ ?_ ?_ ?_ ?_ ?_ ?_ ?_ ?_;exact SoundF.le (AS N) Lq;exact A1 (.inl rfl) rfl rfl rfl;exact A6;exact BH;rw[N.attrs];decide;exact rfl;exact rfl;exact rfl;exact rfl;exact rfl;refine ES ?_ ?_;exact A1 (.inl rfl) rfl rfl rfl;exact rfl;exact rfl;exact rfl;exact rfl;exact rfl;exact rfl;exact .inl rfl;exact rfl;exact rfl;refine A0 ?_ ?_;refine A5 ?_ ?_ ?_ ?_;refine Db N.G N.X ?_ ?_ N.k_replace ?_ N.g_replace ?_ ?_ ?_;exact SoundF.le (Bt N) Lq;refine l_c ?_ ?_ ?_;refine AK N.X N.x__netrclex_get_token N.m__netrclex_get_token ?_ ?_ ?_ ?_ ?_ ?_ ?_ ?_ ?_ ?_;exact SoundF.le (AS N) Lq;exact A1 (.inl rfl) rfl rfl rfl;exact A6;exact BH;rw[N.attrs];decide;exact rfl;exact rfl;exact rfl;exact rfl;exact rfl;refine ES ?_ ?_;exact A1 (.inl rfl) rfl rfl rfl;exact rfl;exact rfl;exact rfl;exact rfl;exact rfl;exact rfl;exact .inl rfl;exact rfl;exact rfl;refine A0 ?_ ?_;refine Ar ?_ ?_ ?_;refine AI ?_ ?_ ?_ ?_;exact CY;exact A1 (.inl rfl) rfl rfl rfl;exact AM;exact rfl;refine A0 ?_ ?_;refine Ag ?_;exact A1 (.inl rfl) rfl rfl rfl;exact A3;exact A3;refine A0 ?_ ?_;refine Ar ?_ ?_ ?_;refine AI ?_ ?_ ?_ ?_;exact FQ;exact A1 (.inl rfl) rfl rfl rfl;exact A1 (.inl rfl) rfl rfl rfl;exact rfl;refine A0 ?_ ?_;refine Ar ?_ ?_ ?_;refine AI ?_ ?_ ?_ ?_;exact EA;exact A1 (.inl rfl) rfl rfl rfl;refine AZ ?_;refine HG ?_;(focus repeat constructor);exact rfl;refine A0 ?_ ?_;refine Mr ?_ ?_ ?_ ?_ ?_ ?_ ?_;refine Fw ?_;refine l_c ?_ ?_ ?_;exact A1 (.inl rfl) rfl rfl rfl;refine l_c ?_ ?_ ?_;exact A1 (.inl rfl) rfl rfl rfl;exact A6;exact rfl;exact rfl;exact rfl;exact rfl;exact rfl;exact rfl;exact rfl;exact rfl;exact A3;exact A3;refine A0 ?_ ?_;refine Ar ?_ ?_ ?_;refine AI ?_ ?_ ?_ ?_;exact Gz;exact A1 (.inl rfl) rfl rfl rfl;refine AZ ?_;refine HG ?_;(focus repeat constructor);exact rfl;refine A0 ?_ ?_;refine Ar ?_ ?_ ?_;refine AI ?_ ?_ ?_ ?_;exact Gz;exact A1 (.inl rfl) rfl rfl rfl;exact A1 (.inl rfl) rfl rfl rfl;exact rfl;refine A0 ?_ ?_;refine Ag ?_;exact Bi;exact A3;exact A3;refine A0 ?_ ?_;refine Ap ?_ ?_ ?_;refine NS N ?_ ?_ ?_ ?_ ?_ ?_ ?_ ?_;exact A1 (.inl rfl) rfl rfl rfl;exact A1 (.inl rfl) rfl rfl rfl;exact A1 (.inl rfl) rfl rfl rfl;exact rfl;exact rfl;exact rfl;exact rfl;exact rfl;exact rfl;exact rfl;refine A0 ?_ ?_;refine A5 ?_ ?_ ?_ ?_;refine AN N.G (Ab N.x__law_pairs) ?_ ?_ ?_ N.g__law_pairs ?_ ?_;exact SoundF.le (Fz N T) Lq;refine l_c ?_ ?_ ?_;exact A1 (.inl rfl) rfl rfl rfl;exact A6;exact rfl;exact rfl;exact rfl;exact Ao rfl;exact .inl rfl;exact rfl;exact rfl;exact A3;refine A0 ?_ ?_;refine Ar ?_ ?_ ?_;refine AI ?_ ?_ ?_ ?_;exact FQ;refine AG ?_ ?_ ?_;exact A1 (.inl rfl) rfl rfl rfl;exact AF;exact fun z z=>rfl;refine AG ?_ ?_ ?_;exact A1 (.inl rfl) rfl rfl rfl;exact AF;exact fun z z=>rfl;exact rfl;refine A0 ?_ ?_;refine Ag ?_;exact Bi;exact A3;refine A0 ?_ ?_;refine Ms N.G ?_ ?_ ?_ ?_ N.zip0 N.zip1 ?_ ?_;refine E6 ?_;refine Bz ?_ ?_ ?_;exact Al (.inl rfl) rfl;refine Bz ?_ ?_ ?_;exact Al (.inl rfl) rfl;exact FH;exact rfl;exact rfl;refine l_c ?_ ?_ ?_;refine AN N.G (Ab N.x__law_cut) ?_ ?_ ?_ N.g__law_cut ?_ ?_;exact SoundF.le (Ef N) Lq;refine l_c ?_ ?_ ?_;exact A1 (.inl rfl) rfl rfl rfl;exact A6;exact rfl;exact rfl;exact rfl;exact Ao rfl;refine l_c ?_ ?_ ?_;refine AN N.G (Ab N.x__law_cut) ?_ ?_ ?_ N.g__law_cut ?_ ?_;exact SoundF.le (Ef N) Lq;refine l_c ?_ ?_ ?_;exact A1 (.inl rfl) rfl rfl rfl;exact A6;exact rfl;exact rfl;exact rfl;exact Ao rfl;exact A6;exact rfl;exact rfl;refine A0 ?_ ?_;refine Ap ?_ ?_ ?_;refine AK N.X N.x__netrclex_push_token N.m__netrclex_push_token ?_ ?_ ?_ ?_ ?_ ?_ ?_ ?_ ?_ ?_;exact SoundF.le (Aa N) Lq;exact A1 (.inl rfl) rfl rfl rfl;refine l_c ?_ ?_ ?_;exact A1 (.inl rfl) rfl rfl rfl;exact A6;exact rfl;exact BH;rw[N.attrs];decide;exact rfl;exact rfl;exact rfl;exact rfl;exact rfl;exact rfl;exact rfl;refine A0 ?_ ?_;refine Ap ?_ ?_ ?_;refine AK N.X N.x__netrclex_push_token N.m__netrclex_push_token ?_ ?_ ?_ ?_ ?_ ?_ ?_ ?_ ?_ ?_;exact SoundF.le (Aa N) Lq;exact A1 (.inl rfl) rfl rfl rfl;refine l_c ?_ ?_ ?_;exact A1 (.inl rfl) rfl rfl rfl;exact A6;exact rfl;exact BH;rw[N.attrs];decide;exact rfl;exact rfl;exact rfl;exact rfl;exact rfl;exact rfl;exact rfl;exact A3;exact rfl;exact rfl;exact fun z=>rfl;exact A3;exact A3;exact A3;exact A3;exact A3;exact A3
def BL:FT:=runFn false (bPlain 1) 6 BF
theorem Df(N:S3 K Kf mg mb)(T:StrT K):SoundF K 6 (.ref 282) ([]:List Str) BL:=by
 obtain⟨fd,X,hd,hk⟩:=N.x__law_made_alike
 exact Bj (rest:=(["book", "pairs", "left", "right", "one", "two"]:List Str)) (kn:=([]:List Str)) N.G X (B6 (ps:=(["lexer"]:List Str)) (fun ras h=>by rw[B0 hd hk];obtain⟨a0,rfl⟩:=len1 h;rfl)) (by decide) (kindsOk rfl) (noFree rfl) (fun L=>DH N T fd)
def Fg:XS:=(sAssign 1 (xList false (lCons (cI 1) (lCons (cI 16) (lCons (cI 34) (lCons (cI 2) (lCons (cI 0) (lCons (cI 37) lNil))))))))
theorem Mk(N:S3 K Kf mg mb)(fd:FuncData){a L:Addr}:SoundS K 14 (callEnvC (fdOf (stAt 22) fd) L a) (lk (["script", "own", "numbers", "one", "two", "text", "k", "sign", "way", "word", "lexer", "terms", "pairs", "due"]:List Str)) ((fBody (stAt 22)).getD 0 default) Fg:=by
 conv=>arg 5;whnf
 refine A5 ?_ ?_ ?_ ?_;refine AZ ?_;refine l_c ?_ ?_ ?_;exact AF;refine l_c ?_ ?_ ?_;exact AF;refine l_c ?_ ?_ ?_;exact AF;refine l_c ?_ ?_ ?_;exact AF;refine l_c ?_ ?_ ?_;exact AF;refine l_c ?_ ?_ ?_;exact AF;exact A6;exact rfl;exact rfl;exact rfl;exact rfl;exact rfl;exact rfl;exact .inl rfl;exact rfl;exact rfl
def EO:XS:=(sAssign 2 (xComp false 1 (tName 0) (xSlice (xBin opAdd (xVar 0) (xSlice (xVar 1) (pSome (xCall fLen (lCons (xVar 0) lNil))) pNone)) pNone (pSome (cI 6))) iNil (xBin opMod (xVar 0) (cI 256))))
theorem Mj(N:S3 K Kf mg mb)(fd:FuncData){a L:Addr}:SoundS K 14 (callEnvC (fdOf (stAt 22) fd) L a) (lk (["script", "own", "numbers", "one", "two", "text", "k", "sign", "way", "word", "lexer", "terms", "pairs", "due"]:List Str)) ((fBody (stAt 22)).getD 1 default) EO:=by
 conv=>arg 5;whnf
 refine FU ["x"] (m:=false) ?_ ?_ ?_ ?_ ?_ ?_ ?_ ?_ ?_;refine Da ?_ ?_ ?_;refine Ax ?_ ?_ ?_;exact Cy;exact A1 (.inl rfl) rfl rfl rfl;refine Da ?_ ?_ ?_;exact A1 (.inl rfl) rfl rfl rfl;refine EM ?_;refine CB N.G ?_ ?_ ?_ N.len0 N.len1 ?_ ?_;exact E1;refine l_c ?_ ?_ ?_;exact A1 (.inl rfl) rfl rfl rfl;exact A6;exact rfl;exact rfl;exact rfl;exact rfl;exact EN;exact EN;refine EM ?_;exact AF;intro _ _;exact Ay rfl rfl;intro _ _;exact DU;intro _ _;refine Ax ?_ ?_ ?_;exact GM;exact A1 (.inl rfl) rfl rfl rfl;exact AF;exact rfl;exact fun z=>rfl;exact rfl;exact rfl;exact rfl
def Fb:XS:=(sAssign 3 (xCall Bs (lCons (xList false (lCons (xBin opItem (xVar 2) (cI 0)) (lCons (xBin opItem (xVar 2) (cI 2)) (lCons (xBin opItem (xVar 2) (cI 4)) lNil)))) lNil)))
theorem Mi(N:S3 K Kf mg mb)(fd:FuncData){a L:Addr}:SoundS K 14 (callEnvC (fdOf (stAt 22) fd) L a) (lk (["script", "own", "numbers", "one", "two", "text", "k", "sign", "way", "word", "lexer", "terms", "pairs", "due"]:List Str)) ((fBody (stAt 22)).getD 2 default) Fb:=by
 conv=>arg 5;whnf
 refine A5 ?_ ?_ ?_ ?_;refine AN N.G (Ab N.x__law_drawn) ?_ ?_ ?_ N.g__law_drawn ?_ ?_;exact SoundF.le (Dg N) Lq;refine l_c ?_ ?_ ?_;refine AZ ?_;refine l_c ?_ ?_ ?_;refine AG ?_ ?_ ?_;exact A1 (.inl rfl) rfl rfl rfl;exact AF;exact fun z z=>rfl;refine l_c ?_ ?_ ?_;refine AG ?_ ?_ ?_;exact A1 (.inl rfl) rfl rfl rfl;exact AF;exact fun z z=>rfl;refine l_c ?_ ?_ ?_;refine AG ?_ ?_ ?_;exact A1 (.inl rfl) rfl rfl rfl;exact AF;exact fun z z=>rfl;exact A6;exact rfl;exact rfl;exact rfl;exact A6;exact rfl;exact rfl;exact rfl;exact Ao rfl;exact .inl rfl;exact rfl;exact rfl
def Fa:XS:=(sAssign 4 (xCall Bs (lCons (xList false (lCons (xBin opItem (xVar 2) (cI 1)) (lCons (xBin opItem (xVar 2) (cI 3)) (lCons (xBin opItem (xVar 2) (cI 5)) lNil)))) lNil)))
theorem Mh(N:S3 K Kf mg mb)(fd:FuncData){a L:Addr}:SoundS K 14 (callEnvC (fdOf (stAt 22) fd) L a) (lk (["script", "own", "numbers", "one", "two", "text", "k", "sign", "way", "word", "lexer", "terms", "pairs", "due"]:List Str)) ((fBody (stAt 22)).getD 3 default) Fa:=by
 conv=>arg 5;whnf
 refine A5 ?_ ?_ ?_ ?_;refine AN N.G (Ab N.x__law_drawn) ?_ ?_ ?_ N.g__law_drawn ?_ ?_;exact SoundF.le (Dg N) Lq;refine l_c ?_ ?_ ?_;refine AZ ?_;refine l_c ?_ ?_ ?_;refine AG ?_ ?_ ?_;exact A1 (.inl rfl) rfl rfl rfl;exact AF;exact fun z z=>rfl;refine l_c ?_ ?_ ?_;refine AG ?_ ?_ ?_;exact A1 (.inl rfl) rfl rfl rfl;exact AF;exact fun z z=>rfl;refine l_c ?_ ?_ ?_;refine AG ?_ ?_ ?_;exact A1 (.inl rfl) rfl rfl rfl;exact AF;exact fun z z=>rfl;exact A6;exact rfl;exact rfl;exact rfl;exact A6;exact rfl;exact rfl;exact rfl;exact Ao rfl;exact .inl rfl;exact rfl;exact rfl
def FZ:XS:=(sAssign 5 (cS ""))
theorem Mg(N:S3 K Kf mg mb)(fd:FuncData){a L:Addr}:SoundS K 14 (callEnvC (fdOf (stAt 22) fd) L a) (lk (["script", "own", "numbers", "one", "two", "text", "k", "sign", "way", "word", "lexer", "terms", "pairs", "due"]:List Str)) ((fBody (stAt 22)).getD 4 default) FZ:=by
 conv=>arg 5;whnf
 refine A5 ?_ ?_ ?_ ?_;exact AM;exact .inl rfl;exact rfl;exact rfl
def FY:XS:=(sFor (tName 6) (xCall fRange (lCons (xCall fLen (lCons (xBin opAdd (xVar 3) (xVar 4)) lNil)) lNil)) (sCons (sAssign 7 (xBin opItem (xBin opAdd (xVar 3) (xVar 4)) (xVar 6)))
 (sCons (sAssign 8 (xBin opDiv (xBin opItem (xVar 2) (xBin opMod (xVar 6) (cI 6))) (cI 64)))
 (sCons (sAssign 9 (xBin opAdd (cS "\\") (xVar 7)))
 (sCons (sIf (bCmp opEq (xBin opMod (xVar 8) (cI 2)) (cI 0)) (sCons (sAssign 9 (xBin opAdd (xBin opAdd (cS "\"") (xIte (bCmp opIn (xVar 7) (cS "\"\\")) (xVar 9) (xVar 7))) (cS "\"")))
 sNil) sNil)
 (sCons (sAug opIAdd 5 (xBin opAdd (xVar 9) (xBin opItem (cS " \n") (xBin opDiv (xVar 8) (cI 2)))))
 sNil))))))
theorem Mf(N:S3 K Kf mg mb)(fd:FuncData){a L:Addr}:SoundS K 14 (callEnvC (fdOf (stAt 22) fd) L a) (lk (["script", "own", "numbers", "one", "two", "text", "k", "sign", "way", "word", "lexer", "terms", "pairs", "due"]:List Str)) ((fBody (stAt 22)).getD 5 default) FY:=by
 conv=>arg 5;whnf
 refine DL ?_ ?_ ?_ ?_;exact Al (.inl rfl) rfl;refine CA N.G ?_ ?_ ?_ N.range0 N.range1 ?_ ?_;exact Cs;refine l_c ?_ ?_ ?_;refine CB N.G ?_ ?_ ?_ N.len0 N.len1 ?_ ?_;exact E1;refine l_c ?_ ?_ ?_;refine Ax ?_ ?_ ?_;exact Cy;exact A1 (.inl rfl) rfl rfl rfl;exact A1 (.inl rfl) rfl rfl rfl;exact A6;exact rfl;exact rfl;exact rfl;exact rfl;exact A6;exact rfl;exact rfl;exact rfl;exact rfl;refine A0 ?_ ?_;refine A5 ?_ ?_ ?_ ?_;refine AG ?_ ?_ ?_;refine Ax ?_ ?_ ?_;exact Cy;exact A1 (.inl rfl) rfl rfl rfl;exact A1 (.inl rfl) rfl rfl rfl;exact A1 (.inl rfl) rfl rfl rfl;exact fun z z=>rfl;exact .inl rfl;exact rfl;exact rfl;refine A0 ?_ ?_;refine A5 ?_ ?_ ?_ ?_;refine Ax ?_ ?_ ?_;exact JS;refine AG ?_ ?_ ?_;exact A1 (.inl rfl) rfl rfl rfl;refine Ax ?_ ?_ ?_;exact GM;exact A1 (.inl rfl) rfl rfl rfl;exact AF;exact fun z z=>rfl;exact AF;exact .inl rfl;exact rfl;exact rfl;refine A0 ?_ ?_;refine A5 ?_ ?_ ?_ ?_;refine Ax ?_ ?_ ?_;exact Cy;exact AM;exact A1 (.inl rfl) rfl rfl rfl;exact .inl rfl;exact rfl;exact rfl;refine A0 ?_ ?_;refine Ar ?_ ?_ ?_;refine AI ?_ ?_ ?_ ?_;exact CY;refine Ax ?_ ?_ ?_;exact GM;exact A1 (.inl rfl) rfl rfl rfl;exact AF;exact AF;exact rfl;refine A0 ?_ ?_;refine A5 ?_ ?_ ?_ ?_;refine Ax ?_ ?_ ?_;exact Cy;refine Ax ?_ ?_ ?_;exact Cy;exact AM;refine E2 ?_ ?_ ?_;refine AI ?_ ?_ ?_ ?_;exact Gz;exact A1 (.inl rfl) rfl rfl rfl;exact AM;exact rfl;exact A1 (.inl rfl) rfl rfl rfl;exact A1 (.inl rfl) rfl rfl rfl;exact AM;exact .inl rfl;exact rfl;exact rfl;exact A3;exact A3;refine A0 ?_ ?_;refine CJ ?_ ?_ ?_ ?_;exact B7;refine Ax ?_ ?_ ?_;exact Cy;exact A1 (.inl rfl) rfl rfl rfl;refine AG ?_ ?_ ?_;exact AM;refine Ax ?_ ?_ ?_;exact JS;exact A1 (.inl rfl) rfl rfl rfl;exact AF;exact fun z z=>rfl;exact .inl rfl;exact rfl;exact A3;exact fun z=>rfl
def HD:XS:=(sAssign 11 (xList false (lCons (xCall CC (lCons (xVar 10) lNil)) (lCons (xCall CC (lCons (xVar 10) lNil)) lNil))))
theorem Me(N:S3 K Kf mg mb)(fd:FuncData){a L:Addr}:SoundS K 14 (callEnvC (fdOf (stAt 22) fd) L a) (lk (["script", "own", "numbers", "one", "two", "text", "k", "sign", "way", "word", "lexer", "terms", "pairs", "due"]:List Str)) ((fBody (stAt 22)).getD 7 default) HD:=by
 conv=>arg 5;whnf
 refine A5 ?_ ?_ ?_ ?_;refine AZ ?_;refine l_c ?_ ?_ ?_;refine AN N.G (Ab N.x__law_term) ?_ ?_ ?_ N.g__law_term ?_ ?_;exact SoundF.le (E4 N) Lq;refine l_c ?_ ?_ ?_;exact A1 (.inl rfl) rfl rfl rfl;exact A6;exact rfl;exact rfl;exact rfl;exact Ao rfl;refine l_c ?_ ?_ ?_;refine AN N.G (Ab N.x__law_term) ?_ ?_ ?_ N.g__law_term ?_ ?_;exact SoundF.le (E4 N) Lq;refine l_c ?_ ?_ ?_;exact A1 (.inl rfl) rfl rfl rfl;exact A6;exact rfl;exact rfl;exact rfl;exact Ao rfl;exact A6;exact rfl;exact rfl;exact .inl rfl;exact rfl;exact rfl
def HC:XS:=(sIf (bCmp opNe (xVar 11) (xList false (lCons (xVar 3) (lCons (xVar 4) lNil)))) (sCons (sRet (cB false))
 sNil) sNil)
theorem Md(N:S3 K Kf mg mb)(fd:FuncData){a L:Addr}:SoundS K 14 (callEnvC (fdOf (stAt 22) fd) L a) (lk (["script", "own", "numbers", "one", "two", "text", "k", "sign", "way", "word", "lexer", "terms", "pairs", "due"]:List Str)) ((fBody (stAt 22)).getD 8 default) HC:=by
 conv=>arg 5;whnf
 refine Ar ?_ ?_ ?_;refine AI ?_ ?_ ?_ ?_;exact FQ;exact A1 (.inl rfl) rfl rfl rfl;refine AZ ?_;refine l_c ?_ ?_ ?_;exact A1 (.inl rfl) rfl rfl rfl;refine l_c ?_ ?_ ?_;exact A1 (.inl rfl) rfl rfl rfl;exact A6;exact rfl;exact rfl;exact rfl;refine A0 ?_ ?_;refine Ag ?_;exact CD;exact A3;exact A3
def HB:XS:=(sExpr (xMeth 76 AC (xVar 10) (lCons (xBin opItem (xVar 11) (cI 0)) lNil) lNil))
theorem Mc(N:S3 K Kf mg mb)(fd:FuncData){a L:Addr}:SoundS K 14 (callEnvC (fdOf (stAt 22) fd) L a) (lk (["script", "own", "numbers", "one", "two", "text", "k", "sign", "way", "word", "lexer", "terms", "pairs", "due"]:List Str)) ((fBody (stAt 22)).getD 9 default) HB:=by
 conv=>arg 5;whnf
 refine Ap ?_ ?_ ?_;refine AK N.X N.x__netrclex_push_token N.m__netrclex_push_token ?_ ?_ ?_ ?_ ?_ ?_ ?_ ?_ ?_ ?_;exact SoundF.le (Aa N) Lq;exact A1 (.inl rfl) rfl rfl rfl;refine l_c ?_ ?_ ?_;refine AG ?_ ?_ ?_;exact A1 (.inl rfl) rfl rfl rfl;exact AF;exact fun z z=>rfl;exact A6;exact rfl;exact BH;rw[N.attrs];decide;exact rfl;exact rfl;exact rfl;exact rfl;exact rfl;exact rfl;exact rfl
def Ff:XS:=(sExpr (xMeth 76 AC (xVar 10) (lCons (xBin opItem (xVar 11) (cI 1)) lNil) lNil))
theorem Kv(N:S3 K Kf mg mb)(fd:FuncData){a L:Addr}:SoundS K 14 (callEnvC (fdOf (stAt 22) fd) L a) (lk (["script", "own", "numbers", "one", "two", "text", "k", "sign", "way", "word", "lexer", "terms", "pairs", "due"]:List Str)) ((fBody (stAt 22)).getD 10 default) Ff:=by
 conv=>arg 5;whnf
 refine Ap ?_ ?_ ?_;refine AK N.X N.x__netrclex_push_token N.m__netrclex_push_token ?_ ?_ ?_ ?_ ?_ ?_ ?_ ?_ ?_ ?_;exact SoundF.le (Aa N) Lq;exact A1 (.inl rfl) rfl rfl rfl;refine l_c ?_ ?_ ?_;refine AG ?_ ?_ ?_;exact A1 (.inl rfl) rfl rfl rfl;exact AF;exact fun z z=>rfl;exact A6;exact rfl;exact BH;rw[N.attrs];decide;exact rfl;exact rfl;exact rfl;exact rfl;exact rfl;exact rfl;exact rfl
def Ho:XS:=(sAssign 12 (xCall BL (lCons (xVar 10) lNil)))
theorem Ku(N:S3 K Kf mg mb)(T:StrT K)(fd:FuncData){a L:Addr}:SoundS K 14 (callEnvC (fdOf (stAt 22) fd) L a) (lk (["script", "own", "numbers", "one", "two", "text", "k", "sign", "way", "word", "lexer", "terms", "pairs", "due"]:List Str)) ((fBody (stAt 22)).getD 11 default) Ho:=by
 conv=>arg 5;whnf
 refine A5 ?_ ?_ ?_ ?_;refine AN N.G (Ab N.x__law_made_alike) ?_ ?_ ?_ N.g__law_made_alike ?_ ?_;exact SoundF.le (Df N T) Lq;refine l_c ?_ ?_ ?_;exact A1 (.inl rfl) rfl rfl rfl;exact A6;exact rfl;exact rfl;exact rfl;exact Ao rfl;exact .inl rfl;exact rfl;exact rfl
def Hn:XS:=(sAssign 13 (xCall DE (lCons (xVar 11) lNil)))
theorem Kt(N:S3 K Kf mg mb)(fd:FuncData){a L:Addr}:SoundS K 14 (callEnvC (fdOf (stAt 22) fd) L a) (lk (["script", "own", "numbers", "one", "two", "text", "k", "sign", "way", "word", "lexer", "terms", "pairs", "due"]:List Str)) ((fBody (stAt 22)).getD 12 default) Hn:=by
 conv=>arg 5;whnf
 refine A5 ?_ ?_ ?_ ?_;refine AN N.G (Ab N.x__law_due) ?_ ?_ ?_ N.g__law_due ?_ ?_;exact SoundF.le (HX N) Lq;refine l_c ?_ ?_ ?_;exact A1 (.inl rfl) rfl rfl rfl;exact A6;exact rfl;exact rfl;exact rfl;exact Ao rfl;exact .inl rfl;exact rfl;exact rfl
def EB:XS:=(sIf (bOr (bCmp opIs (xVar 12) cNone) (bCmp opIs (xVar 13) cNone)) (sCons (sRet (xAnd (xBin opIs (xVar 12) cNone) (xBin opIs (xVar 13) cNone)))
 sNil) sNil)
theorem Ks(N:S3 K Kf mg mb)(fd:FuncData){a L:Addr}:SoundS K 14 (callEnvC (fdOf (stAt 22) fd) L a) (lk (["script", "own", "numbers", "one", "two", "text", "k", "sign", "way", "word", "lexer", "terms", "pairs", "due"]:List Str)) ((fBody (stAt 22)).getD 13 default) EB:=by
 conv=>arg 5;whnf
 refine Ar ?_ ?_ ?_;refine On ?_ ?_;refine AI ?_ ?_ ?_ ?_;exact JR;exact A1 (.inl rfl) rfl rfl rfl;exact Bi;exact rfl;refine AI ?_ ?_ ?_ ?_;exact JR;exact A1 (.inl rfl) rfl rfl rfl;exact Bi;exact rfl;refine A0 ?_ ?_;refine Ag ?_;refine MD ?_ ?_;refine IA ?_ ?_ ?_ ?_;exact JR;exact A1 (.inl rfl) rfl rfl rfl;exact Bi;exact rfl;refine IA ?_ ?_ ?_ ?_;exact JR;exact A1 (.inl rfl) rfl rfl rfl;exact Bi;exact rfl;exact A3;exact A3
def Fe:XS:=(sIf (bCmp opNe (xUn (getF 76 1) (xVar 10)) (xBin opAdd (cI 1) (xMethS mCount (xVar 5) (lCons (cS "\n") lNil)))) (sCons (sRet (cB false))
 sNil) sNil)
theorem Kr(N:S3 K Kf mg mb)(fd:FuncData){a L:Addr}:SoundS K 14 (callEnvC (fdOf (stAt 22) fd) L a) (lk (["script", "own", "numbers", "one", "two", "text", "k", "sign", "way", "word", "lexer", "terms", "pairs", "due"]:List Str)) ((fBody (stAt 22)).getD 14 default) Fe:=by
 conv=>arg 5;whnf
 refine Ar ?_ ?_ ?_;refine AI ?_ ?_ ?_ ?_;exact FQ;refine CU (Bb N.X N.c__netrclex N.f__netrclex_lineno (by rw[N.attrs] ; rfl)) ?_ ?_ ?_;exact A1 (.inl rfl) rfl rfl rfl;exact rfl;exact fun z z=>rfl;refine Ax ?_ ?_ ?_;exact Cy;exact AF;refine Bc (id := "str.count") ?_ ?_ ?_ ?_ ?_ ?_ ?_ ?_;exact LP;exact A1 (.inl rfl) rfl rfl rfl;refine l_c ?_ ?_ ?_;exact AM;exact A6;exact rfl;exact PySem.F.slot_str_count;exact PySem.F.type_str_count;exact rfl;exact rfl;exact rfl;exact rfl;refine A0 ?_ ?_;refine Ag ?_;exact CD;exact A3;exact A3
def Fd:XS:=(sRet (xAnd (xBin opEq (xCall AU (lCons (xVar 3) (lStar (xVar 12)))) (xCall AU (lCons (xVar 4) (lStar (xVar 12))))) (xBin opEq (xCall BK (lCons (xCall AU (lCons (xVar 3) (lStar (xVar 12)))) lNil)) (xVar 13))))
theorem Kq(N:S3 K Kf mg mb)(fd:FuncData){a L:Addr}:SoundS K 14 (callEnvC (fdOf (stAt 22) fd) L a) (lk (["script", "own", "numbers", "one", "two", "text", "k", "sign", "way", "word", "lexer", "terms", "pairs", "due"]:List Str)) ((fBody (stAt 22)).getD 15 default) Fd:=by
 conv=>arg 5;whnf
 refine Ag ?_;refine MD ?_ ?_;refine IA ?_ ?_ ?_ ?_;exact CY;refine Db N.G N.X ?_ ?_ N.k_replace ?_ N.g_replace ?_ ?_ ?_;exact SoundF.le (Bt N) Lq;refine l_c ?_ ?_ ?_;exact A1 (.inl rfl) rfl rfl rfl;refine ES ?_ ?_;exact A1 (.inl rfl) rfl rfl rfl;exact rfl;exact rfl;exact rfl;exact rfl;exact rfl;exact rfl;refine Db N.G N.X ?_ ?_ N.k_replace ?_ N.g_replace ?_ ?_ ?_;exact SoundF.le (Bt N) Lq;refine l_c ?_ ?_ ?_;exact A1 (.inl rfl) rfl rfl rfl;refine ES ?_ ?_;exact A1 (.inl rfl) rfl rfl rfl;exact rfl;exact rfl;exact rfl;exact rfl;exact rfl;exact rfl;exact rfl;refine IA ?_ ?_ ?_ ?_;exact CY;refine AN N.G (Ab N.x__law_named) ?_ ?_ ?_ N.g__law_named ?_ ?_;exact SoundF.le (De N) Lq;refine l_c ?_ ?_ ?_;refine Db N.G N.X ?_ ?_ N.k_replace ?_ N.g_replace ?_ ?_ ?_;exact SoundF.le (Bt N) Lq;refine l_c ?_ ?_ ?_;exact A1 (.inl rfl) rfl rfl rfl;refine ES ?_ ?_;exact A1 (.inl rfl) rfl rfl rfl;exact rfl;exact rfl;exact rfl;exact rfl;exact rfl;exact rfl;exact A6;exact rfl;exact rfl;exact rfl;exact Ao rfl;exact A1 (.inl rfl) rfl rfl rfl;exact rfl
end Mine
namespace Mine
inductive Tm where
 | v (i:Fin 3)
 | k (b:Bool)
 | u (t:Tm)
 | p (s t:Tm)
noncomputable def vc(i:Fin 3):Nat:=120+i.val
noncomputable def hdc:Tm→Nat
 | .v i=>vc i
 | .k b=>cond b 32 35
 | .u _=>92
 | .p _ _=>34
noncomputable def kids:Tm→List Tm
 | .u t=>[t]
 | .p s t=>[s,t]
 | _=>[]
noncomputable def ar(c:Nat):Nat:=if c=34 then 2 else if c=92 then 1 else 0
noncomputable def enc:Tm→List Nat
 | .v i=>[vc i]
 | .k b=>[cond b 32 35]
 | .u t=>92::enc t
 | .p s t=>34::(enc s++enc t)
noncomputable def sub(f:Fin 3→Tm):Tm→Tm
 | .v i=>f i
 | .k b=>.k b
 | .u t=>.u (sub f t)
 | .p s t=>.p (sub f s) (sub f t)
def isV:Tm→Prop
 | .v _=>True
 | _=>False
noncomputable def len(t:Tm):Nat:=(enc t).length
theorem Ae(t:Tm):enc t=hdc t::(kids t).flatMap enc:=by
 cases t<;>simp[enc,hdc,kids]
theorem Ly(i:Fin 3):ar (vc i)=0:=by revert i;decide
theorem AX(t:Tm):(kids t).length=ar (hdc t):=by
 cases t with
 | v i=>exact(Ly i).symm
 | k b=>cases b<;>rfl
 | u t=>rfl
 | p s t=>rfl
theorem BG(t:Tm):1≤len t:=by unfold len;rw[Ae];exact Nat.succ_le_succ (Nat.zero_le _)
theorem OG(t:Tm):len (.u t)=len t+1:=rfl
theorem M5(s t:Tm):len (.p s t)=len s+len t+1:=by simp[len,enc]
theorem FF{i j:Fin 3}(h:vc i=vc j):i=j:=Fin.ext (Nat.add_left_cancel h)
theorem Cx(i:Fin 3):120≤vc i:=Nat.le_add_right _ _
theorem Jp{t:Tm}(h:¬ isV t):hdc t<120:=by
 cases t with
 | v i=>exact(h trivial).elim
 | k b=>cases b<;>decide
 | u t=>exact(by decide:92<120)
 | p s t=>exact(by decide:34<120)
theorem Di{t:Tm}(h:isV t):∃ i,t = .v i:=by cases t with | v i=>exact⟨i,rfl⟩ | _=>exact h.elim
noncomputable def mkT(c:Nat):List Tm→Tm
 | []=>if c=35 then .k false else if c=32 then .k true else .v (Fin.ofNat 3 c)
 | [t]=>.u t
 | s::t::_=>.p s t
theorem OD:∀ i:Fin 3,Fin.ofNat 3 (vc i)=i:=by decide
theorem Jt(t:Tm):mkT (hdc t) (kids t)=t:=by
 cases t with
 | v i =>
  have:=Cx i
  exact((if_neg (by show vc i≠35;exact Ng (Bl this))).trans (if_neg (by show vc i≠32;exact Ng (Bl this)))).trans (congrArg Tm.v (OD i))
 | k b=>cases b<;>rfl
 | u t=>rfl
 | p s t=>rfl
theorem Gu{s t:Tm}(h:hdc s=hdc t)(e:kids s=kids t):s=t:=by rw[← Jt s,h,e,Jt]
theorem CS{t s:Tm}(h:s∈kids t):len s<len t:=by
 rw[show len t=_ from congrArg List.length (Ae t),List.length_cons]
 refine Nat.lt_succ_of_le ?_
 revert h
 generalize kids t=l
 induction l with
 | nil=>intro h;cases h
 | cons a l ih =>
  intro h
  rw[List.flatMap_cons,List.length_append]
  rcases List.mem_cons.mp h with rfl | h
  ·exact Nat.le_add_right _ _
  ·exact Nat.le_trans (ih h) (Nat.le_add_left _ _)
theorem Ge{n:Nat}(ih:∀ s t:Tm,len s≤n→∀ {a b:List Nat},enc s++a=enc t++b→s=t∧a=b):∀ (x y:List Tm) (a b:List Nat),(∀ s∈x,len s≤n)→x.length=y.length→x.flatMap enc++a=y.flatMap enc++b→x=y∧a=b
 | [],[],_,_,_,_,h=>⟨rfl,h⟩
 | [],_::_,_,_,_,h,_=>nomatch h
 | _::_,[],_,_,_,h,_=>nomatch h
 | s::x,t::y,a,b,hn,hl,h=>by
  rw[List.flatMap_cons,List.flatMap_cons,List.append_assoc,List.append_assoc] at h
  obtain⟨e,h⟩:=ih s t (hn s List.mem_cons_self) h
  obtain⟨e2,h⟩:=Ge ih x y a b (fun s hs=>hn s (List.mem_cons_of_mem _ hs)) (Nat.succ.inj hl) h
  exact⟨by rw[e,e2],h⟩
theorem F0:∀ (n:Nat) (s t:Tm),len s≤n→∀ {a b:List Nat},enc s++a=enc t++b→s=t∧a=b
 | 0,s,_,h,_,_,_=>absurd (BG s) (by lia)
 | n+1,s,t,hn,a,b,h=>by
  rw[Ae,Ae t] at h
  obtain⟨h1,h2⟩:=List.cons.inj h
  obtain⟨e,e'⟩:=Ge (F0 n) _ _ _ _ (fun x hx=>Nat.le_of_lt_succ (Nat.lt_of_lt_of_le (CS hx) hn)) (by rw[AX,AX,h1]) h2
  exact⟨Gu h1 e,e'⟩
theorem Le{s t:Tm}{a b:List Nat}(h:enc s++a=enc t++b):s=t∧a=b:=F0 _ s t (Nat.le_refl _) h
theorem enc_inj'{s t:Tm}(h:enc s=enc t):s=t:=(Le (a:=[]) (b:=[]) (by rw[h])).1
abbrev occ(i:Fin 3)(t:Tm):Prop:=vc i∈enc t
noncomputable def lt(f:Fin 3→Tm)(c:Nat):List Nat:=if c=120 then enc (f 0) else if c=121 then enc (f 1) else if c=122 then enc (f 2) else [c]
theorem HF(f:Fin 3→Tm)(i:Fin 3):lt f (vc i)=enc (f i):=by
 have:i=0∨i=1∨i=2:=by revert i;decide
 rcases this with rfl | rfl | rfl<;>rfl
theorem GT(f:Fin 3→Tm){c:Nat}(h:c<120):lt f c=[c]:=by
 unfold lt
 rw[if_neg (Nl h),if_neg (Nl (Lb h)),if_neg (Nl (Lb h))]
theorem Ct(f:Fin 3→Tm)(t:Tm):enc (sub f t)=(enc t).flatMap (lt f):=by
 induction t with
 | v i=>exact((List.flatMap_singleton ..).trans (HF f i)).symm
 | k b=>cases b<;>rfl
 | u t ih=>exact(List.cons_eq_cons.mpr ⟨rfl,ih⟩:92::_=92::_)
 | p s t ihs iht=>show 34::_=34::List.flatMap _ (enc s++enc t);rw[List.flatMap_append,ihs,iht]
theorem BC{t:Tm}{c:Nat}(h:c∈enc t):c=34∨c=92∨c=35∨c=32∨∃ i,c=vc i:=by
 induction t with
 | v i=>rw[List.mem_singleton.mp h];exact .inr (.inr (.inr (.inr ⟨i,rfl⟩)))
 | k b=>rw[List.mem_singleton.mp h];cases b<;>simp
 | u t ih =>
  rcases List.mem_cons.mp h with h | h
  ·exact .inr (.inl h)
  ·exact ih h
 | p s t ihs iht =>
  rcases List.mem_cons.mp h with h | h
  ·exact .inl h
  ·rcases List.mem_append.mp h with h | h
   ·exact ihs h
   ·exact iht h
theorem N9(f:Fin 3→Tm)(c:Nat):1≤(lt f c).length:=by
 unfold lt
 split
 ·exact BG _
 ·split
  ·exact BG _
  ·split
   ·exact BG _
   ·exact Nat.le_refl _
theorem Jz(f:Fin 3→Tm)(t:Tm):len t≤len (sub f t):=by
 unfold len;rw[Ct]
 induction enc t with
 | nil=>exact Nat.zero_le _
 | cons c l ih=>rw[List.flatMap_cons,List.length_append,List.length_cons];have:=N9 f c;lia
theorem len_le{f:Fin 3→Tm}{M:Nat}(t:Tm)(hM:1≤M)(h:∀ i,occ i t→len (f i)≤M):len (sub f t)≤len t*M:=by
 have k:∀ c∈enc t,(lt f c).length≤M:=by
  intro c hc
  rcases BC hc with rfl | rfl | rfl | rfl | ⟨i,rfl⟩
  ·exact hM
  ·exact hM
  ·exact hM
  ·exact hM
  ·rw[HF];exact h i hc
 unfold len;rw[Ct]
 revert k
 induction enc t with
 | nil=>intro _;exact Nat.zero_le _
 | cons c l ih=>intro k;rw[List.flatMap_cons,List.length_append,List.length_cons,Nat.add_mul];have:=k c List.mem_cons_self;have:=ih fun d hd=>k d (List.mem_cons_of_mem _ hd);lia
theorem LQ{f:Fin 3→Tm}{l:List Nat}{i:Fin 3}(h:vc i∈l):len (f i)≤(l.flatMap (lt f)).length:=by
 induction l with
 | nil=>cases h
 | cons c l ih =>
  rw[List.flatMap_cons,List.length_append]
  rcases List.mem_cons.mp h with h | h
  ·rw[← h,HF];exact Nat.le_add_right _ _
  ·exact Nat.le_trans (ih h) (Nat.le_add_left _ _)
theorem D8{f:Fin 3→Tm}{t:Tm}{i:Fin 3}(h:occ i t)(hv:¬ isV t):len (f i)<len (sub f t):=by
 have h2:=Jp hv
 unfold occ at h
 rw[show len (sub f t)=_ from congrArg List.length (Ct f t)]
 rw[Ae] at h ⊢
 rcases List.mem_cons.mp h with h | h
 ·have:=Cx i;lia
 ·rw[List.flatMap_cons,List.length_append,GT f h2]
  have:=LQ (f:=f) h
  simp only[List.length_cons,List.length_nil];lia
theorem LJ{f:Fin 3→Tm}{t:Tm}{j:Fin 3}(h:occ j (sub f t)):∃ i,occ i t∧occ j (f i):=by
 unfold occ at h
 rw[Ct] at h
 obtain⟨c,hc,h⟩:=List.mem_flatMap.mp h
 have lo:∀ d,d<120→vc j∈lt f d→False:=by
  intro d hd h
  rw[GT f hd] at h
  have:=Cx j;have:=List.mem_singleton.mp h;lia
 rcases BC hc with rfl | rfl | rfl | rfl | ⟨i,rfl⟩
 ·exact(lo _ (by decide) h).elim
 ·exact(lo _ (by decide) h).elim
 ·exact(lo _ (by decide) h).elim
 ·exact(lo _ (by decide) h).elim
 ·exact⟨i,hc,by rwa[HF] at h⟩
theorem FI(f g:Fin 3→Tm)(t:Tm):sub f (sub g t)=sub (fun i=>sub f (g i)) t:=by
 induction t with
 | v i=>rfl
 | k b=>rfl
 | u t ih=>exact congrArg Tm.u ih
 | p s t a b=>exact(congrArg (Tm.p · _) a).trans (congrArg (Tm.p _) b)
theorem Dj{f g:Fin 3→Tm}{t:Tm}(h:∀ i,occ i t→f i=g i):sub f t=sub g t:=by
 induction t with
 | v i=>exact h i List.mem_cons_self
 | k b=>rfl
 | u t ih=>exact congrArg Tm.u (ih fun i hi=>h i (List.mem_cons_of_mem _ hi))
 | p s t a b=>exact(congrArg (Tm.p · _) (a fun i hi=>h i (List.mem_cons_of_mem _ (List.mem_append_left _ hi)))).trans (congrArg (Tm.p _) (b fun i hi=>h i (List.mem_cons_of_mem _ (List.mem_append_right _ hi))))
theorem Lz(t:Tm):sub .v t=t:=by
 induction t with
 | v i=>rfl
 | k b=>rfl
 | u t ih=>exact congrArg Tm.u ih
 | p s t a b=>exact(congrArg (Tm.p · _) a).trans (congrArg (Tm.p _) b)
theorem Gw{f:Fin 3→Tm}{t:Tm}(h:∀ i,occ i t→f i = .v i):sub f t=t:=(Dj h).trans (Lz t)
theorem L8{f:Fin 3→Tm}{t:Tm}(h:sub f t=t):∀ i,occ i t→f i = .v i:=by
 induction t with
 | v i=>intro j hj;rw[FF (List.mem_singleton.mp hj)];exact h
 | k b=>intro j hj;have:=List.mem_singleton.mp hj;have:=Cx j;cases b<;>simp_all
 | u t ih =>
  intro j hj
  rcases List.mem_cons.mp hj with e | e
  ·have:=Cx j;lia
  ·exact ih (Tm.u.inj h) j e
 | p s t a b =>
  intro j hj
  rcases List.mem_cons.mp hj with e | e
  ·have:=Cx j;lia
  ·rcases List.mem_append.mp e with e | e
   ·exact a (Tm.p.inj h).1 j e
   ·exact b (Tm.p.inj h).2 j e
theorem CQ(f:Fin 3→Tm){t:Tm}(h:¬ isV t):hdc (sub f t)=hdc t∧kids (sub f t)=(kids t).map (sub f)∧¬ isV (sub f t):=by
 cases t with
 | v i=>exact(h trivial).elim
 | _=>exact⟨rfl,rfl,id⟩
theorem fin3:∀ j:Fin 3,j∈[0,1,2]:=by decide
theorem fin3e:∀ i:Fin 3,([0,1,2].erase i).length≤2:=by decide
inductive Small(f:Fin 3→Tm)(t:Tm):Prop
 | var (h:isV t)
 | tm (s:Tm) (hs:len s≤15) (hv:¬ isV s) (e:t=sub f s)
theorem JL{f:Fin 3→Tm}(h:∀ i,Small f (f i))(i:Fin 3):len (f i)≤3375:=by
 have key:∀ (n:Nat) (U:List (Fin 3)),U.length≤n→∀ i,(∀ j,len (f j)<len (f i)→j∈U)→len (f i)≤15*15 ^ n:=by
  intro n
  induction n with
  | zero =>
   intro U hU i hi
   cases h i with
   | var h=>obtain⟨j,e⟩:=Di h;rw[e];exact(by decide:1≤15*15 ^ 0)
   | tm s hs hv e =>
    rw[e]
    refine Nat.le_trans (len_le (M:=1) s (Nat.le_refl _) ?_) (by simpa using hs)
    intro j hj
    have:=hi j (by rw[e];exact D8 hj hv)
    rw[List.eq_nil_of_length_eq_zero (Nat.le_zero.mp hU)] at this
    cases this
  | succ n ih =>
   intro U hU i hi
   have p1:1≤15 ^ n:=Nat.one_le_pow _ _ (by decide)
   cases h i with
   | var h=>obtain⟨j,e⟩:=Di h;rw[e,Nat.pow_succ];show 1≤_;lia
   | tm s hs hv e =>
    rw[e]
    refine Nat.le_trans (len_le (M:=15*15 ^ n) s (by lia) ?_) (by rw[Nat.pow_succ];have:=Nat.mul_le_mul_right (15*15 ^ n) hs;lia)
    intro j hj
    have hlt:len (f j)<len (f i):=by rw[e];exact D8 hj hv
    have hj:=hi j hlt
    refine ih (U.erase j) (by rw[List.length_erase_of_mem hj];lia) j ?_
    intro m hm
    exact(List.mem_erase_of_ne (by rintro rfl;exact Nat.lt_irrefl _ hm)).mpr (hi m (Nat.lt_trans hm hlt))
 have hlo:∀ j,len (f j)<len (f i)→j∈[0,1,2].erase i:=fun j hj=>(List.mem_erase_of_ne (by rintro rfl;exact Nat.lt_irrefl _ hj)).mpr (fin3 j)
 exact key 2 _ (fin3e i) i hlo
theorem Em{f:Fin 3→Tm}(h:∀ i,Small f (f i)){s:Tm}(hs:len s≤15):len (sub f s)≤50625 :=
 Nat.le_trans (len_le (M:=3375) s (by decide) fun i z=>JL h i) (Nat.mul_le_mul_right 3375 hs)
noncomputable def sg1(i:Fin 3)(r:Tm):Fin 3→Tm:=fun j=>if j=i then r else .v j
noncomputable def ap(ps:List (Fin 3×Tm))(t:Tm):Tm:=ps.foldl (fun t x=>sub (sg1 x.1 x.2) t) t
noncomputable def rh(ps:List (Fin 3×Tm))(i:Fin 3):Tm:=ap ps (.v i)
theorem BQ:∀ (ps:List (Fin 3×Tm)) (t:Tm),ap ps t=sub (rh ps) t
 | [],t=>(Lz t).symm
 | x::ps,t=>(BQ ps _).trans ((FI _ _ t).trans (Dj fun i z=>(BQ ps _).symm))
theorem Af(ps:List (Fin 3×Tm))(i:Fin 3)(r t:Tm):ap (ps++[(i,r)]) t=sub (sg1 i r) (ap ps t):=by
 unfold ap;rw[List.foldl_append];rfl
theorem CI(i:Fin 3)(r:Tm):sg1 i r i=r:=if_pos rfl
theorem D5{i j:Fin 3}(r:Tm)(h:j≠i):sg1 i r j = .v j:=if_neg h
theorem Dd{ps:List (Fin 3×Tm)}{f:Fin 3→Tm}(h:∀ x∈ps,f x.1=sub f x.2)(t:Tm):sub f (ap ps t)=sub f t:=by
 induction ps generalizing t with
 | nil=>rfl
 | cons x ps ih =>
  refine(ih (fun y hy=>h y (List.mem_cons_of_mem _ hy)) _).trans ((FI _ _ t).trans (Dj fun i z=>?_))
  by_cases e:i=x.1
  ·rw[e,CI];exact(h x List.mem_cons_self).symm
  ·rw[D5 _ e];rfl
inductive Org(ps:List (Fin 3×Tm))(t:Tm):Prop
 | mk (s:Tm) (hs:len s≤15) (e:ap ps t=ap ps s)
structure Rob(one two:Tm)(ps:List (Fin 3×Tm))(U:List (Fin 3))(q:List (Tm×Tm)):Prop where
 un:∀ f,sub f one=sub f two↔(∀ x∈ps,f x.1=sub f x.2)∧∀ x∈q,sub f x.1=sub f x.2
 dead:∀ i,i ∉ U→∀ t,¬ occ i (ap ps t)
 free:∀ i t,occ i (ap ps t)→ap ps (.v i) = .v i
 told:∀ x∈ps,ap ps (.v x.1)=ap ps x.2∧Org ps x.2
 small:∀ i,Small (rh ps) (rh ps i)
 org:∀ x∈q,Org ps x.1∧Org ps x.2
section
variable{one two:Tm}{ps:List (Fin 3×Tm)}{U:List (Fin 3)}{q:List (Tm×Tm)}{a b:Tm}
theorem Rob.idem(R:Rob one two ps U q)(t:Tm):ap ps (ap ps t)=ap ps t:=by
 rw[BQ ps (ap ps t)];exact Gw fun i hi=>R.free i t hi
theorem Rob.start(h1:len one≤15)(h2:len two≤15):Rob one two [] [0,1,2] [(one,two)] :=
  ⟨fun f=>⟨fun h=>⟨fun x hx=>(nomatch hx),fun x hx=>by rw[List.mem_singleton.mp hx];exact h⟩,fun h=>h.2 _ List.mem_cons_self⟩,fun i hi=>(hi (fin3 i)).elim,fun i t z=>rfl,fun x hx=>(nomatch hx),
   fun i=>.var trivial,fun x hx=>by rw[List.mem_singleton.mp hx];exact⟨⟨one,h1,rfl⟩,⟨two,h2,rfl⟩⟩⟩
theorem Rob.nv(R:Rob one two ps U q){t:Tm}(o:Org ps t):Small (rh ps) (ap ps t):=by
 obtain⟨s,hs,e⟩:=o
 rw[e]
 by_cases hv:isV s
 ·obtain⟨i,rfl⟩:=Di hv;exact R.small i
 ·exact .tm s hs hv (BQ ps s)
theorem Rob.len_ap(R:Rob one two ps U q){t:Tm}(o:Org ps t):len (ap ps t)≤50625:=by
 obtain⟨s,hs,e⟩:=o
 rw[e,BQ];exact Em R.small hs
theorem Rob.len_org(R:Rob one two ps U q){t:Tm}(o:Org ps t):len t≤50625:=Nat.le_trans (by rw[BQ];exact Jz _ t) (R.len_ap o)
theorem Rob.un'(R:Rob one two ps U ((a,b)::q))(f:Fin 3→Tm):sub f one=sub f two↔(∀ x∈ps,f x.1=sub f x.2)∧sub f (ap ps a)=sub f (ap ps b)∧∀ x∈q,sub f x.1=sub f x.2:=by
 rw[R.un]
 constructor
 ·rintro⟨h1,h2⟩
  rw[Dd h1,Dd h1]
  exact⟨h1,h2 _ List.mem_cons_self,fun x hx=>h2 x (List.mem_cons_of_mem _ hx)⟩
 ·rintro⟨h1,h2,h3⟩
  rw[Dd h1,Dd h1] at h2
  refine⟨h1,fun x hx=>?_⟩
  rcases List.mem_cons.mp hx with rfl | hx
  ·exact h2
  ·exact h3 x hx
theorem Rob.same(R:Rob one two ps U ((a,b)::q))(e:ap ps a=ap ps b):Rob one two ps U q :=
 ⟨fun f=>by rw[R.un',e];exact⟨fun h=>⟨h.1,h.2.2⟩,fun h=>⟨h.1,rfl,h.2⟩⟩,R.dead,R.free,R.told,R.small,fun x hx=>R.org x (List.mem_cons_of_mem _ hx)⟩
theorem Rob.swap(R:Rob one two ps U ((a,b)::q)):Rob one two ps U ((b,a)::q) :=
 ⟨fun f=>by
  rw[R.un]
  refine and_congr_right fun z=>?_
  simp only[List.forall_mem_cons]
  exact and_congr_left fun z=>eq_comm,R.dead,R.free,R.told,R.small,fun x hx=>by
  rcases List.mem_cons.mp hx with rfl | hx
  ·exact(R.org _ List.mem_cons_self).symm
  ·exact R.org x (List.mem_cons_of_mem _ hx)⟩
theorem Fv{s t:Tm}{f:Fin 3→Tm}(hs:¬ isV s)(ht:¬ isV t)(h:hdc s=hdc t):sub f s=sub f t↔∀ x∈(kids s).zip (kids t),sub f x.1=sub f x.2:=by
 obtain⟨s1,s2,_⟩:=CQ f hs
 obtain⟨t1,t2,_⟩:=CQ f ht
 have hl:(kids s).length=(kids t).length:=by rw[AX,AX,h]
 have key:(kids s).map (sub f)=(kids t).map (sub f)↔∀ x∈(kids s).zip (kids t),sub f x.1=sub f x.2:=by
  revert hl
  generalize kids s=x
  generalize kids t=y
  induction x generalizing y with
  | nil=>intro h;rw[List.eq_nil_of_length_eq_zero h.symm];exact⟨fun w z hz=>(nomatch hz),fun w=>rfl⟩
  | cons a x ih =>
   intro h
   cases y with
   | nil=>cases h
   | cons b y=>rw[List.map_cons,List.map_cons,List.cons_eq_cons,ih y (Nat.succ.inj h),List.zip_cons_cons,List.forall_mem_cons]
 rw[← key,← s2,← t2]
 exact⟨congrArg kids,fun e=>Gu (by rw[s1,t1,h]) e⟩
theorem Rob.cut(R:Rob one two ps U ((a,b)::q))(ha:¬ isV (ap ps a))(hb:¬ isV (ap ps b))(h:hdc (ap ps a)=hdc (ap ps b)):Rob one two ps U (q++(kids (ap ps a)).zip (kids (ap ps b))):=by
 have kid:∀ {t x:Tm},Org ps t→¬ isV (ap ps t)→x∈kids (ap ps t)→Org ps x:=by
  intro t x o hv hx
  have:=R.nv o
  generalize ap ps t=t' at *
  cases this with
  | var h=>exact(hv h).elim
  | tm s hs hn e =>
   rw[e,(CQ _ hn).2.1] at hx
   obtain⟨y,hy,rfl⟩:=List.mem_map.mp hx
   exact⟨y,Nat.le_trans (Nat.le_of_lt (CS hy)) hs,by rw[← BQ];exact R.idem y⟩
 obtain⟨oa,ob⟩:=R.org _ List.mem_cons_self
 refine⟨fun f=>?_,R.dead,R.free,R.told,R.small,fun x hx=>?_⟩
 ·rw[R.un',Fv ha hb h,List.forall_mem_append]
  exact and_congr_right fun z=>and_comm
 ·rcases List.mem_append.mp hx with hx | hx
  ·exact R.org x (List.mem_cons_of_mem _ hx)
  ·obtain⟨h1,h2⟩:=List.of_mem_zip (a:=x.1) (b:=x.2) hx
   exact⟨kid oa ha h1,kid ob hb h2⟩
theorem Rob.clash(R:Rob one two ps U ((a,b)::q))(ha:¬ isV (ap ps a))(hb:¬ isV (ap ps b))(h:hdc (ap ps a)≠hdc (ap ps b))(f:Fin 3→Tm):sub f one≠sub f two:=by
 intro e
 have:=congrArg hdc ((R.un' f).mp e).2.1
 rw[(CQ f ha).1,(CQ f hb).1] at this
 exact h this
theorem Rob.ring(R:Rob one two ps U ((a,b)::q)){i:Fin 3}(ha:ap ps a = .v i)(hb:ap ps b≠.v i)(ho:occ i (ap ps b))(f:Fin 3→Tm):sub f one≠sub f two:=by
 intro e
 have e:=((R.un' f).mp e).2.1
 rw[ha] at e
 by_cases hv:isV (ap ps b)
 ·obtain⟨j,hj⟩:=Di hv
  rw[hj] at ho hb
  exact hb (by rw[FF (List.mem_singleton.mp ho)])
 ·have:=D8 (f:=f) ho hv
  rw[← e] at this
  exact Nat.lt_irrefl _ this
theorem Hv{i j:Fin 3}{r t:Tm}(h:occ j (sub (sg1 i r) t)):occ j r∨(j≠i∧occ j t):=by
 obtain⟨m,h1,h2⟩:=LJ h
 by_cases e:m=i
 ·rw[e,CI] at h2;exact .inl h2
 ·rw[D5 _ e] at h2
  have:=FF (List.mem_singleton.mp h2)
  rw[this];exact .inr ⟨e,h1⟩
theorem Rob.tell(R:Rob one two ps U ((a,b)::q)){i:Fin 3}(ha:ap ps a = .v i)(hb:¬ occ i (ap ps b)):i∈U∧Rob one two (ps++[(i,ap ps b)]) (U.erase i) q:=by
 have ho:occ i (ap ps a):=by rw[ha];exact List.mem_cons_self
 have fi:=R.free i a ho
 obtain⟨oa,ob⟩:=R.org _ List.mem_cons_self
 have sb:sub (sg1 i (ap ps b)) (ap ps b)=ap ps b:=Gw fun j hj=>D5 _ (by rintro rfl;exact hb hj)
 have up:∀ {t},Org ps t→Org (ps++[(i,ap ps b)]) t:=fun⟨s,hs,e⟩=>⟨s,hs,by rw[Af,Af,e]⟩
 have br:ap (ps++[(i,ap ps b)]) (ap ps b)=ap ps b:=by rw[Af,R.idem,sb]
 have sm:∀ {t},Small (rh ps) t→ap ps t=t→ap (ps++[(i,ap ps b)]) t=t→Small (rh (ps++[(i,ap ps b)])) t:=by
  intro t h e1 e2
  cases h with
  | var h=>exact .var h
  | tm s hs hv e=>exact .tm s hs hv (by rw[← e2,← BQ,Af,e1,e,← BQ,← Af])
 refine⟨Classical.byContradiction fun hi=>R.dead i hi a ho,fun f=>?_,fun j hj t=>?_,fun j t h=>?_,fun x hx=>?_,fun j=>?_,fun x hx=>?_⟩
 ·rw[R.un',ha,List.forall_mem_append,List.forall_mem_singleton]
  exact and_assoc.symm
 ·rw[Af]
  intro h
  rcases Hv h with h | ⟨h1,h2⟩
  ·by_cases e:j=i
   ·rw[e] at h;exact hb h
   ·exact R.dead j (fun hu=>hj ((List.mem_erase_of_ne e).mpr hu)) b h
  ·exact R.dead j (fun hu=>hj ((List.mem_erase_of_ne h1).mpr hu)) t h2
 ·rw[Af] at h ⊢
  have k:j≠i∧ap ps (.v j) = .v j:=by
   rcases Hv h with h | ⟨h1,h2⟩
   ·exact⟨fun e=>hb (e ▸ h),R.free j b h⟩
   ·exact⟨h1,R.free j t h2⟩
  rw[k.2];exact D5 _ k.1
 ·rcases List.mem_append.mp hx with hx | hx
  ·obtain⟨h1,h2⟩:=R.told x hx
   exact⟨by rw[Af,Af,h1],up h2⟩
  ·rw[List.mem_singleton.mp hx]
   refine⟨by rw[br,Af,fi];exact CI _ _,?_⟩
   obtain⟨s,hs,e⟩:=ob
   exact⟨s,hs,by rw[Af,Af,R.idem,e]⟩
 ·have h:=R.small j
  rw[show rh (ps++[(i,ap ps b)]) j=sub (sg1 i (ap ps b)) (rh ps j) from Af ..]
  have hj:rh ps j=ap ps (.v j):=rfl
  cases h with
  | var h =>
   obtain⟨m,e⟩:=Di h
   rw[e]
   by_cases hm:m=i
   ·rw[hm];show Small _ (sg1 i _ i);rw[CI]
    exact sm (R.nv ob) (R.idem b) br
   ·show Small _ (sg1 i _ m);rw[D5 _ hm];exact .var trivial
  | tm s hs hv e=>exact .tm s hs hv (by rw[e,← BQ,← BQ,Af])
 ·exact(R.org x (List.mem_cons_of_mem _ hx)).imp up up
theorem Rob.done(R:Rob one two ps U []):sub (rh ps) one=sub (rh ps) two∧∀ f,sub f one=sub f two→sub f one=sub f (sub (rh ps) one):=by
 refine⟨(R.un _).mpr ⟨fun x hx=>?_,fun x hx=>(nomatch hx)⟩,fun f h=>?_⟩
 ·rw[← BQ];exact(R.told x hx).1
 ·rw[← BQ];exact(Dd ((R.un f).mp h).1 one).symm
end
noncomputable def vcB(c:Nat):Bool:=c == 120 || c == 121 || c == 122
noncomputable def nadd(s:List Nat)(c:Nat):List Nat:=if c∈s then s else s++[c]
noncomputable def nstep(x:List Nat×List Nat)(c:Nat):List Nat×List Nat:=if vcB c then (nadd x.1 c,x.2++[48+(nadd x.1 c).idxOf c]) else (x.1,x.2++[c])
noncomputable def named(l:List Nat):List Nat:=(l.foldl nstep ([],[])).2
theorem Gq(i:Fin 3):vcB (vc i)=true:=by revert i;decide
theorem Kw{c:Nat}(h:vcB c=true):∃ i,c=vc i:=by
 unfold vcB at h
 simp only[Bool.or_eq_true,beq_iff_eq] at h
 rcases h with (rfl | rfl) | rfl
 ·exact⟨0,rfl⟩
 ·exact⟨1,rfl⟩
 ·exact⟨2,rfl⟩
section
variable{f g:Nat→Nat}
theorem ED{c:Nat}(hc:g (f c)=c):∀ s:List Nat,(∀ x∈s,g (f x)=x)→(s.map f).idxOf (f c)=s.idxOf c∧(f c∈s.map f↔c∈s)
 | [],_=>⟨rfl,by simp⟩
 | x::s,h=>by
  obtain⟨h1,h2⟩:=ED hc s fun y hy=>h y (List.mem_cons_of_mem _ hy)
  have e:f x=f c↔x=c:=⟨fun e=>by rw[← h x List.mem_cons_self,e,hc],fun e=>by rw[e]⟩
  have e':f c=f x↔c=x:=⟨fun q=>(e.mp q.symm).symm,fun q=>by rw[q]⟩
  refine⟨?_,by rw[List.map_cons,List.mem_cons,List.mem_cons,h2,e']⟩
  rw[List.map_cons,List.idxOf_cons,List.idxOf_cons,h1]
  by_cases q:x=c
  ·rw[q,beq_self_eq_true,beq_self_eq_true]
  ·rw[beq_eq_false_iff_ne.mpr q,beq_eq_false_iff_ne.mpr fun k=>q (e.mp k)]
theorem Js{c:Nat}(hc:g (f c)=c){s:List Nat}(h:∀ x∈s,g (f x)=x):nadd (s.map f) (f c)=(nadd s c).map f∧∀ x∈nadd s c,g (f x)=x:=by
 unfold nadd
 by_cases q:c∈s
 ·rw[if_pos q,if_pos ((ED hc s h).2.mpr q)];exact⟨rfl,h⟩
 ·rw[if_neg q,if_neg fun k=>q ((ED hc s h).2.mp k),List.map_append]
  exact⟨rfl,fun x hx=>(List.mem_append.mp hx).elim (h x) fun e=>by rw[List.mem_singleton.mp e,hc]⟩
theorem EY:∀ (l s o:List Nat),(∀ c∈l,g (f c)=c∧vcB (f c)=vcB c∧(vcB c=false→f c=c))→(∀ x∈s,g (f x)=x)→((l.map f).foldl nstep (s.map f,o)).2=(l.foldl nstep (s,o)).2
 | [],_,_,_,_=>rfl
 | c::l,s,o,h,hs=>by
  obtain⟨h1,h2,h3⟩:=h c List.mem_cons_self
  have hl:=fun d hd=>h d (List.mem_cons_of_mem c hd)
  rw[List.map_cons,List.foldl_cons,List.foldl_cons]
  unfold nstep
  rw[h2]
  cases e:vcB c with
  | false=>rw[h3 e];exact EY l s _ hl hs
  | true =>
   obtain⟨e1,e2⟩:=Js h1 hs
   rw[e1,(ED h1 _ e2).1]
   exact EY l _ _ hl e2
end
theorem GY{α β:Type}{h:α→List β}{f:α→β}:∀ {l:List α},(∀ c∈l,h c=[f c])→l.flatMap h=l.map f
 | [],_=>rfl
 | c::l,k=>by rw[List.flatMap_cons,List.map_cons,k c List.mem_cons_self,GY fun d hd=>k d (List.mem_cons_of_mem _ hd)];rfl
theorem Jr{s t:Tm}{f g:Fin 3→Tm}(h1:t=sub f s)(h2:s=sub g t):named (enc t)=named (enc s):=by
 have k:∀ i,occ i s→∃ j,f i = .v j∧g j = .v i:=by
  intro i hi
  have e:=L8 (f:=fun i=>sub g (f i)) (by rw[← FI,← h1,← h2]) i hi
  cases hf:f i with
  | v j=>rw[hf] at e;exact⟨j,rfl,e⟩
  | k b=>rw[hf] at e;cases e
  | u a=>rw[hf] at e;cases e
  | p a b=>rw[hf] at e;cases e
 have lo:∀ c,c<120→vcB c=false:=by intro c hc;unfold vcB;simp;lia
 have key:∀ c∈enc s,lt f c=[(lt f c).headD 0]∧(lt g ((lt f c).headD 0)).headD 0=c∧vcB ((lt f c).headD 0)=vcB c∧(vcB c=false→(lt f c).headD 0=c):=by
  intro c hc
  by_cases hv:∃ i,c=vc i
  ·obtain⟨i,rfl⟩:=hv
   obtain⟨j,e1,e2⟩:=k i hc
   rw[HF,e1]
   show[vc j]=[vc j]∧(lt g (vc j)).headD 0=_∧vcB (vc j)=_∧(_→vc j=_)
   rw[HF,e2,Gq,Gq]
   exact⟨rfl,rfl,rfl,fun h=>nomatch h⟩
  ·have hlo:c<120:=by
    rcases BC hc with rfl | rfl | rfl | rfl | h
    ·decide
    ·decide
    ·decide
    ·decide
    ·exact(hv h).elim
   rw[GT f hlo]
   show[c]=[c]∧(lt g c).headD 0=c∧vcB c=vcB c∧(_→c=c)
   rw[GT g hlo]
   exact⟨rfl,rfl,rfl,fun z=>rfl⟩
 rw[h1,Ct,GY fun c hc=>(key c hc).1]
 exact EY (g:=fun c=>(lt g c).headD 0) (enc s) [] [] (fun c hc=>(key c hc).2) fun x hx=>nomatch hx
structure Nds(n:Nat)(tm:Nat→Tm)(pt:Nat→List Nat):Prop where
 n3:3≤n
 vr:∀ i:Fin 3,tm i.val = .v i
 nv:∀ c,c<n→3≤c→¬ isV (tm c)
 kd:∀ c,c<n→(pt c).map tm=kids (tm c)∧∀ k∈pt c,k<n
 sz:∀ c,c<n→len (tm c)≤15
def Comp(n:Nat)(of:Nat→Nat)(todo:List (Nat×Nat))(φ:Nat→Nat):Prop:=(∀ c,c<n→φ c=φ (of c))∧∀ x∈todo,φ x.1=φ x.2
inductive Hd(n:Nat)(tm:Nat→Tm)(pt:Nat→List Nat)(of:Nat→Nat)(hd:Nat→Int)(todo:List (Nat×Nat))(c:Nat):Prop
 | mk (h:Nat) (e:hd (of c)=h) (hn:h<n) (ho:of h=of c) (hv:¬ isV (tm h)) (hc:¬ isV (tm c)→hdc (tm h)=hdc (tm c)∧∀ φ,Comp n of todo φ→(pt c).map φ=(pt h).map φ)
structure Mrg(one two:Tm)(n:Nat)(tm:Nat→Tm)(pt:Nat→List Nat)(t0 t1:Nat)(of:Nat→Nat)(hd:Nat→Int)(todo:List (Nat×Nat))(R:List Nat):Prop where
 lt:∀ c,c<n→of c<n∧of (of c)=of c∧of c∈R
 hh:∀ c,c<n→hd (of c)<0→isV (tm c)
 hs:∀ c,c<n→0≤hd (of c)→Hd n tm pt of hd todo c
 tp:∀ φ,Comp n of todo φ→φ t0=φ t1
 td:∀ x∈todo,x.1<n∧x.2<n
 un:∀ f,sub f one=sub f two→(∀ c,c<n→sub f (tm c)=sub f (tm (of c)))∧∀ x∈todo,sub f (tm x.1)=sub f (tm x.2)
section
variable{one two:Tm}{n:Nat}{tm:Nat→Tm}{pt:Nat→List Nat}{t0 t1:Nat}{of:Nat→Nat}{hd:Nat→Int}{todo:List (Nat×Nat)}{R:List Nat}{a b:Nat}
theorem Mrg.start(N:Nds n tm pt)(h0:t0<n)(h1:t1<n)(e0:tm t0=one)(e1:tm t1=two):Mrg one two n tm pt t0 t1 id (fun c=>if 2<c then (c:Int) else -1) [(t0,t1)] (List.range n):=by
 refine⟨fun c hc=>⟨hc,rfl,List.mem_range.mpr hc⟩,fun c hc h=>?_,fun c hc h=>?_,fun φ C=>C.2 _ List.mem_cons_self,fun x hx=>by rw[List.mem_singleton.mp hx];exact⟨h0,h1⟩,fun f e=>⟨fun c z=>rfl,fun x hx=>by rw[List.mem_singleton.mp hx];show sub f (tm t0)=sub f (tm t1);rw[e0,e1,e]⟩⟩
 ·by_cases q:2<c
  ·have h:(if 2<c then (c:Int) else -1)<0:=h
   rw[if_pos q] at h;exact absurd h (by lia)
  ·have:=N.vr ⟨c,Nat.lt_succ_of_le (Nat.le_of_not_lt q)⟩
   rw[show tm c=_ from this];trivial
 ·by_cases q:2<c
  ·exact⟨c,if_pos q,hc,rfl,N.nv c hc q,fun z=>⟨rfl,fun z z=>rfl⟩⟩
  ·have h:0≤(if 2<c then (c:Int) else -1):=h
   rw[if_neg q] at h;exact absurd h (by decide)
theorem Mrg.skip(M:Mrg one two n tm pt t0 t1 of hd (todo++[(a,b)]) R)(h:of a=of b):Mrg one two n tm pt t0 t1 of hd todo R:=by
 obtain⟨ha,hb⟩:=M.td (a,b) (List.mem_append_right _ List.mem_cons_self)
 have up:∀ {φ},Comp n of todo φ→Comp n of (todo++[(a,b)]) φ:=fun C=>⟨C.1,fun x hx=>by
  rcases List.mem_append.mp hx with hx | hx
  ·exact C.2 x hx
  ·rw[List.mem_singleton.mp hx];exact(C.1 a ha).trans ((congrArg _ h).trans (C.1 b hb).symm)⟩
 refine⟨M.lt,M.hh,fun c hc h=>?_,fun φ C=>M.tp φ (up C),fun x hx=>M.td x (List.mem_append_left _ hx),fun f e=>⟨(M.un f e).1,fun x hx=>(M.un f e).2 x (List.mem_append_left _ hx)⟩⟩
 obtain⟨m,e,hn,ho,hv,hc⟩:=M.hs c hc h
 exact⟨m,e,hn,ho,hv,fun k=>⟨(hc k).1,fun φ C=>(hc k).2 φ (up C)⟩⟩
noncomputable def ofM(of:Nat→Nat)(a b c:Nat):Nat:=if of c=b then a else of c
theorem Bv{c:Nat}(h:of c=b):ofM of a b c=a:=if_pos h
theorem B4{c:Nat}(h:of c≠b):ofM of a b c=of c:=if_neg h
theorem Mrg.head(M:Mrg one two n tm pt t0 t1 of hd todo R){c:Nat}(hc:c<n)(h:0≤hd (of c)):Hd n tm pt of hd todo (of c):=by
 have l:=M.lt c hc
 exact M.hs (of c) l.1 (by rw[l.2.1];exact h)
inductive Joint(n:Nat)(tm:Nat→Tm)(pt:Nat→List Nat)(hd hd':Nat→Int)(a b:Nat):List (Nat×Nat)→Prop
 | free (h:hd a<0) (e:hd' a=hd b):Joint n tm pt hd hd' a b []
 | one (h:0≤hd a) (h':hd b<0) (e:hd' a=hd a):Joint n tm pt hd hd' a b []
 | both (x y:Nat) (h:hd a=x) (h':hd b=y) (hx:x<n) (hy:y<n) (hs:hdc (tm x)=hdc (tm y)) (e:hd' a=hd a):Joint n tm pt hd hd' a b ((pt x).zip (pt y))
theorem zip_map{φ:Nat→Nat}:∀ {x y:List Nat},x.length=y.length→(∀ z∈x.zip y,φ z.1=φ z.2)→x.map φ=y.map φ
 | [],[],_,_=>rfl
 | [],_::_,h,_=>nomatch h
 | _::_,[],h,_=>nomatch h
 | a::x,b::y,h,k=>by
  rw[List.map_cons,List.map_cons,k (a,b) List.mem_cons_self,zip_map (Nat.succ.inj h) fun z hz=>k z (List.mem_cons_of_mem _ hz)]
theorem Ja(N:Nds n tm pt){x y:Nat}(hx:x<n)(hy:y<n)(h:hdc (tm x)=hdc (tm y)):(pt x).length=(pt y).length:=by
 have e1:=congrArg List.length (N.kd x hx).1
 have e2:=congrArg List.length (N.kd y hy).1
 rw[List.length_map,AX] at e1 e2
 rw[e1,e2,h]
theorem Mrg.merge(N:Nds n tm pt)(M:Mrg one two n tm pt t0 t1 of hd (todo++[(a,b)]) R)(h:of a≠of b){hd':Nat→Int}{ex:List (Nat×Nat)}(J:Joint n tm pt hd hd' (of a) (of b) ex)(ho:∀ c,c≠of a→hd' c=hd c) :
  Mrg one two n tm pt t0 t1 (ofM of (of a) (of b)) hd' (todo++ex) (R.erase (of b)):=by
 obtain⟨ha,hb⟩:=M.td (a,b) (List.mem_append_right _ List.mem_cons_self)
 obtain⟨la1,la2,la3⟩:=M.lt a ha
 obtain⟨lb1,lb2,lb3⟩:=M.lt b hb
 have oa:ofM of (of a) (of b) (of a)=of a:=by rw[B4 (by rw[la2];exact h),la2]
 have ob:ofM of (of a) (of b) (of b)=of a:=Bv lb2
 have up:∀ {φ},Comp n (ofM of (of a) (of b)) (todo++ex) φ→Comp n of (todo++[(a,b)]) φ:=by
  intro φ C
  have e:φ (of b)=φ (of a):=by have:=C.1 _ lb1;rwa[ob] at this
  have k:∀ c,c<n→φ c=φ (of c):=by
   intro c hc
   have:=C.1 c hc
   by_cases q:of c=of b
   ·rw[Bv q] at this;rw[this,q,e]
   ·rwa[B4 q] at this
  refine⟨k,fun x hx=>?_⟩
  rcases List.mem_append.mp hx with hx | hx
  ·exact C.2 x (List.mem_append_left _ hx)
  ·rw[List.mem_singleton.mp hx];exact(k a ha).trans (e.symm.trans (k b hb).symm)
 have exn:∀ x∈ex,x.1<n∧x.2<n:=by
  intro x hx
  cases J with
  | free=>cases hx
  | one=>cases hx
  | both p q h1 h2 h3 h4 h5 h6 =>
   obtain⟨k1,k2⟩:=List.of_mem_zip (a:=x.1) (b:=x.2) hx
   exact⟨(N.kd p h3).2 _ k1,(N.kd q h4).2 _ k2⟩
 have unr:∀ f,sub f one=sub f two→sub f (tm (of a))=sub f (tm (of b)):=by
  intro f e
  obtain⟨u1,u2⟩:=M.un f e
  exact(u1 a ha).symm.trans ((u2 (a,b) (List.mem_append_right _ List.mem_cons_self)).trans (u1 b hb))
 refine⟨fun c hc=>?_,fun c hc q=>?_,fun c hc q=>?_,fun φ C=>M.tp φ (up C),fun x hx=>?_,fun f e=>?_⟩
 ·obtain⟨l1,l2,l3⟩:=M.lt c hc
  by_cases q:of c=of b
  ·rw[Bv q];exact⟨la1,oa,(List.mem_erase_of_ne h).mpr la3⟩
  ·rw[B4 q];exact⟨l1,by rw[B4 (by rw[l2];exact q),l2],(List.mem_erase_of_ne q).mpr l3⟩
 ·by_cases q1:of c=of b
  ·rw[Bv q1] at q
   refine M.hh c hc ?_
   rw[q1]
   cases J with
   | free h1 h2=>rwa[h2] at q
   | one h1 h2 h3=>exact h2
   | both x y h1 h2 h3 h4 h5 h6=>rw[h6,h1] at q;lia
  ·rw[B4 q1] at q
   refine M.hh c hc ?_
   by_cases q2:of c=of a
   ·rw[q2] at q ⊢
    cases J with
    | free h1 h2=>exact h1
    | one h1 h2 h3=>rwa[h3] at q
    | both x y h1 h2 h3 h4 h5 h6=>rwa[h6] at q
   ·rwa[ho _ q2] at q
 ·by_cases q1:of c=of b
  ·rw[Bv q1] at q
   cases J with
   | free h1 h2 =>
    refine viaP fun u zf=>?_
    obtain⟨m,e,hn,hof,hv,k⟩:=M.hs c hc (by rw[q1,← h2];exact q)
    refine zf ?_
    exact⟨m,by rw[Bv q1,h2,← q1,e],hn,by rw[Bv q1,Bv (hof.trans q1)],hv,fun w=>⟨(k w).1,fun φ C=>(k w).2 φ (up C)⟩⟩
   | one h1 h2 h3 =>
    obtain⟨m,e,hn,hof,hv,k⟩:=M.head ha h1
    rw[la2] at e hof
    exact⟨m,by rw[Bv q1,h3,e],hn,by rw[Bv q1,B4 (by rw[hof];exact h),hof],hv,fun w=>(w (M.hh c hc (by rw[q1];exact h2))).elim⟩
   | both x y h1 h2 h3 h4 h5 h6 =>
    obtain⟨m,e,hn,hof,hv,k⟩:=M.head ha (by rw[h1];lia)
    rw[la2] at e hof
    have em:m=x:=by rw[h1] at e;exact(Int.ofNat.inj e).symm
    subst em
    refine⟨m,by rw[Bv q1,h6,e],hn,by rw[Bv q1,B4 (by rw[hof];exact h),hof],hv,fun w=>?_⟩
    obtain⟨m',e',_,_,_,k'⟩:=M.hs c hc (by rw[q1,h2];lia)
    have em:m'=y:=by rw[q1,h2] at e';exact(Int.ofNat.inj e').symm
    subst em
    obtain⟨k1,k2⟩:=k' w
    exact⟨h5.trans k1,fun φ C=>(k2 φ (up C)).trans (zip_map (Ja N h3 h4 h5) fun z hz=>C.2 z (List.mem_append_right _ hz)).symm⟩
  ·rw[B4 q1] at q
   by_cases q2:of c=of a
   ·rw[q2] at q
    cases J with
    | free h1 h2 =>
     obtain⟨m,e,hn,hof,hv,k⟩:=M.head hb (by rw[← h2];exact q)
     rw[lb2] at e hof
     exact⟨m,by rw[B4 q1,q2,h2,e],hn,by rw[Bv hof,B4 q1,q2],hv,fun w=>(w (M.hh c hc (by rw[q2];exact h1))).elim⟩
    | one h1 h2 h3 =>
     obtain⟨m,e,hn,hof,hv,k⟩:=M.hs c hc (by rw[q2];exact h1)
     exact⟨m,by rw[B4 q1,q2,h3,← q2,e],hn,by rw[B4 q1,B4 (by rw[hof];exact q1),hof],hv,fun w=>⟨(k w).1,fun φ C=>(k w).2 φ (up C)⟩⟩
    | both x y h1 h2 h3 h4 h5 h6 =>
     obtain⟨m,e,hn,hof,hv,k⟩:=M.hs c hc (by rw[q2,← h6];exact q)
     exact⟨m,by rw[B4 q1,q2,h6,← q2,e],hn,by rw[B4 q1,B4 (by rw[hof];exact q1),hof],hv,fun w=>⟨(k w).1,fun φ C=>(k w).2 φ (up C)⟩⟩
   ·rw[ho _ q2] at q
    obtain⟨m,e,hn,hof,hv,k⟩:=M.hs c hc q
    exact⟨m,by rw[B4 q1,ho _ q2,e],hn,by rw[B4 q1,B4 (by rw[hof];exact q1),hof],hv,fun w=>⟨(k w).1,fun φ C=>(k w).2 φ (up C)⟩⟩
 ·rcases List.mem_append.mp hx with hx | hx
  ·exact M.td x (List.mem_append_left _ hx)
  ·exact exn x hx
 ·obtain⟨u1,u2⟩:=M.un f e
  refine⟨fun c hc=>?_,fun x hx=>?_⟩
  ·by_cases q:of c=of b
   ·rw[Bv q,u1 c hc,q];exact(unr f e).symm
   ·rw[B4 q];exact u1 c hc
  ·rcases List.mem_append.mp hx with hx | hx
   ·exact u2 x (List.mem_append_left _ hx)
   ·cases J with
    | free=>cases hx
    | one=>cases hx
    | both p q h1 h2 h3 h4 h5 h6 =>
     refine viaP fun u zf=>?_
     obtain⟨m,e1,hn,hof,hv,k⟩:=M.head ha (by rw[h1];lia)
     obtain⟨m',e2,hn',hof',hv',k'⟩:=M.head hb (by rw[h2];lia)
     rw[la2] at e1 hof
     rw[lb2] at e2 hof'
     have em:m=p:=by rw[h1] at e1;exact(Int.ofNat.inj e1).symm
     have em':m'=q:=by rw[h2] at e2;exact(Int.ofNat.inj e2).symm
     subst em;subst em'
     have eq:sub f (tm m)=sub f (tm m'):=by
      rw[u1 m hn,u1 m' hn',hof,hof'];exact unr f e
     have:=(Fv hv hv' h5).mp eq
     rw[← (N.kd m hn).1,← (N.kd m' hn').1,List.zip_map] at this
     refine zf ?_
     exact this _ (List.mem_map.mpr ⟨x,hx,rfl⟩)
theorem Mrg.clash(M:Mrg one two n tm pt t0 t1 of hd (todo++[(a,b)]) R){x y:Nat}(h1:hd (of a)=x)(h2:hd (of b)=y)(h:hdc (tm x)≠hdc (tm y))(f:Fin 3→Tm):sub f one≠sub f two:=by
 intro e
 obtain⟨ha,hb⟩:=M.td (a,b) (List.mem_append_right _ List.mem_cons_self)
 obtain⟨u1,u2⟩:=M.un f e
 obtain⟨m,e1,hn,hof,hv,k⟩:=M.head ha (by rw[h1];lia)
 obtain⟨m',e2,hn',hof',hv',k'⟩:=M.head hb (by rw[h2];lia)
 rw[(M.lt a ha).2.1] at e1 hof
 rw[(M.lt b hb).2.1] at e2 hof'
 have em:m=x:=by rw[h1] at e1;exact(Int.ofNat.inj e1).symm
 have em':m'=y:=by rw[h2] at e2;exact(Int.ofNat.inj e2).symm
 subst em;subst em'
 refine h ?_
 rw[← (CQ f hv).1,← (CQ f hv').1,u1 m hn,u1 m' hn',hof,hof',← u1 a ha,← u1 b hb]
 exact congrArg hdc (u2 (a,b) (List.mem_append_right _ List.mem_cons_self))
end
noncomputable def lv:Tm→Nat
 | .u t=>lv t
 | .p s t=>lv s+lv t
 | _=>1
theorem Fl(t:Tm):1≤lv t:=by
 induction t with
 | v i=>exact Nat.le_refl 1
 | k b=>exact Nat.le_refl 1
 | u t ih=>exact ih
 | p s t a b=>exact Nat.le_trans a (Nat.le_add_right _ _)
theorem Jy(t:Tm):2*lv t≤len t+1:=by
 induction t with
 | v i=>exact Nat.le_refl 2
 | k b=>exact Nat.le_refl 2
 | u t ih=>rw[OG];exact Nat.le_succ_of_le ih
 | p s t a b=>rw[M5];show 2*(lv s+lv t)≤_;lia
theorem N8{f:Fin 3→Tm}{M:Nat}(h:∀ i,lv (f i)≤M)(h1:1≤M)(t:Tm):lv (sub f t)≤lv t*M:=by
 induction t with
 | v i=>exact Nat.le_trans (h i) (Nat.le_of_eq (Nat.one_mul M).symm)
 | k b=>exact Nat.le_trans h1 (Nat.le_of_eq (Nat.one_mul M).symm)
 | u t ih=>exact ih
 | p s t a b=>show lv (sub f s)+lv (sub f t)≤(lv s+lv t)*M;rw[Nat.add_mul];exact Nat.add_le_add a b
theorem M4(i:Fin 3)(r t:Tm):lv (sub (sg1 i r) t)≤lv t*lv r:=by
 refine N8 (fun j=>?_) (Fl r) t
 by_cases e:j=i
 ·rw[e,CI];exact Nat.le_refl _
 ·rw[D5 r e];exact Fl r
abbrev Prs:=List (Fin 3×Tm)
noncomputable def wl(ps:Prs)(q:List (Tm×Tm)):Nat:=(q.map fun x=>lv (ap ps x.1)+lv (ap ps x.2)).sum
noncomputable def wn(ps:Prs)(q:List (Tm×Tm)):Nat:=(q.map fun x=>len (ap ps x.1)+len (ap ps x.2)).sum
theorem BW(ps:Prs)(a b:Tm)(q:List (Tm×Tm)):wl ps ((a,b)::q)=lv (ap ps a)+lv (ap ps b)+wl ps q:=List.sum_cons
theorem DG(ps:Prs)(a b:Tm)(q:List (Tm×Tm)):wn ps ((a,b)::q)=len (ap ps a)+len (ap ps b)+wn ps q:=List.sum_cons
theorem Ko(ps:Prs)(i:Fin 3)(r:Tm)(q:List (Tm×Tm)):wl (ps++[(i,r)]) q≤wl ps q*lv r:=by
 induction q with
 | nil=>exact Nat.zero_le _
 | cons x q ih =>
  obtain⟨a,b⟩:=x
  rw[BW,BW,Af,Af,Nat.add_mul,Nat.add_mul]
  exact Nat.add_le_add (Nat.add_le_add (M4 ..) (M4 ..)) ih
theorem JE(ps:Prs):∀ q:List (Tm×Tm),2*q.length≤wl ps q
 | []=>Nat.zero_le _
 | (a,b)::q=>by
  have:=JE ps q
  have:=Fl (ap ps a)
  have:=Fl (ap ps b)
  rw[BW,List.length_cons];lia
noncomputable def Bd:Nat→Nat
 | 0=>142506
 | 1=>756
 | 2=>56
 | _=>16
theorem Of(u:Nat):Bd u≤142506:=by
 match u with
 | 0=>exact Nat.le_refl _
 | 1=>exact(by decide:756≤142506)
 | 2=>exact(by decide:56≤142506)
 | _+3=>exact(by decide:16≤142506)
theorem four(n m:Nat):4*(n*m)≤(n+m)*(n+m):=by
 rcases Nat.le_total n m with h | h
 ·obtain⟨d,rfl⟩:=Nat.le.dest h
  have:(n+(n+d))*(n+(n+d))=4*(n*(n+d))+d*d:=by grind
  lia
 ·obtain⟨d,rfl⟩:=Nat.le.dest h
  have:(m+d+m)*(m+d+m)=4*((m+d)*m)+d*d:=by grind
  lia
theorem Lu{u n m:Nat}(hu:u+1≤3)(h:1+m+n≤Bd (u+1)):n*m≤Bd u:=by
 have f:=four n m
 match u with
 | 0 =>
  have k:n+m≤755:=by have:1+m+n≤756:=h;lia
  have:=Nat.mul_le_mul k k
  show n*m≤142506;lia
 | 1 =>
  have k:n+m≤55:=by have:1+m+n≤56:=h;lia
  have:=Nat.mul_le_mul k k
  show n*m≤756;lia
 | 2 =>
  have k:n+m≤15:=by have:1+m+n≤16:=h;lia
  have:=Nat.mul_le_mul k k
  show n*m≤56;lia
 | _+3=>lia
theorem LK{i:Fin 3}{s t:Tm}(h:s∈kids t)(o:occ i s):occ i t:=by
 unfold occ;rw[Ae];exact List.mem_cons_of_mem _ (List.mem_flatMap.mpr ⟨s,h,o⟩)
theorem Rob.kid{one two:Tm}{ps:Prs}{U:List (Fin 3)}{q:List (Tm×Tm)}(R:Rob one two ps U q){a s:Tm}(h:s∈kids (ap ps a)):ap ps s=s:=by
 rw[BQ];exact Gw fun i hi=>R.free i a (LK h hi)
theorem I0(t:Tm):((kids t).map lv).sum≤lv t:=by
 cases t with
 | v i=>exact Nat.zero_le _
 | k b=>exact Nat.zero_le _
 | u t=>exact Nat.le_refl _
 | p s t=>exact Nat.le_refl _
theorem I1(t:Tm):((kids t).map len).sum<len t:=by
 cases t with
 | v i=>exact BG _
 | k b=>exact BG _
 | u t=>exact Nat.le_refl _
 | p s t=>rw[M5];exact Nat.le_refl _
theorem J1{ps:Prs}:∀ {x y:List Tm},(∀ s∈x,ap ps s=s)→(∀ s∈y,ap ps s=s)→wl ps (x.zip y)≤(x.map lv).sum+(y.map lv).sum∧wn ps (x.zip y)≤(x.map len).sum+(y.map len).sum
 | [],_,_,_=>⟨Nat.zero_le _,Nat.zero_le _⟩
 | _::_,[],_,_=>⟨Nat.zero_le _,Nat.zero_le _⟩
 | a::x,b::y,h1,h2=>by
  obtain⟨k1,k2⟩:=J1 (fun s hs=>h1 s (List.mem_cons_of_mem _ hs)) fun s hs=>h2 s (List.mem_cons_of_mem _ hs)
  rw[List.zip_cons_cons,BW,DG,h1 a List.mem_cons_self,h2 b List.mem_cons_self,List.map_cons,List.map_cons,List.map_cons,List.map_cons,List.sum_cons,List.sum_cons,List.sum_cons,List.sum_cons]
  exact⟨by lia,by lia⟩
theorem Mb(ps:Prs)(q q':List (Tm×Tm)):wl ps (q++q')=wl ps q+wl ps q':=by unfold wl;rw[List.map_append,List.sum_append]
theorem MZ(ps:Prs)(q q':List (Tm×Tm)):wn ps (q++q')=wn ps q+wn ps q':=by unfold wn;rw[List.map_append,List.sum_append]
inductive Td(tm:Nat→Tm)(pt:Nat→List Nat)(of:Nat→Nat)(hd:Nat→Int)(tl:Nat→Option Tm)(c:Nat)(t:Tm):Prop
 | mk (h:Nat) (e:hd c=h) (es:hdc t=hdc (tm h)) (ek:(pt h).map (fun k=>tl (of k))=(kids t).map some)
structure Tld(n:Nat)(tm:Nat→Tm)(pt:Nat→List Nat)(of:Nat→Nat)(hd:Nat→Int)(tl:Nat→Option Tm):Prop where
 vr:∀ c,c<n→of c=c→hd c<0→tl c=some (tm c)
 nd:∀ c,c<n→of c=c→0≤hd c→∀ t,tl c=some t→Td tm pt of hd tl c t
section
variable{one two:Tm}{n:Nat}{tm:Nat→Tm}{pt:Nat→List Nat}{t0 t1:Nat}{of:Nat→Nat}{hd:Nat→Int}{R:List Nat}{tl:Nat→Option Tm}
noncomputable def tau(of:Nat→Nat)(tl:Nat→Option Tm)(i:Fin 3):Tm:=(tl (of i.val)).getD (.v i)
theorem map_some{α β:Type}{f:α→Option β}{g:β→β}:∀ {x:List α} {y z:List β} {h:α→β},x.map f=y.map some→x.map h=z→(∀ a∈x,∀ b,f a=some b→b=g (h a))→y=z.map g:=by
  intro x
  induction x with
  | nil =>
   intro y z h e1 e k
   cases y with
   | nil=>rw[← e];rfl
   | cons _ _=>cases e1
  | cons a x ih =>
   intro y z h e1 e2 k
   cases y with
   | nil=>cases e1
   | cons b y =>
    obtain⟨p,q⟩:=List.cons.inj e1
    rw[← e2,List.map_cons,List.map_cons,ih q rfl fun a' ha=>k a' (List.mem_cons_of_mem _ ha),k a List.mem_cons_self b p]
theorem Tld.put(N:Nds n tm pt)(M:Mrg one two n tm pt t0 t1 of hd [] R)(T:Tld n tm pt of hd tl):∀ (m c:Nat) (t:Tm),len (tm c)≤m→c<n→tl (of c)=some t→t=sub (tau of tl) (tm c)
 | 0,c,_,h,_,_=>absurd (BG (tm c)) (by lia)
 | m+1,c,t,hm,hc,e=>by
  obtain⟨l1,l2,l3⟩:=M.lt c hc
  by_cases hv:isV (tm c)
  ·have h3:c<3:=Classical.byContradiction fun h=>N.nv c hc (Nat.le_of_not_lt h) hv
   have hcv:tm c = .v ⟨c,h3⟩:=N.vr ⟨c,h3⟩
   rw[hcv]
   show t=(tl (of c)).getD _
   rw[e];rfl
  ·have hd0:0≤hd (of c):=Classical.byContradiction fun h=>hv (M.hh c hc (by lia))
   obtain⟨h,e1,es,ek⟩:=T.nd (of c) l1 l2 hd0 t e
   obtain⟨h',e2,hn,ho,hvh,k⟩:=M.hs c hc hd0
   have:h'=h:=by rw[e1] at e2;exact(Int.ofNat.inj e2).symm
   subst this
   obtain⟨k1,k2⟩:=k hv
   have ep:(pt c).map of=(pt h').map of:=k2 of ⟨fun d hd=>(M.lt d hd).2.1.symm,fun x hx=>nomatch hx⟩
   have ek':(pt c).map (fun k=>tl (of k))=(kids t).map some:=by
    rw[← ek]
    have:=congrArg (List.map tl) ep
    rwa[List.map_map,List.map_map] at this
   obtain⟨s1,s2,_⟩:=CQ (tau of tl) hv
   refine Gu (by rw[s1,es,k1]) ?_
   rw[s2]
   refine map_some ek' (N.kd c hc).1 fun a ha b hb=>Tld.put N M T m a b ?_ ((N.kd c hc).2 a ha) hb
   have:tm a∈kids (tm c):=by rw[← (N.kd c hc).1];exact List.mem_map.mpr ⟨a,ha,rfl⟩
   exact Nat.le_of_lt_succ (Nat.lt_of_lt_of_le (CS this) hm)
theorem Tld.of'(N:Nds n tm pt)(M:Mrg one two n tm pt t0 t1 of hd [] R)(T:Tld n tm pt of hd tl){c:Nat}{t:Tm}(hc:c<n)(e:tl (of c)=some t):t=sub (tau of tl) (tm c):=T.put N M _ c t (Nat.le_refl _) hc e
theorem Tld.small(N:Nds n tm pt)(M:Mrg one two n tm pt t0 t1 of hd [] R)(T:Tld n tm pt of hd tl)(i:Fin 3):Small (tau of tl) (tau of tl i):=by
 have hi:i.val<n:=Nat.lt_of_lt_of_le i.isLt N.n3
 obtain⟨l1,l2,l3⟩:=M.lt _ hi
 cases e:tl (of i.val) with
 | none=>rw[show tau of tl i=_ from congrArg (Option.getD · _) e];exact .var trivial
 | some t =>
  rw[show tau of tl i=_ from congrArg (Option.getD · _) e]
  show Small _ t
  by_cases h0:hd (of i.val)<0
  ·have:=T.vr _ l1 l2 h0
   rw[e] at this
   rw[Option.some.inj this]
   exact .var (M.hh _ l1 (by rw[l2];exact h0))
  ·obtain⟨h,e2,hn,ho,hv,k⟩:=M.hs _ hi (by lia)
   refine .tm (tm h) (N.sz h hn) hv (T.of' N M hn (by rw[ho,e]))
theorem Tld.len_le(N:Nds n tm pt)(M:Mrg one two n tm pt t0 t1 of hd [] R)(T:Tld n tm pt of hd tl){c:Nat}{t:Tm}(hc:c<n)(e:tl (of c)=some t):len t≤50625:=by
 rw[T.of' N M hc e];exact Em (T.small N M) (N.sz c hc)
theorem Tld.uni(N:Nds n tm pt)(M:Mrg one two n tm pt t0 t1 of hd [] R)(T:Tld n tm pt of hd tl){f:Fin 3→Tm}(hf:sub f one=sub f two):∀ (m c:Nat) (t:Tm),len t≤m→c<n→of c=c→tl c=some t→sub f (tm c)=sub f t
 | 0,c,t,h,_,_,_=>absurd (BG t) (by lia)
 | m+1,c,t,hm,hc,oc,e=>by
  by_cases h0:hd c<0
  ·have:=T.vr c hc oc h0
   rw[e] at this
   rw[Option.some.inj this]
  ·obtain⟨h,e1,es,ek⟩:=T.nd c hc oc (by lia) t e
   obtain⟨h',e2,hn,ho,hv,k⟩:=M.hs c hc (by rw[oc];lia)
   rw[oc] at e2 ho
   have:h'=h:=by rw[e1] at e2;exact(Int.ofNat.inj e2).symm
   subst this
   obtain⟨u1,_⟩:=M.un f hf
   rw[← ho,← u1 h' hn]
   have hvt:¬ isV t:=by
    intro w
    obtain⟨i,rfl⟩:=Di w
    have:=Jp hv
    rw[← es] at this
    exact absurd this (Nat.not_lt.mpr (Cx i))
   refine(Fv hv hvt es.symm).mpr ?_
   have key:∀ (x:List Nat) (y:List Tm),(∀ a∈x,a<n)→(∀ b∈y,len b≤m)→x.map (fun k=>tl (of k))=y.map some→∀ z∈(x.map tm).zip y,sub f z.1=sub f z.2:=by
    intro x
    induction x with
    | nil=>intro y _ _ _ z hz;cases hz
    | cons a x ih =>
     intro y h1 h2 h3 z hz
     cases y with
     | nil=>cases hz
     | cons b y =>
      obtain⟨p,q⟩:=List.cons.inj h3
      rcases List.mem_cons.mp hz with rfl | hz
      ·have ha:=h1 a List.mem_cons_self
       obtain⟨l1,l2,_⟩:=M.lt a ha
       exact(u1 a ha).trans (Tld.uni N M T hf m (of a) b (h2 b List.mem_cons_self) l1 l2 p)
      ·exact ih y (fun a ha=>h1 a (List.mem_cons_of_mem _ ha)) (fun b hb=>h2 b (List.mem_cons_of_mem _ hb)) q z hz
   rw[← (N.kd h' hn).1]
   exact key _ _ (N.kd h' hn).2 (fun b hb=>Nat.le_of_lt_succ (Nat.lt_of_lt_of_le (CS hb) hm)) ek
theorem Tld.fail(N:Nds n tm pt)(M:Mrg one two n tm pt t0 t1 of hd [] R)(T:Tld n tm pt of hd tl)(hr:∀ c,c<n→of c=c→tl c=none→∀ h:Nat,hd c=h→∃ k∈pt h,tl (of k)=none){f:Fin 3→Tm}(hf:sub f one=sub f two):∀ (m c:Nat),len (sub f (tm c))≤m→c<n→of c=c→tl c≠none
 | 0,c,h,_,_=>absurd (BG (sub f (tm c))) (by lia)
 | m+1,c,hm,hc,oc=>by
  intro e
  have h0:0≤hd c:=Classical.byContradiction fun h=>by rw[T.vr c hc oc (by lia)] at e;cases e
  obtain⟨h,e2,hn,ho,hv,k⟩:=M.hs c hc (by rw[oc];exact h0)
  rw[oc] at e2 ho
  obtain⟨a,ha,ea⟩:=hr c hc oc e h e2
  obtain⟨u1,_⟩:=M.un f hf
  have han:=(N.kd h hn).2 a ha
  obtain⟨l1,l2,_⟩:=M.lt a han
  refine Tld.fail N M T hr hf m (of a) ?_ l1 l2 ea
  rw[← u1 a han]
  have:sub f (tm a)∈kids (sub f (tm h)):=by
   rw[(CQ f hv).2.1,← (N.kd h hn).1,List.map_map]
   exact List.mem_map.mpr ⟨a,ha,rfl⟩
  have:=CS this
  rw[u1 h hn,ho] at this
  lia
inductive Due(one two:Tm):Option Tm→Prop
 | none (h:∀ f,sub f one≠sub f two):Due one two none
 | some (f:Fin 3→Tm) (t:Tm) (h1:t=sub f one) (h2:t=sub f two) (h3:∀ g,sub g one=sub g two→sub g one=sub g t):Due one two (some t)
theorem Tld.due(N:Nds n tm pt)(M:Mrg one two n tm pt t0 t1 of hd [] R)(T:Tld n tm pt of hd tl)(hr:∀ c,c<n→of c=c→tl c=none→∀ h:Nat,hd c=h→∃ k∈pt h,tl (of k)=none)(h0:t0<n)(h1:t1<n)(e0:tm t0=one)(e1:tm t1=two):Due one two (tl (of t0)):=by
 obtain⟨l1,l2,_⟩:=M.lt t0 h0
 cases e:tl (of t0) with
 | none=>exact .none fun f hf=>T.fail N M hr hf _ (of t0) (Nat.le_refl _) l1 l2 e
 | some t =>
  have eo:of t0=of t1:=M.tp of ⟨fun d hd=>(M.lt d hd).2.1.symm,fun x hx=>nomatch hx⟩
  refine .some (tau of tl) t (by rw[← e0];exact T.of' N M h0 e) (by rw[← e1];exact T.of' N M h1 (by rw[← eo,e])) fun g hg=>?_
  have:=T.uni N M hg _ (of t0) t (Nat.le_refl _) l1 l2 e
  rw[← this,← (M.un g hg).1 t0 h0,e0]
theorem Tld.tell(T:Tld n tm pt of hd tl){c:Nat}{t:Tm}(hc:tl c=none)(h0:0≤hd c)(D:Td tm pt of hd tl c t):Tld n tm pt of hd (fun d=>if d=c then some t else tl d):=by
 have up:∀ {d s},Td tm pt of hd tl d s→Td tm pt of hd (fun d=>if d=c then some t else tl d) d s:=by
  intro d s ⟨h,e,es,ek⟩
  refine⟨h,e,es,?_⟩
  rw[← ek]
  refine List.map_congr_left fun k hk=>if_neg fun q=>?_
  have:tl (of k)∈(kids s).map some:=by rw[← ek];exact List.mem_map.mpr ⟨k,hk,rfl⟩
  rw[q,hc] at this
  obtain⟨_,_,h⟩:=List.mem_map.mp this
  cases h
 refine⟨fun d hd1 hd2 hd3=>?_,fun d hd1 hd2 hd3 s hs=>?_⟩
 ·show(if d=c then _ else _)=_
  rw[if_neg (by rintro rfl;lia)];exact T.vr d hd1 hd2 hd3
 ·have hs:(if d=c then some t else tl d)=some s:=hs
  by_cases q:d=c
  ·rw[if_pos q] at hs
   rw[← Option.some.inj hs,q];exact up D
  ·rw[if_neg q] at hs
   exact up (T.nd d hd1 hd2 hd3 s hs)
end
inductive Alike(one two:Tm):Option (List (Fin 3×Tm))→Prop
 | none (h:∀ f,sub f one≠sub f two):Alike one two none
 | some (ps:List (Fin 3×Tm)) (U:List (Fin 3)) (R:Rob one two ps U []):Alike one two (some ps)
inductive Both(one two:Tm):Option (List (Fin 3×Tm))→Option Tm→Prop
 | none:Both one two none none
 | some (ps:List (Fin 3×Tm)) (t:Tm) (h1:ap ps one=ap ps two) (h2:named (enc (ap ps one))=named (enc t)):Both one two (some ps) (some t)
theorem both{one two:Tm}{a:Option (List (Fin 3×Tm))}{d:Option Tm}(A:Alike one two a)(D:Due one two d):Both one two a d:=by
 cases A with
 | none h =>
  cases D with
  | none h'=>exact .none
  | some f t h1 h2 h3=>exact(h f (h1.symm.trans h2)).elim
 | some ps U R =>
  obtain⟨r1,r2⟩:=R.done
  cases D with
  | none h=>exact(h _ r1).elim
  | some f t h1 h2 h3 =>
   refine .some ps t (by rw[BQ,BQ,r1]) ?_
   rw[BQ]
   exact Jr (h3 _ r1) (h1.trans (r2 f (h1.symm.trans h2)))
end Mine
namespace Mine
open PySem
def qR(n:Nat)(Q:V→List O→Prop):QS:=fun fl z hp=>match fl with | .ret v=>fin false n Q v hp | _=>fin false n Q (.d .none) hp
def qF(g:G)(tgt:XT)(body:XS)(Q:QS)(xs:List PyData):QS:=fun fl vs hp=>match fl with
 | .next=>forL g tgt body Q xs vs hp
 | .cont=>forL g tgt body Q xs vs hp
 | .brk=>Q .next vs hp
 | .ret v=>Q (.ret v) vs hp
def qW(t:XB)(body:XS)(Q:QS)(n:Nat):QS:=fun fl vs hp=>match fl with
 | .next=>whileN t body Q n vs hp
 | .cont=>whileN t body Q n vs hp
 | .brk=>Q .next vs hp
 | .ret v=>Q (.ret v) vs hp
section
variable{vs vs0:List (Option V)}{hp:List O}{Q:V→List O→Prop}{QB:Bool→List O→Prop}{QQ:QS}{a b c:XE}{t:XB}{s s':XS}{f:Op2}{k n m:Nat}{v w:V}{F:FT}{p l:XL}{QL:List V→List O→Prop}{vas:List V}
theorem CV(e:vas.length=n)(e':vas.map some++List.replicate m none=vs0)(q:s vs0 (qR hp.length Q) hp):runFn false (bPlain n) m s vas Q hp:=⟨e,(e' ▸ q:s (vas.map some++List.replicate m none) (qR hp.length Q) hp)⟩
theorem M6(q:a vs (fun v hp=>QQ (.ret v) vs hp) hp):sRet a vs QQ hp:=q
theorem DA{h:Nat}(q:a vs (fun v hp=>fin false h Q v hp) hp):sCons (sRet a) s vs (qR h Q) hp:=q
theorem AY(q:a vs (fun v hp=>s (vs.set k (some v)) QQ hp) hp):sCons (sAssign k a) s vs QQ hp:=q
theorem EW(q:a vs (fun v hp=>QQ .next (vs.set k (some v)) hp) hp):sCons (sAssign k a) sNil vs QQ hp:=q
theorem GW(q:a vs (fun v hp=>s vs QQ hp) hp):sCons (sExpr a) s vs QQ hp:=q
theorem EV(q:a vs (fun v hp=>QQ .next vs hp) hp):sCons (sExpr a) sNil vs QQ hp:=q
theorem DW(h:vs[k]?=some (some w))(q:a vs (fun v=>f w v fun w hp=>s (vs.set k (some w)) QQ hp) hp):sCons (sAug f k a) s vs QQ hp:=by
 show sAug f k a vs _ hp
 unfold sAug
 rw[h];exact q
theorem Fr(q:QQ .next vs hp):sNil vs QQ hp:=q
theorem Az{s1 s2:XS}{x:Bool}(h:∀ K:Bool→List O→Prop,K x hp→t vs K hp)(q1:x=true→s1 vs (qC s QQ) hp)(q2:x=false→s2 vs (qC s QQ) hp):sCons (sIf t s1 s2) s vs QQ hp:=by
 refine h _ ?_
 cases x with
 | true=>exact q1 rfl
 | false=>exact q2 rfl
theorem A2(h:vs[k]?=some (some v))(q:Q v hp):xVar k vs Q hp:=by unfold xVar;rw[h];exact q
theorem Cw{x:Str}(q:Q (.d (.str x)) hp):cS x vs Q hp:=q
theorem BN{x:Int}(q:Q (.d (.int x)) hp):cI x vs Q hp:=q
theorem AB(q:a vs (fun va=>b vs fun vb=>f va vb Q) hp):xBin f a b vs Q hp:=q
theorem AR(q:a vs (fun va=>b vs fun vb=>f va vb fun v=>truthV v QB) hp):bCmp f a b vs QB hp:=q
theorem OJ(q:a vs (fun v=>truthV v QB) hp):bVal a vs QB hp:=q
theorem Cf(q:p vs (fun l hp=>F l Q hp) hp):xCall F p vs Q hp:=q
theorem AW(q:a vs (fun v=>p vs fun l=>QL (v::l)) hp):lCons a p vs QL hp:=q
theorem Aw(q:QL [] hp):lNil vs QL hp:=q
theorem Bp(q:a vs (fun v hp=>F [v] Q hp) hp):xCall F (lCons a lNil) vs Q hp:=q
theorem K8{g:V→(V→List O→Prop)→List O→Prop}(q:a vs (fun v=>g v Q) hp):xUn g a vs Q hp:=q
theorem Aq{g:ML}(q:a vs (fun vo hp=>(lget vo hp).isSome=true∧p vs (fun vas hp'=>(lget vo hp').isSome=true∧g vo vas Q hp') hp) hp):xMethL g a p vs Q hp:=q
theorem HM{C:PySem.Addr}(q:a vs (fun v hp=>(atI v hp C fun z z=>True)∧p vs (fun vas=>l vs fun kas=>F (v::(vas++kas)) Q) hp) hp):xMeth C F a p l vs Q hp:=q
theorem C4{C:PySem.Addr}(h:vs[k]?=some (some v))(h':atI v hp C fun z z=>True)(q:F [v] Q hp):xMeth C F (xVar k) lNil lNil vs Q hp:=HM (A2 h ⟨h',q⟩)
theorem DV{C:PySem.Addr}(h:vs[k]?=some (some v))(h':atI v hp C fun z z=>True)(q:a vs (fun w hp=>F [v,w] Q hp) hp):xMeth C F (xVar k) (lCons a lNil) lNil vs Q hp:=HM (A2 h ⟨h',q⟩)
theorem E0{tgt:XT}(q:a vs (fun v hp=>iterV v hp fun g xs=>forL g tgt s (qC s' QQ) xs vs hp) hp):sCons (sFor tgt a s) s' vs QQ hp:=q
theorem Cn(q:∃ n,whileN t s (qC s' QQ) n vs hp):sCons (sWhile t s) s' vs QQ hp:=q
theorem BS{b:Bool}(h:∀ K:Bool→List O→Prop,K b hp→t vs K hp)(q1:b=true→s vs (qW t s QQ n) hp)(q2:b=false→QQ .next vs hp):whileN t s QQ (n+1) vs hp:=by
 refine h _ ?_
 cases b with
 | true=>exact q1 rfl
 | false=>exact q2 rfl
theorem Bh{g:G}{tgt:XT}{x:PyData}{xs:List PyData}(hg:gOk g hp)(q:tgt (.d x) vs (fun vs' hp'=>s vs' (qF g tgt s QQ xs) hp') hp):forL g tgt s QQ (x::xs) vs hp:=⟨hg,q⟩
theorem KO{g:G}{tgt:XT}(hg:gOk g hp)(q:QQ .next vs hp):qF g tgt s QQ [] .next vs hp:=⟨hg,q⟩
theorem NK{g:G}{tgt:XT}{x:PyData}{xs:List PyData}(hg:gOk g hp)(q:tgt (.d x) vs (fun vs' hp'=>s vs' (qF g tgt s QQ xs) hp') hp):qF g tgt s QQ (x::xs) .next vs hp:=⟨hg,q⟩
theorem Co{f:MS}{x:Str}(h:∀ K:V→List O→Prop,K (.d (.str x)) hp→a vs K hp)(q:p vs (fun vas=>f x vas Q) hp):xMethS f a p vs Q hp:=h _ q
theorem M2{x y:Int}(q:Q (.d (.int (x-y))) hp):opSub (.d (.int x)) (.d (.int y)) Q hp:=q
theorem i_retC'(q:a vs (fun v hp=>QQ (.ret v) vs hp) hp):sCons (sRet a) s vs QQ hp:=q
theorem Gn(q:whileN t s QQ n vs hp):qW t s QQ n .next vs hp:=q
theorem BY{i:Nat}{l:List PyData}(h:hp[i]?=some (.lst l)):lget (.r i) hp=some l:=by unfold lget;dsimp only;rw[h]
theorem B8{i:Nat}{l:List PyData}(h:hp[i]?=some (.lst l)):(lget (.r i) hp).isSome=true:=by rw[BY h];rfl
theorem DD{i:Nat}{l:List PyData}{k:Nat→List PyData→Prop}(h:hp[i]?=some (.lst l))(q:k i l):atL (.r i) hp k:=by unfold atL;dsimp only;rw[h];exact q
theorem Cd{i:Nat}{x:PyData}{l:List PyData}(h:hp[i]?=some (.lst l))(hl:l.length≤sizeLine)(q:Q (.d .none) (hp.set i (.lst (l++[x])))):(lget (.r i) hp).isSome=true∧mAppend (.r i) [.d x] Q hp:=⟨B8 h,(DD h ⟨hl,q⟩:atL (.r i) hp fun i l=>l.length≤sizeLine∧Q (.d .none) (hp.set i (.lst (l++[x]))))⟩
theorem Mz{i:Nat}{x:PyData}{l:List PyData}(h:hp[i]?=some (.lst (x::l)))(hl:(x::l).length≤sizeLine)(q:Q (.d x) (hp.set i (.lst l))):(lget (.r i) hp).isSome=true∧mPop (.r i) [.d (.int 0)] Q hp:=⟨B8 h,rfl,(by exact DD h ⟨hl,q⟩:atL (.r i) hp _)⟩
end
variable{ip:Nat}
noncomputable abbrev ch(c:Nat):Str:=⟨#[c]⟩
noncomputable abbrev mkS(l:List Nat):Str:=⟨l.toArray⟩
noncomputable def wsS:Str := "\n\t\r "
noncomputable def isWs(c:Nat):Bool:=c == 10 || c == 9 || c == 13 || c == 32
theorem MX:∀ c:Fin 128,Txt.contains wsS (ch c.val)=isWs c.val:=by decide +kernel
theorem Nq{c:Nat}(h:c<128):Txt.contains wsS (ch c)=isWs c:=MX ⟨c,h⟩
theorem Du(c d:Nat):((ch c) == (ch d))=(c == d):=by
 by_cases h:c=d
 ·subst h;simp
 ·have:ch c≠ch d:=by intro e;cases e;exact h rfl
  rw[beq_eq_false_iff_ne.mpr this,beq_eq_false_iff_ne.mpr h]
theorem Ju(t:List Nat)(c:Nat):mkS t++ch c=mkS (t++[c]):=by
 show(⟨_++_⟩:Str)=_
 simp
theorem Og(t:List Nat):mkS t++mkS []=mkS t:=by
 show(⟨_++_⟩:Str)=_
 simp
theorem AH(t:List Nat):(mkS t).length=t.length:=by show t.toArray.size=_;simp
def okl(l:List Nat):Prop:=l.length≤2 ^ 20∧∀ c∈l,c<128
theorem Jg{l:List PyData}(h:∀ x∈l,∃ y,x = .str y∧PyData.strOk y=true):okD (.list l)=true:=by
 have k:PyData.canLayAll0 l=true∧PyData.depthAll l=0:=by
  induction l with
  | nil=>exact⟨rfl,rfl⟩
  | cons x xs ih =>
   obtain⟨y,rfl,hy⟩:=h x List.mem_cons_self
   obtain⟨a,b⟩:=ih (fun z hz=>h z (List.mem_cons_of_mem _ hz))
   refine⟨?_,?_⟩
   ·simp only[PyData.canLayAll0,PyData.canLay0,hy,a,Bool.and_self]
   ·simp only[PyData.depthAll,PyData.depth,b];rfl
 unfold okD
 simp only[PyData.canLay0,PyData.depth,k.1,k.2]
 decide
theorem Jh{l:List Nat}(h:∀ c∈l,c<128):okD (strL l)=true:=by
 refine Jg ?_
 intro x hx
 obtain⟨c,hc,rfl⟩:=List.mem_map.mp hx
 refine⟨_,rfl,?_⟩
 have:=h c (by simpa using hc)
 unfold PyData.strOk
 simp;exact Lb this
structure Lx(ip:Nat)(hp:List O)(il is:Nat)(n:Int)(l:List Nat):Prop where
 ne:il≠is
 ob:∃ fs,hp[il]?=some (.inst 76 fs)∧fs.lookup 1=some (.d (.int n))∧fs.lookup 2=some (.r is)∧fs.lookup 3=some (.d (.str wsS))∧fs.lookup 4=some (.r ip)
 st:hp[is]?=some (.stream l)
 ok:okl l
def Kp(S:List Nat)(hp hp':List O):Prop:=hp'.length=hp.length∧∀ k,k ∉ S→hp'[k]?=hp[k]?
theorem Kp.refl(S:List Nat)(hp:List O):Kp S hp hp:=⟨rfl,fun z z=>rfl⟩
theorem Kp.trans{S:List Nat}{a b c:List O}(x:Kp S a b)(y:Kp S b c):Kp S a c:=⟨y.1.trans x.1,fun k hk=>(y.2 k hk).trans (x.2 k hk)⟩
theorem Kp.mono{S T:List Nat}{a b:List O}(x:Kp S a b)(h:∀ k∈S,k∈T):Kp T a b:=⟨x.1,fun k hk=>x.2 k (fun q=>hk (h k q))⟩
theorem Kp.set{S:List Nat}{hp:List O}{i:Nat}{o:O}(h:i∈S):Kp S hp (hp.set i o):=⟨by simp,fun k hk=>by rw[List.getElem?_set_ne];rintro rfl;exact hk h⟩
noncomputable def nl(c:Nat):Int:=if c=10 then 1 else 0
noncomputable def hd(l:List Nat):List Nat:=l.take 1
noncomputable def nlh:List Nat→Int | []=>0 | c::_=>nl c
theorem AT{hp:List O}{i:Nat}{o o':O}(h:hp[i]?=some o):(hp.set i o')[i]?=some o':=by
 rw[List.getElem?_set_self' ];simp[h]
theorem C5{n:Nat}{Q:V→List O→Prop}{x:PyData}{hp:List O}(h:hp.length=n)(q:Q (.d x) hp):fin false n Q (.d x) hp:=by
 show Q _ (hp.take n)
 rw[← h,List.take_length];exact q
theorem Ba{C:Addr}{k i:Nat}{fs:List (Nat×V)}{w:V}{Q:V→List O→Prop}{hp:List O}(e:hp[i]?=some (.inst C fs))(f:fs.lookup k=some w)(q:Q w hp):getF C k (.r i) Q hp:=by
 unfold getF atI
 simp only[e,f]
 exact⟨trivial,q⟩
theorem LA{C:Addr}{k i:Nat}{fs:List (Nat×V)}{w:PyData}{Q:List O→Prop}{hp:List O}(e:hp[i]?=some (.inst C fs))(q:Q (hp.set i (.inst C (putFs k (.d w) fs)))):setF C k (.r i) (.d w) Q hp:=by
 unfold setF atI
 simp only[e]
 exact⟨trivial,trivial,q⟩
theorem HS{il is:Nat}{n:Int}{l:List Nat}{hp:List O}{Q:V→List O→Prop}(L:Lx ip hp il is n l)
  (q:∀ hp',Kp [il,is] hp hp'→Lx ip hp' il is (n+nlh l) l.tail→Q (.d (.str (mkS (hd l)))) hp'):A4 [.r il] Q hp:=by
 obtain⟨ne,⟨fs,e1,f1,f2,f3,f4⟩,st,ok⟩:=L
 simp only[A4,runFn,bPlain,Am,sCons,sAssign,xRead,xUn,xVar,sIf,bCmp,sAugF,sRet,cI,cS,sNil,List.map_cons,List.map_nil,List.replicate,List.cons_append,List.nil_append,List.getElem?_cons_zero,List.getElem?_cons_succ,List.set_cons_zero,List.set_cons_succ]
 refine⟨rfl,?_⟩
 refine Ba e1 f2 ?_
 show readS is _ hp
 unfold readS
 rw[st]
 cases l with
 | nil =>
  refine C5 rfl (q hp (Kp.refl _ _) ⟨ne,⟨fs,e1,?_,f2,f3,f4⟩,st,ok⟩)
  simpa [nlh] using f1
 | cons c l =>
  have okt:okl l:=⟨Nat.le_trans (Nat.le_succ _) ok.1,fun d hd=>ok.2 d (List.mem_cons_of_mem _ hd)⟩
  refine⟨⟨Nat.le_trans ok.1 (by rw[sizeLine_eq];decide),Jh ok.2⟩,?_⟩
  have s1:(hp.set is (.stream l))[is]?=some (.stream l):=AT st
  have s2:(hp.set is (.stream l))[il]?=some (.inst 76 fs):=by rw[List.getElem?_set_ne (Ne.symm ne)];exact e1
  have hb:((ch c) == ("\n" : Str))=(c == 10):=by rw[show(("\n" : Str))=ch 10 from by decide,Du]
  dsimp only[opEq,truthV]
  rw[hb]
  by_cases h:c=10
  ·subst h
   refine Ba s2 f1 (LA s2 ?_)
   refine C5 (by simp) (q _ ?_ ⟨ne,⟨_,AT s2,?_,?_,?_,?_⟩,?_,okt⟩)
   ·exact(Kp.set (by simp)).trans (Kp.set (by simp))
   ·rw[Bu];simp[nlh,nl]
   ·rw[Bu];simp[f2]
   ·rw[Bu];simp[f3]
   ·rw[Bu];simp[f4]
   ·rw[List.getElem?_set_ne ne];exact s1
  ·have:(c == 10)=false:=by simpa using h
   rw[this]
   refine C5 (by simp) (q _ (Kp.set (by simp)) ⟨ne,⟨fs,s2,?_,f2,f3,f4⟩,s1,okt⟩)
   simpa [nlh,nl,h] using f1
end Mine
namespace Mine
open PySem
variable{ip:Nat}
theorem Lx.keep{hp hp':List O}{il is ic:Nat}{n:Int}{l:List Nat}{o:O}(L:Lx ip hp il is n l)(h1:ic≠il)(h2:ic≠is):Lx ip (hp.set ic o) il is n l:=by
 obtain⟨ne,⟨fs,e1,f⟩,st,ok⟩:=L
 exact⟨ne,⟨fs,by rw[List.getElem?_set_ne h1];exact e1,f⟩,by rw[List.getElem?_set_ne h2];exact st,ok⟩
theorem Fx{ic il is:Nat}{n:Int}{l:List Nat}{hp:List O}{Q:Option V→List O→Prop}(L:Lx ip hp il is n l)(hc:hp[ic]?=some (.citer (some il)))(h1:ic≠il)(h2:ic≠is)
  (q:∀ hp',Kp [il,is,ic] hp hp'→Lx ip hp' il is (n+nlh l) l.tail→match l with | []=>hp'[ic]?=some (.citer none)→Q none hp' | c::_=>hp'[ic]?=some (.citer (some il))→Q (some (.d (.str (ch c)))) hp'):nextC ic A4 Q hp:=by
 unfold nextC
 rw[hc]
 refine HS L ?_
 intro hp' k L'
 have hc':hp'[ic]?=some (.citer (some il)):=(k.2 ic (by simp[h1,h2])).trans hc
 refine⟨hc',?_⟩
 cases l with
 | nil =>
  show(if (⟨#[]⟩:Str)=mkS (hd []) then _ else _)
  rw[if_pos (by rfl)]
  exact q _ ((k.mono (by simp)).trans (Kp.set (by simp))) (L'.keep (hp':=hp') h1 h2) (AT hc')
 | cons c l =>
  show(if (⟨#[]⟩:Str)=mkS (hd (c::l)) then _ else _)
  rw[if_neg (by intro e;cases e)]
  exact q _ (k.mono (by simp)) L' hc'
noncomputable def tL(e:Nat→Bool):Bool→List Nat→List Nat×List Nat×Int
 | _,[]=>([],[],0)
 | true,c::l=>(c::(tL e false l).1,(tL e false l).2.1,nl c+(tL e false l).2.2)
 | false,c::l=>if e c then ([],l,nl c) else if c=92 then tL e true l else (c::(tL e false l).1,(tL e false l).2.1,nl c+(tL e false l).2.2)
def bT(T:XB):XS:=sCons (sIf T (sCons (sRet (xVar 1)) sNil) (sCons (sIf (bCmp opEq (xVar 3) (cS "\\")) (sCons (sAssign 3 (xMeth 76 A4 (xVar 0) lNil lNil)) sNil) sNil) sNil)) (sCons (sAug opIAdd 1 (xVar 3)) sNil)
theorem Lx.at{il is:Nat}{n:Int}{l:List Nat}{hp:List O}{k:Nat→List (Nat×V)→Prop}(L:Lx ip hp il is n l)(q:∀ fs,k il fs):atI (.r il) hp 76 k:=by
 obtain⟨fs,e1,_⟩:=L.ob
 unfold atI;dsimp only;rw[e1];exact⟨rfl,q fs⟩
section
variable{e:Nat→Bool}{c:Nat}{l:List Nat}
theorem Ej(h:e 92=false):tL e false (92::l)=tL e true l:=(if_neg (by rw[h];decide)).trans (if_pos rfl)
theorem Cj(l:List Nat):tL e true l=(hd l++(tL e false l.tail).1,(tL e false l.tail).2.1,nlh l+(tL e false l.tail).2.2):=by cases l<;>rfl
theorem IP(h:e c=false)(h2:c≠92):tL e false (c::l)=(c::(tL e false l).1,(tL e false l).2.1,nl c+(tL e false l).2.2):=(if_neg (by rw[h];decide)).trans (if_neg h2)
end
noncomputable abbrev fT(il ic:Nat)(t:List Nat)(o:Option V):List (Option V):=[some (.r il),some (.d (.str (mkS t))),some (.r ic),o]
def TQ(ip ic il is:Nat)(Q:QS)(hp:List O)(w:List Nat)(n:Int)(l:List Nat):Prop:=∀ hp',Kp [il,is,ic] hp hp'→Lx ip hp' il is n l→∀ o',Q (.ret (.d (.str (mkS w)))) (fT il ic w o') hp'∧(hp'[ic]?=some (.citer none)→Q .next (fT il ic w o') hp')
section
variable{il is ic n:Nat}{t u w:List Nat}{o:Option V}{s:XS}{QQ:QS}{hp:List O}{K:Bool→List O→Prop}{c:Nat}
theorem M9(hz:t.length+u.length≤2 ^ 20)(q:s (fT il ic (t++u) (some (.d (.str (mkS u))))) QQ hp):sCons (sAug opIAdd 1 (xVar 3)) s (fT il ic t (some (.d (.str (mkS u))))) QQ hp:=by
 refine DW rfl (A2 rfl ⟨by rw[AH,AH,sizeLine_eq];exact Lb hz,?_⟩)
 have:mkS t++mkS u=mkS (t++u):=by show(⟨_++_⟩:Str)=_;simp[mkS]
 rw[this];exact q
theorem Nz(q:K (c == 92) hp):bCmp opEq (xVar 3) (cS "\\") (fT il ic t (some (.d (.str (ch c))))) K hp:=by
 refine AR (A2 rfl ?_)
 show K ((ch c) == ("\\" : Str)) hp
 rw[show(("\\" : Str))=ch 92 from by decide,Du];exact q
end
def qX(i:Nat)(F:FT)(tgt:XT)(body:XS)(Q:QS)(n:Nat):QS:=fun fl vs hp=>match fl with
 | .next=>forC i F tgt body Q n vs hp
 | .cont=>forC i F tgt body Q n vs hp
 | .brk=>Q .next vs hp
 | .ret v=>Q (.ret v) vs hp
theorem in3{a b c x:Nat}(h:x∈[a,b]):x∈[a,b,c]:=List.mem_append_left [c] h
theorem not2{a b x:Nat}(h1:x≠a)(h2:x≠b)(h:x∈[a,b]):False:=(List.mem_cons.mp h).elim h1 fun h=>h2 (List.mem_singleton.mp h)
theorem c_t{T:XB}{e:Nat→Bool}{ic il is:Nat}(h1:ic≠il)(h2:ic≠is)(he:e 92=false)
    (hT:∀ (t:V) hp n l c Q,Lx ip hp il is n l→c<128→Q (e c) hp→T [some (.r il),some t,some (.r ic),some (.d (.str (ch c)))] Q hp) {Q:QS} :
    ∀ (m:Nat) (l:List Nat),l.length≤m→∀ (t:List Nat) (n:Int) (hp:List O) (o:Option V),Lx ip hp il is n l→hp[ic]?=some (.citer (some il))→t.length+l.length≤2 ^ 20 →
    TQ ip ic il is Q hp (t++(tL e false l).1) (n+(tL e false l).2.2) (tL e false l).2.1→∀ k,l.length<k→forC ic A4 (tName 3) (bT T) Q k (fT il ic t o) hp:=by
  intro m
  induction m with
  | zero =>
    intro l hl t n hp o L hc hz q k hk
    obtain rfl:=List.eq_nil_of_length_eq_zero (Nat.le_zero.mp hl)
    cases k with
    | zero=>exact absurd hk (Nat.not_lt_zero _)
    | succ k =>
      refine Fx L hc h1 h2 fun hp' kp L' hn=>?_
      have:=(q hp' kp L' o).2 hn
      rwa[show(tL e false []).1=[] from rfl,List.append_nil] at this
  | succ m ih =>
    intro l hl t n hp o L hc hz q k hk
    cases k with
    | zero=>exact absurd hk (Nat.not_lt_zero _)
    | succ k =>
    cases l with
    | nil=>exact ih [] (Nat.zero_le _) t n hp o L hc hz q (k+1) hk
    | cons c l =>
      have hcc:c<128:=L.ok.2 c List.mem_cons_self
      rw[List.length_cons] at hl hk hz
      refine Fx L hc h1 h2 fun hp' kp L' hn=>?_
      have go:∀ (u l':List Nat) (hp₂:List O) (n₂:Int),l'.length≤l.length→t.length+u.length+l'.length≤2 ^ 20→Kp [il,is,ic] hp hp₂→Lx ip hp₂ il is n₂ l'→hp₂[ic]?=some (.citer (some il)) →
          (tL e false (c::l)).1=u++(tL e false l').1→(tL e false (c::l)).2.1=(tL e false l').2.1→n+(tL e false (c::l)).2.2=n₂+(tL e false l').2.2→sCons (sAug opIAdd 1 (xVar 3)) sNil (fT il ic t (some (.d (.str (mkS u))))) (qX ic A4 (tName 3) (bT T) Q k) hp₂:=by
        intro u l' hp₂ n₂ hl' hz' kp₂ L₂ hn₂ e1 e2 e3
        rw[e1,e2,e3,← List.append_assoc] at q
        exact M9 (Tt Lr ‹_›) (ih l' (by lia) (t++u) n₂ hp₂ _ L₂ hn₂ (by rw[List.length_append];exact hz') (fun hp' k'=>q hp' (kp₂.trans k')) k (by lia))
      refine Az (x:=e c) (fun K k=>hT _ _ _ _ _ _ L' hcc k) (fun hh=>i_retC' (A2 rfl ?_)) (fun hh=>Az (x:=c == 92) (fun K k=>Nz k) (fun h=>EW (C4 rfl (L'.at fun z=>trivial) (HS L' fun hp₂ kp₂ L₂=>Ad (Fr (Ad ?_))))) (fun h=>Fr (Ad (Fr (Ad ?_)))))
      · have ht:tL e false (c::l)=([],l,nl c):=if_pos hh
        rw[ht,List.append_nil] at q
        exact(q hp' kp L' _).1
      · obtain rfl:=beq_iff_eq.mp h
        have hl':l.tail.length≤l.length:=by rw[List.length_tail];lia
        refine go (hd l) l.tail hp₂ _ hl' ?_ (kp.trans (kp₂.mono fun x hx=>?_)) L₂ ((kp₂.2 ic fun hx=>?_).trans hn) (by rw[Ej he,Cj]) (by rw[Ej he,Cj]) (by rw[Ej he,Cj];show n+(nlh l+(tL e false l.tail).2.2)=n+0+nlh l+(tL e false l.tail).2.2;lia)
        · cases l with
          | nil=>exact Nat.le_of_succ_le hz
          | cons d l=>show _+1+l.length≤_;rw[List.length_cons] at hz;lia
        · exact in3 hx
        · exact not2 h1 h2 hx
      · have h92:c≠92:=beq_eq_false_iff_ne.mp h
        refine go [c] l hp' _ (Nat.le_refl _) (by show _+1+_≤_;lia) kp L' hn ?_ ?_ ?_
        · rw[IP hh h92];rfl
        · rw[IP hh h92]
        · rw[IP hh h92];exact(Int.add_assoc ..).symm
end Mine
namespace Mine
open PySem
variable{ip:Nat}
noncomputable def gTok:List Nat→List Nat×List Nat×Int
 | []=>([],[],0)
 | c::l=>if isWs c then ((gTok l).1,(gTok l).2.1,nl c+(gTok l).2.2) else if c=34 then tL (· == 34) false l else tL isWs false (c::l)
def tQ:XB:=bCmp opEq (xVar 3) (cS "\"")
def tW:XB:=bCmp opIn (xVar 3) (xUn (getF 76 3) (xVar 0))
theorem t_q{il ic is:Nat}(t:V)(hp:List O)(n:Int)(l:List Nat)(c:Nat)(Q:Bool→List O→Prop)(L:Lx ip hp il is n l)(hc:c<128)(q:Q (c == 34) hp):tQ [some (.r il),some t,some (.r ic),some (.d (.str (ch c)))] Q hp:=by
 have b:((ch c) == ("\"" : Str))=(c == 34):=by rw[show(("\"" : Str))=ch 34 from by decide,Du]
 rw[← b] at q;exact q
theorem t_w{il ic is:Nat}(t:V)(hp:List O)(n:Int)(l:List Nat)(c:Nat)(Q:Bool→List O→Prop)(L:Lx ip hp il is n l)(hc:c<128)(q:Q (isWs c) hp):tW [some (.r il),some t,some (.r ic),some (.d (.str (ch c)))] Q hp:=by
 obtain⟨fs,e1,f1,f2,f3,f4⟩:=L.ob
 simp only[tW,bCmp,xVar,xUn,List.getElem?_cons_zero,List.getElem?_cons_succ]
 refine Ba e1 f3 ?_
 dsimp only[opIn,truthV]
 rw[Nq hc]
 exact q
def bO:XS:=sCons (sIf tW (sCons sCont sNil) sNil)
 (sCons (sIf tQ (sCons (sForC A4 (tName 3) (xVar 2) (bT tQ)) sNil)
  (sCons (sIf (bCmp opEq (xVar 3) (cS "\\")) (sCons (sAssign 3 (xMeth 76 A4 (xVar 0) lNil lNil)) sNil) sNil)
  (sCons (sAug opIAdd 1 (xVar 3))
  (sCons (sForC A4 (tName 3) (xVar 2) (bT tW)) sNil)))) sNil)
theorem Ob{ic k:Nat}{F:FT}{tgt:XT}{b:XS}{Q:QS}{vs:List (Option V)}{hp:List O}(h:hp[ic]?=some (.citer none))(hk:0<k)(q:Q .next vs hp):forC ic F tgt b Q k vs hp:=by
 obtain⟨k,rfl⟩:∃ j,k=j+1:=⟨k-1,by lia⟩
 show nextC ic F _ hp
 unfold nextC
 rw[h]
 exact q
theorem Fp{hp:List O}{ic:Nat}{c:Option Nat}(h:hp[ic]?=some (.citer c)):isC hp ic:=by
 unfold isC;rw[h];trivial
section
variable{il is ic k:Nat}{w:List Nat}{n:Int}{l:List Nat}{hp:List O}{Q:QS}{c:Nat}
theorem LY(h:isWs c=true):gTok (c::l)=((gTok l).1,(gTok l).2.1,nl c+(gTok l).2.2):=if_pos h
theorem NI:gTok (34::l)=tL (· == 34) false l:=rfl
theorem NH(h:isWs c=false)(h2:c≠34):gTok (c::l)=tL isWs false (c::l):=(if_neg (by rw[h];decide)).trans (if_neg h2)
def OQ(ip ic il is:Nat)(Q:QS)(hp:List O)(w:List Nat)(n:Int)(l:List Nat):Prop:=∀ hp',Kp [il,is,ic] hp hp'→Lx ip hp' il is n l→∀ o',Q (.ret (.d (.str (mkS w)))) (fT il ic w o') hp'∧Q .next (fT il ic w o') hp'
theorem OQ.inner(q:OQ ip ic il is Q hp w n l)(hk:0<k):TQ ip ic il is (qC sNil (qC sNil (qX ic A4 (tName 3) bO Q k))) hp w n l:=fun hp' kp L o' =>
 ⟨(q hp' kp L o').1,fun h=>(Ob h hk (q hp' kp L o').2:forC ic A4 (tName 3) bO Q k (fT il ic w o') hp')⟩
end
theorem c_o{ic il is:Nat}(h1:ic≠il)(h2:ic≠is){Q:QS}:∀ (l:List Nat) (n:Int) (hp:List O) (o:Option V),Lx ip hp il is n l→hp[ic]?=some (.citer (some il)) →
    OQ ip ic il is Q hp (gTok l).1 (n+(gTok l).2.2) (gTok l).2.1→∀ k,l.length<k→forC ic A4 (tName 3) bO Q k (fT il ic [] o) hp:=by
  intro l
  induction l with
  | nil =>
   intro n hp o L hc q k hk
   cases k with
   | zero=>exact absurd hk (Nat.not_lt_zero _)
   | succ k=>exact Fx L hc h1 h2 fun hp' kp L' hn=>(q hp' kp L' o).2
  | cons c l ih =>
   intro n hp o L hc q k hk
   cases k with
   | zero=>exact absurd hk (Nat.not_lt_zero _)
   | succ k =>
    have hcc:c<128:=L.ok.2 c List.mem_cons_self
    have hz:=L.ok.1
    rw[List.length_cons] at hk hz
    refine Fx L hc h1 h2 fun hp' kp L' hn=>?_
    refine Az (x:=isWs c) (fun K k=>t_w _ _ _ _ _ _ L' hcc k) (fun hw=>?_) (fun hw=>Fr (Ad (Az (x:=c == 34) (fun K k=>t_q _ _ _ _ _ _ L' hcc k) (fun h=>?_) (fun h=>?_))))
    · rw[LY hw,← Int.add_assoc] at q
      exact ih _ hp' _ L' hn (fun hp' k'=>q hp' (kp.trans k')) k (Ls hk)
    · obtain rfl:=beq_iff_eq.mp h
      rw[NI] at q
      have q':OQ ip ic il is Q hp' ([]++(tL (· == 34) false l).1) (n+0+(tL (· == 34) false l).2.2) (tL (· == 34) false l).2.1:=by rw[Int.add_zero];exact fun hp' k'=>q hp' (kp.trans k')
      exact⟨Fp hn,k,c_t h1 h2 rfl (fun t hp n l c Q L hc q=>t_q t hp n l c Q L hc q) l.length l (Nat.le_refl _) [] _ hp' _ L' hn (by show 0+_≤_;lia) (q'.inner (by lia)) k (Ls hk)⟩
    · have h34:=beq_eq_false_iff_ne.mp h
      rw[NH hw h34] at q
      have go:∀ (u l':List Nat) (hp₂:List O) (n₂:Int),l'.length≤l.length→u.length+l'.length≤2 ^ 20→Kp [il,is,ic] hp hp₂→Lx ip hp₂ il is n₂ l'→hp₂[ic]?=some (.citer (some il)) →
          (tL isWs false (c::l)).1=u++(tL isWs false l').1→(tL isWs false (c::l)).2.1=(tL isWs false l').2.1→n+(tL isWs false (c::l)).2.2=n₂+(tL isWs false l').2.2 →
          sCons (sAug opIAdd 1 (xVar 3)) (sCons (sForC A4 (tName 3) (xVar 2) (bT tW)) sNil) (fT il ic [] (some (.d (.str (mkS u))))) (qC sNil (qX ic A4 (tName 3) bO Q k)) hp₂:=by
        intro u l' hp₂ n₂ hl' hz' kp₂ L₂ hn₂ e1 e2 e3
        rw[e1,e2,e3] at q
        have q':OQ ip ic il is Q hp₂ (u++(tL isWs false l').1) (n₂+(tL isWs false l').2.2) (tL isWs false l').2.1:=fun hp' k'=>q hp' (kp₂.trans k')
        exact M9 (by show 0+_≤_;lia) ⟨Fp hn₂,k,c_t h1 h2 rfl (fun t hp n l c Q L hc q=>t_w t hp n l c Q L hc q) l'.length l' (Nat.le_refl _) u n₂ hp₂ _ L₂ hn₂ hz' (q'.inner (by lia)) k (by lia)⟩
      refine Az (x:=c == 92) (fun K k=>Nz k) (fun h=>EW (C4 rfl (L'.at fun z=>trivial) (HS L' fun hp₂ kp₂ L₂=>Ad ?_))) (fun h=>Fr (Ad ?_))
      · obtain rfl:=beq_iff_eq.mp h
        refine go (hd l) l.tail hp₂ _ (by rw[List.length_tail];lia) ?_ (kp.trans (kp₂.mono fun x hx=>?_)) L₂ ((kp₂.2 ic fun hx=>?_).trans hn) (by rw[Ej rfl,Cj]) (by rw[Ej rfl,Cj]) (by rw[Ej rfl,Cj];show n+(nlh l+(tL isWs false l.tail).2.2)=n+0+nlh l+(tL isWs false l.tail).2.2;lia)
        · cases l with
          | nil=>exact Nat.zero_le _
          | cons d l=>show 1+l.length≤_;rw[List.length_cons] at hz;lia
        · exact in3 hx
        · exact not2 h1 h2 hx
      · have h92:c≠92:=beq_eq_false_iff_ne.mp h
        refine go [c] l hp' _ (Nat.le_refl _) (by show 1+_≤_;lia) kp L' hn ?_ ?_ ?_
        · rw[IP hw h92];rfl
        · rw[IP hw h92]
        · rw[IP hw h92];exact(Int.add_assoc ..).symm
theorem EG{il is:Nat}{n:Int}{l:List Nat}{hp:List O}{Q:V→List O→Prop}(L:Lx ip hp il is n l)(hb:hp[ip]?=some (.lst []))
  (q:∀ hp',Kp [il,is] hp hp'→Lx ip hp' il is (n+(gTok l).2.2) (gTok l).2.1→Q (.d (.str (mkS (gTok l).1))) hp'):A7 [.r il] Q hp:=by
 obtain⟨fs,e1,f1,f2,f3,f4⟩:=L.ob
 have hil:=(List.getElem?_eq_some_iff.mp e1).1
 have his:=(List.getElem?_eq_some_iff.mp L.st).1
 have h1:hp.length≠il:=Ng hil
 have h2:hp.length≠is:=Ng his
 have L₀:Lx ip (hp++[.citer (some il)]) il is n l:=⟨L.ne,⟨fs,A8 e1 _,f1,f2,f3,f4⟩,A8 L.st _,L.ok⟩
 have hc:(hp++[.citer (some il)])[hp.length]?=some (.citer (some il)):=by simp
 have hat:atI (.r il) hp 76 (fun i z=>isC (hp++[.citer (some i)]) hp.length∧True):=by
  unfold atI;simp only[e1];exact⟨trivial,Fp (c:=some il) (by simp),trivial⟩
 refine⟨rfl,Ba e1 f4 ?_⟩
 refine⟨[],BY hb,Nat.zero_le _,?_⟩
 simp only[sCons,sAssign,cS,xIter,xVar,List.isEmpty_nil,Bool.not_true,sNil,List.map_cons,List.map_nil,List.replicate,List.cons_append,List.nil_append,List.getElem?_cons_zero,List.getElem?_cons_succ,List.set_cons_zero,List.set_cons_succ]
 unfold atI
 simp only[e1]
 refine⟨trivial,Fp hc,l.length+1,?_⟩
 refine c_o h1 h2 l n _ _ L₀ hc ?_ (l.length+1) (Nat.lt_succ_self _)
 intro hp' kp L' o'
 have hlen:hp'.length=hp.length+1:=by rw[kp.1];simp
 have kk:Kp [il,is] hp (hp'.take hp.length):=by
  refine⟨by simp;lia,fun k hk=>?_⟩
  rw[List.getElem?_take]
  split
  ·rename_i hlt
   rw[kp.2 k (by simp at hk ⊢;lia)]
   rw[List.getElem?_append_left hlt]
  ·rw[List.getElem?_eq_none (by lia)]
 have LL:Lx ip (hp'.take hp.length) il is (n+(gTok l).2.2) (gTok l).2.1:=by
  obtain⟨ne,⟨fs,a,b⟩,c,d⟩:=L'
  exact⟨ne,⟨fs,by rw[List.getElem?_take,if_pos hil];exact a,b⟩,by rw[List.getElem?_take,if_pos his];exact c,d⟩
 exact⟨q _ kk LL,q _ kk LL⟩
theorem Oa{il is:Nat}{n:Int}{l:List Nat}{hp:List O}{Q:V→List O→Prop}(L:Lx ip hp il is n l){x:PyData}{pb:List PyData}(hb:hp[ip]?=some (.lst (x::pb)))(hz:pb.length<2 ^ 20)
  (q:Q (.d x) (hp.set ip (.lst pb))):A7 [.r il] Q hp:=by
 obtain⟨fs,e1,f1,f2,f3,f4⟩:=L.ob
 have hl:(x::pb).length≤sizeLine:=by rw[sizeLine_eq];simp only[List.length_cons];exact Lb hz
 have hs:(lget (.r ip) hp).isSome=true:=by rw[BY hb];rfl
 refine CV (vs0:=[some (.r il),none,none,none]) rfl rfl (Az (x:=true) ?_ (fun z=>?_) (fun h=>nomatch h))
 ·intro K k
  exact OJ (K8 (A2 rfl (Ba e1 f4 ⟨_,BY hb,hl,k⟩)))
 ·exact M6 (Aq (K8 (A2 rfl (Ba e1 f4 ⟨hs,Mz hb hl (C5 (by simp) q)⟩))))
theorem HT{il is:Nat}{n:Int}{l:List Nat}{hp:List O}{Q:V→List O→Prop}(L:Lx ip hp il is n l){x:PyData}{pb:List PyData}(hb:hp[ip]?=some (.lst pb))(hz:pb.length<2 ^ 20)
  (q:Q (.d .none) (hp.set ip (.lst (pb++[x])))):AC [.r il,.d x] Q hp:=by
 obtain⟨fs,e1,f1,f2,f3,f4⟩:=L.ob
 have hs:(lget (.r ip) hp).isSome=true:=by rw[BY hb];rfl
 refine CV (vs0:=[some (.r il),some (.d x)]) rfl rfl (EV (Aq (K8 (A2 rfl (Ba e1 f4 ⟨hs,AW (A2 rfl (Aw (Cd hb (by rw[sizeLine_eq];exact Lb (Ll hz)) (C5 (by simp) q))))⟩)))))
theorem Lx.kp{il is:Nat}{n:Int}{l:List Nat}{hp hp':List O}{S:List Nat}(L:Lx ip hp il is n l)(k:Kp S hp hp')(h1:il ∉ S)(h2:is ∉ S):Lx ip hp' il is n l:=by
 obtain⟨ne,⟨fs,e1,f⟩,st,ok⟩:=L
 exact⟨ne,⟨fs,(k.2 il h1).trans e1,f⟩,(k.2 is h2).trans st,ok⟩
end Mine
namespace Mine
open PySem
theorem joinOk{q:Str}{parts:List Str}(h:(Txt.join q parts).length≤2 ^ 20)(hq:q.length≤2 ^ 20):JoinOk q parts=true:=by
 have f:∀ (l:List Str) (n:Nat),l.foldl (· + ·.length+q.length) n=n+(l.map (·.length)).sum+l.length*q.length:=by
  intro l
  induction l with
  | nil=>intro n;simp
  | cons a l ih=>intro n;simp only[List.foldl_cons,ih,List.map_cons,List.sum_cons,List.length_cons,Nat.add_mul];lia
 have g:(Txt.join q parts).length=(parts.map (·.length)).sum+(parts.length-1)*q.length:=size_glued q parts
 unfold JoinOk Builtin.Str.tooLong
 rw[List.foldl_toArray,f,sizeLine_eq]
 have:parts.length*q.length≤(parts.length-1)*q.length+q.length:=by
  rcases Nat.eq_zero_or_pos parts.length with z | z
  ·rw[z];simp
  ·obtain⟨m,e⟩:∃ m,parts.length=m+1:=⟨parts.length-1,by lia⟩
   rw[e,Nat.add_mul];simp
 simp
 lia
noncomputable def replA(ps:List (List Nat×List Nat))(x:List Nat):List Nat:=ps.foldl (fun x pq=>repL pq.1 pq.2 0 x) x
noncomputable def okR:List (List Nat×List Nat)→List Nat→Prop
 | [],x=>okl x
 | pq::ps,x=>okl x∧pq.1≠[]∧(∀ c∈pq.1,c<128)∧pq.2.length≤2 ^ 20∧okR ps (repL pq.1 pq.2 0 x)
theorem okR.ok:∀ {ps:List (List Nat×List Nat)} {x:List Nat},okR ps x→okl x
 | [],_,h=>h
 | _::_,_,h=>h.1
noncomputable def flatD:List (List Nat×List Nat)→List PyData
 | []=>[]
 | pq::ps=>.str (mkS pq.1)::.str (mkS pq.2)::flatD ps
theorem Cr:∀ ps:List (List Nat×List Nat),(flatD ps).length=2*ps.length
 | []=>rfl
 | _::ps=>by show(flatD ps).length+1+1=_;rw[Cr ps];exact rfl
theorem F7:∀ l:List PyData,datas (l.map .d)=some l
 | []=>rfl
 | x::l=>by show(datas (l.map .d)).map (x :: ·)=_;rw[F7 l];rfl
theorem item0{a b:PyData}{l:List PyData}{K:V→List O→Prop}{hp:List O}(k:K (.d a) hp):opItem (.d (.tuple (a::b::l))) (.d (.int 0)) K hp:=by
 refine⟨by decide,?_⟩
 have:seqIndex? 0 (a::b::l).length=some 0:=by unfold seqIndex?;simp;lia
 dsimp only;rw[this];exact k
theorem item1{a b:PyData}{l:List PyData}{K:V→List O→Prop}{hp:List O}(k:K (.d b) hp):opItem (.d (.tuple (a::b::l))) (.d (.int 1)) K hp:=by
 refine⟨by decide,?_⟩
 have:seqIndex? 1 (a::b::l).length=some 1:=by unfold seqIndex?;simp;lia
 dsimp only;rw[this];exact k
theorem Dv{ps:List (List Nat×List Nat)}{x:List Nat}{Q:V→List O→Prop}{hp:List O}(hz:ps.length≤1000)(h:okR ps x)(q:Q (.d (.str (mkS (replA ps x)))) hp) :
  AU (.d (.str (mkS x))::(flatD ps).map .d) Q hp:=by
 dsimp only[AU,runFn,bStar,Dm]
 rw[F7]
 refine⟨by rw[Cr,sizeLine_eq];lia,?_⟩
 dsimp only[List.map_cons,List.map_nil,List.replicate,List.append_nil,sCons,sRet,sNil]
 refine⟨ps.length+1,?_⟩
 have go:∀ (ps:List (List Nat×List Nat)) (x:List Nat) (QQ:QS),ps.length≤1000→okR ps x→(∀ v,QQ .next [some (.d (.str (mkS (replA ps x)))),v] hp) →
   whileN (bVal (xVar 1)) (sCons (sAssign 0 (xMethS mJoin (xBin opItem (xVar 1) (cI 1)) (lCons (xMethS mSplit (xVar 0) (lCons (xBin opItem (xVar 1) (cI 0)) lNil)) lNil)))
    (sCons (sAssign 1 (xSlice (xVar 1) (pSome (cI 2)) pNone)) sNil)) QQ (ps.length+1) [some (.d (.str (mkS x))),some (.d (.tuple (flatD ps)))] hp:=by
  intro ps
  induction ps with
  | nil=>intro x QQ hz h q;exact⟨Nat.zero_le _,q _⟩
  | cons pq ps ih =>
   intro x QQ hz h q
   obtain⟨h1,h2,h3,h4,h5⟩:=h
   have hl:(flatD (pq::ps)).length≤sizeLine:=by rw[Cr,sizeLine_eq];lia
   refine⟨hl,?_⟩
   dsimp only[flatD,List.isEmpty_cons,Bool.not_false,sCons,sAssign,xMethS,xBin,xVar,cI,cS,lCons,lNil,sNil,List.getElem?_cons_zero,List.getElem?_cons_succ,List.set_cons_zero,List.set_cons_succ]
   refine item1 ?_
   dsimp only
   refine item0 ?_
   have r1:=Hl (q:=pq.2) h2 h1.2 h3
   refine⟨by rw[AH];intro e;exact h2 (List.length_eq_zero_iff.mp e),by rw[AH,sizeLine_eq];have:=h1.1;lia,?_⟩
   refine⟨_,Txt.split (mkS x) (mkS pq.1),rfl,?_,joinOk ?_ ?_,?_⟩
   ·generalize Txt.split (mkS x) (mkS pq.1)=l
    induction l with
    | nil=>rfl
    | cons a l ih=>show(strsOf (l.map PyData.str)).map (a :: ·)=_;rw[ih];rfl
   ·show(Txt.join ⟨pq.2.toArray⟩ (Txt.split ⟨x.toArray⟩ ⟨pq.1.toArray⟩)).length≤_
    rw[r1];rw[AH];exact h5.ok.1
   ·rw[AH];exact h4
   ·show xSlice (xVar 1) (pSome (cI 2)) pNone [some (.d (.str (Txt.join ⟨pq.2.toArray⟩ (Txt.split ⟨x.toArray⟩ ⟨pq.1.toArray⟩)))),some (.d (.tuple (.str (mkS pq.1)::.str (mkS pq.2)::flatD ps)))] _ hp
    rw[r1]
    refine⟨1,rfl,rfl,by simp,hl,?_⟩
    exact ih (repL pq.1 pq.2 0 x) QQ (by simp at hz;exact Lb ‹_›) h5 (fun v=>q v)
 exact go ps x _ hz h (fun v=>C5 rfl q)
section
variable{vs:List (Option V)}{hp:List O}{Q:V→List O→Prop}{K:Bool→List O→Prop}{a b:XE}{t:XB}{k c d:Nat}{y:Str}{x:Bool}
theorem Ez(h:∀ K:Bool→List O→Prop,K x hp→t vs K hp)(q1:x=true→a vs Q hp)(q2:x=false→b vs Q hp):xIte t a b vs Q hp:=by
 refine h _ ?_
 cases x with
 | true=>exact q1 rfl
 | false=>exact q2 rfl
theorem Nv(h:vs[k]?=some (some (.d (.str (ch c)))))(e:y=ch d)(q:K (c == d) hp):bCmp opEq (xVar k) (cS y) vs K hp:=by
 refine AR (A2 h ?_)
 show K ((ch c) == y) hp
 rw[e,Du];exact q
theorem Bm{x:Str}{i:Int}{c:Nat}(hr : -2 ^ 63≤i∧i<2 ^ 63)(h:Txt.charAt x i=some c)(q:Q (.d (.str (ch c))) hp):opItem (.d (.str x)) (.d (.int i)) Q hp:=by
 refine⟨hr,?_⟩
 dsimp only;rw[h];exact q
theorem DZ{x:PyData}(q:Q (.d x) hp):fin false hp.length Q (.d x) hp:=C5 rfl q
theorem F9{c:Nat}:ar c≤2:=by unfold ar;split<;>(try split)<;>decide
theorem IF(q:Q (.d (.int (ar c))) hp):AQ [.d (.str (ch c))] Q hp:=by
 refine CV (vs0:=[some (.d (.str (ch c)))]) rfl rfl (DA (Ez (fun K k=>Nv rfl rfl k) (fun e=>?_) fun e=>Ez (fun K k=>Nv rfl rfl k) (fun e'=>?_) fun e'=>?_))
 ·rw[beq_iff_eq.mp e] at q;exact DZ q
 ·rw[beq_iff_eq.mp e'] at q;exact DZ q
 ·have:ar c=0:=(if_neg (beq_eq_false_iff_ne.mp e)).trans (if_neg (beq_eq_false_iff_ne.mp e'))
  rw[this] at q;exact DZ q
theorem HL{s:XS}{QQ:QS}{j:Nat}{n:Int}(h:vs[k]?=some (some (.d (.int n))))(h':vs[j]?=some (some (.d (.str (ch c)))))(q:s (vs.set k (some (.d (.int (n+(ar c-1)))))) QQ hp) :
  sCons (sAug opIAdd k (xBin opSub (xCall AQ (lCons (xVar j) lNil)) (cI 1))) s vs QQ hp :=
 DW h (AB (Bp (A2 h' (IF q))))
end
noncomputable def nls(l:List Nat):Int:=(l.map nl).sum
theorem Bw(c:Nat)(l:List Nat):nls (c::l)=nl c+nls l:=List.sum_cons
theorem EI(e:Nat→Bool):∀ (l:List Nat) (b:Bool),(tL e b l).2.2+nls (tL e b l).2.1=nls l
 | [],b=>by cases b<;>rfl
 | c::l,true=>by
  rw[Bw,← EI e l false];exact Int.add_assoc ..
 | c::l,false=>by
  unfold tL
  split
  ·exact(Bw c l).symm
  ·split
   ·rename_i h
    rw[Bw,h,← EI e l true];exact(Int.zero_add _).symm
   ·rw[Bw,← EI e l false];exact Int.add_assoc ..
theorem EX:∀ l:List Nat,(gTok l).2.2+nls (gTok l).2.1=nls l
 | []=>rfl
 | c::l=>by
  unfold gTok
  split
  ·rw[Bw,← EX l];exact Int.add_assoc ..
  ·split
   ·rename_i h
    rw[Bw,h,← EI (· == 34) l false];exact(Int.zero_add _).symm
   ·exact EI isWs (c::l) false
noncomputable def Rd:List Nat→List Nat→Prop
 | l,[]=>l=[]∨l=[32]∨l=[10]
 | l,c::u=>(gTok l).1=[c]∧Rd (gTok l).2.1 u
inductive Rdy(ip il is:Nat)(N:Int)(u:List Nat)(hp:List O):Prop
 | mk (n:Int) (l:List Nat) (L:Lx ip hp il is n l) (e:n+nls l=N) (r:Rd l u) (h1:ip≠il) (h2:ip≠is) (b:hp[ip]?=some (.lst []))
section
variable{ip il is:Nat}{N:Int}{u:List Nat}{hp:List O}{Q:V→List O→Prop}{QQ:QS}
theorem Ds(h1:ip≠il)(h2:ip≠is):ip ∉ [il,is]:=by
 intro h
 rcases List.mem_cons.mp h with h | h
 ·exact h1 h
 ·exact h2 (List.mem_singleton.mp h)
theorem NW{c:Nat}(R:Rdy ip il is N (c::u) hp)(q:∀ hp',Kp [il,is] hp hp'→Rdy ip il is N u hp'→Q (.d (.str (ch c))) hp'):A7 [.r il] Q hp:=by
 obtain⟨n,l,L,e,⟨r1,r2⟩,h1,h2,b⟩:=R
 refine EG L b fun hp' k L'=>?_
 rw[r1]
 exact q hp' k ⟨_,_,L',by rw[Int.add_assoc,EX,e],r2,h1,h2,(k.2 ip (Ds h1 h2)).trans b⟩
theorem Kd(R:Rdy ip il is N [] hp)(q:∀ hp',Kp [il,is] hp hp'→Lx ip hp' il is N []→Q (.d (.str (mkS []))) hp'):A7 [.r il] Q hp:=by
 obtain⟨n,l,L,e,r,h1,h2,b⟩:=R
 have k:(gTok l).1=[]∧(gTok l).2.1=[]:=by rcases r with rfl | rfl | rfl<;>exact⟨rfl,rfl⟩
 refine EG L b fun hp' kp L'=>?_
 have:=EX l
 rw[k.2] at this L'
 rw[k.1]
 refine q hp' kp ?_
 rwa[← e,← this,show nls []=0 from rfl,Int.add_zero]
theorem Rdy.at(R:Rdy ip il is N u hp){k:Nat→List (Nat×V)→Prop}(q:∀ fs,k il fs):atI (.r il) hp 76 k:=by
 obtain⟨n,l,L,_⟩:=R;exact L.at q
def tT:XB:=bCmp opGt (xVar 2) (cI 0)
def bTm:XS:=sCons (sAssign 3 (xMeth 76 A7 (xVar 0) lNil lNil)) (sCons (sIf (bCmp opEq (xVar 3) (cS "")) (sCons (sRet (xVar 1)) sNil) sNil)
 (sCons (sAug opIAdd 1 (xVar 3)) (sCons (sAug opIAdd 2 (xBin opSub (xCall AQ (lCons (xVar 3) lNil)) (cI 1))) sNil)))
theorem Dn(t:List Nat)(c:Nat):opIAdd (.d (.str (mkS t))) (.d (.str (ch c))) Q hp↔t.length+1≤sizeLine∧Q (.d (.str (mkS (t++[c])))) hp:=by
 show(mkS t).length+1≤sizeLine∧Q (.d (.str (mkS t++ch c))) hp↔_
 rw[Ju,AH]
theorem Oj{c k:Nat}{vs:List (Option V)}{K:Bool→List O→Prop}(h:vs[k]?=some (some (.d (.str (ch c)))))(q:K false hp):bCmp opEq (xVar k) (cS "") vs K hp:=by
 refine AR (A2 h ?_)
 show K ((ch c) == (mkS [])) hp
 rw[beq_eq_false_iff_ne.mpr (fun e=>nomatch e:ch c≠mkS [])];exact q
theorem IM{c m k:Nat}{w:List Nat}{o:Option V}(R:Rdy ip il is N (c::u) hp)(hz:w.length<1000)
  (q:∀ hp',Kp [il,is] hp hp'→Rdy ip il is N u hp'→whileN tT bTm QQ m [some (.r il),some (.d (.str (mkS (w++[c])))),some (.d (.int (k+ar c:Nat))),some (.d (.str (ch c)))] hp') :
  whileN tT bTm QQ (m+1) [some (.r il),some (.d (.str (mkS w))),some (.d (.int (k+1:Nat))),o] hp:=by
 refine BS (b:=true) (fun K h=>AR (A2 rfl ?_)) (fun z=>?_) (fun h=>nomatch h)
 ·show K (decide ((0:Int)<((k+1:Nat):Int))) hp
  rw[decide_eq_true (Int.natCast_pos.mpr (Nat.succ_pos k))];exact h
 ·refine AY (C4 rfl (R.at fun z=>trivial) (NW R fun hp' kp R'=>?_))
  refine Az (x:=false) (fun K h=>Oj (c:=c) rfl h) (fun h=>nomatch h) (fun z=>Ad ?_)
  refine DW rfl (A2 rfl ((Dn _ _).mpr ⟨by rw[sizeLine_eq];exact Lb hz,?_⟩))
  refine HL (c:=c) rfl rfl ?_
  have:=q hp' kp R'
  rw[show((k+ar c:Nat):Int)=((k+1:Nat):Int)+(ar c-1) from by lia] at this
  exact this
theorem Kz:∀ (n:Nat) (ts:List Tm) (m k:Nat) (w:List Nat) (o:Option V) (hp:List O),(ts.flatMap enc).length=n→Rdy ip il is N (ts.flatMap enc++u) hp→w.length+n≤1000 →
    (∀ hp' o',Kp [il,is] hp hp'→Rdy ip il is N u hp'→whileN tT bTm QQ m [some (.r il),some (.d (.str (mkS (w++ts.flatMap enc)))),some (.d (.int k)),o'] hp') →
    whileN tT bTm QQ (m+n) [some (.r il),some (.d (.str (mkS w))),some (.d (.int (k+ts.length:Nat))),o] hp:=by
  intro n
  induction n with
  | zero =>
   intro ts m k w o hp h R hz q
   cases ts with
   | nil =>
    have:=q hp o (Kp.refl _ _) R
    rwa[List.flatMap_nil,List.append_nil] at this
   | cons t ts=>rw[List.flatMap_cons,Ae] at h;cases h
  | succ n ih =>
   intro ts m k w o hp h R hz q
   cases ts with
   | nil=>cases h
   | cons t ts =>
    have e:(t::ts).flatMap enc=hdc t::(kids t++ts).flatMap enc:=by rw[List.flatMap_cons,Ae,List.flatMap_append];rfl
    rw[e] at h R q
    refine IM (c:=hdc t) (k:=k+ts.length) R (by lia) fun hp' kp R'=>?_
    rw[show k+ts.length+ar (hdc t)=k+(kids t++ts).length from by rw[List.length_append,AX];lia]
    refine ih (kids t++ts) m k (w++[hdc t]) _ hp' (Nat.succ.inj h) R' (by rw[List.length_append,List.length_singleton];lia) fun hp2 o2 k2 R2=>?_
    have:=q hp2 o2 (kp.trans k2) R2
    rwa[List.append_assoc]
theorem Kb{t:Tm}(R:Rdy ip il is N (enc t++u) hp)(hz:len t≤900)(q:∀ hp',Kp [il,is] hp hp'→Rdy ip il is N u hp'→Q (.d (.str (mkS (enc t)))) hp'):CC [.r il] Q hp:=by
 refine CV (vs0:=[_,none,none,none]) rfl rfl (AY (AY (Cn (t:=tT) (s:=bTm) ⟨1+len t,?_⟩)))
 refine Kz (ip:=ip) (is:=is) (N:=N) (u:=u) (len t) [t] 1 0 [] none hp ?_ ?_ ?_ fun hp' o' kp R'=>?_
 ·rw[List.flatMap_cons,List.flatMap_nil,List.append_nil];rfl
 ·rwa[List.flatMap_cons,List.flatMap_nil,List.append_nil]
 ·show 0+_≤_;lia
 ·rw[List.flatMap_cons,List.flatMap_nil,List.append_nil]
  refine BS (b:=false) (fun K h=>AR (A2 rfl h)) (fun h=>nomatch h) (fun z=>Ad (DA (A2 rfl (C5 kp.1 (q hp' kp R')))))
end
structure Drw(j:Nat)(w:List Nat)(k:Nat):Prop where
 h:∀ ts:List Tm,ts.length=k→∃ t,w++ts.flatMap enc=enc t
 b:w.length+k≤3+2*j
 c:k≤2+j
noncomputable def sgs:List Nat:=[34,120,121,34,122,92,35,32]
theorem Drw.start:Drw 0 [34] 2:=⟨fun ts h=>by obtain⟨a,b,rfl⟩:=len2 h;exact⟨.p a b,by simp[enc]⟩,Nat.le_refl _,Nat.le_refl _⟩
theorem NL{c:Nat}(hc:c∈sgs){ts:List Tm}(h:ts.length=ar c):∃ t,enc t=c::ts.flatMap enc:=by
 simp only[sgs,List.mem_cons,List.not_mem_nil,or_false] at hc
 have z:∀ {t:Tm} {c:Nat},ar c=0→ts.length=ar c→enc t=[c]→enc t=c::ts.flatMap enc:=by
  intro t c h0 h e
  rw[List.eq_nil_of_length_eq_zero (h.trans h0)];exact e
 have two:ar 34=ts.length→∃ t,enc t=34::ts.flatMap enc:=by
  intro h
  obtain⟨a,b,rfl⟩:=len2 h.symm
  exact⟨.p a b,by simp[enc]⟩
 rcases hc with rfl | rfl | rfl | rfl | rfl | rfl | rfl | rfl
 ·exact two h.symm
 ·exact⟨.v 0,z rfl h rfl⟩
 ·exact⟨.v 1,z rfl h rfl⟩
 ·exact two h.symm
 ·exact⟨.v 2,z rfl h rfl⟩
 ·obtain⟨a,rfl⟩:=len1 h
  exact⟨.u a,by simp[enc]⟩
 ·exact⟨.k false,z rfl h rfl⟩
 ·exact⟨.k true,z rfl h rfl⟩
theorem Drw.more{j k c:Nat}{w:List Nat}(D:Drw j w (k+1))(hc:c∈sgs):Drw (j+1) (w++[c]) (k+ar c):=by
 have h2:=F9 (c:=c)
 have hb:=D.b
 have hk:=D.c
 refine⟨fun ts h=>?_,by rw[List.length_append,List.length_singleton];lia,by lia⟩
 obtain⟨t,e⟩:=NL hc (ts:=ts.take (ar c)) (by rw[List.length_take];lia)
 obtain⟨t',e'⟩:=D.h (t::ts.drop (ar c)) (by rw[List.length_cons,List.length_drop];lia)
 refine⟨t',?_⟩
 rw[← e',List.flatMap_cons,e,List.append_assoc,List.cons_append,List.cons_append,← List.flatMap_append,List.take_append_drop];rfl
noncomputable def fill:List Tm:=[.k false,.v 0,.k false,.v 0,.k false,.v 0,.k false,.v 0]
theorem KM:∀ k:Fin 9,(fill.take k.val).flatMap enc=[35,120,35,120,35,120,35,120].take k.val:=by decide
theorem Drw.fin{w:List Nat}{k:Nat}(D:Drw 6 w k):∃ t,w++[35,120,35,120,35,120,35,120].take k=enc t∧len t≤15:=by
 have hk:k<9:=Nat.lt_succ_of_le D.c
 obtain⟨t,e⟩:=D.h (fill.take k) (by rw[List.length_take];exact Nat.min_eq_left (Nat.le_of_lt_succ hk))
 rw[KM ⟨k,hk⟩] at e
 refine⟨t,e,?_⟩
 unfold len
 rw[← e,List.length_append,List.length_take]
 have:=D.b
 lia
section
variable{vs:List (Option V)}{hp:List O}{Q:V→List O→Prop}{a b:XE}{x:Str}{QQ:QS}{N0 o3 o4 o5:Option V}
theorem NJ:∀ i:Fin 8,Txt.charAt "\"xy\"z\\# " (i.val:Int)=sgs[i.val]?:=by decide +kernel
theorem Mq:∀ i:Fin 8,∃ c,sgs[i.val]?=some c∧c∈sgs:=by
 intro i
 exact⟨sgs[i.val],List.getElem?_eq_getElem i.isLt,List.getElem_mem i.isLt⟩
theorem fmod8(n:Int):∃ i:Fin 8,n.fmod 8=(i.val:Int):=by
 have h:=Int.fmod_eq_emod_of_nonneg n (show(0:Int)≤8 by decide)
 exact⟨⟨(n.fmod 8).toNat,by lia⟩,by show _=(((n.fmod 8).toNat:Nat):Int);lia⟩
def bD:XS:=sCons (sIf (bCmp opGt (xVar 2) (cI 0)) (sCons (sAssign 5 (xBin opItem (cS "\"xy\"z\\# ") (xVar 4))) (sCons (sAug opIAdd 1 (xVar 5)) (sCons (sAug opIAdd 2 (xBin opSub (xCall AQ (lCons (xVar 5) lNil)) (cI 1))) sNil))) sNil) sNil
theorem KW{j k:Nat}{w:List Nat}(i:Fin 8)(hj:j<6)(D:Drw j w k)(q:∀ w' k' o5,Drw (j+1) w' k'→QQ .next [N0,some (.d (.str (mkS w'))),some (.d (.int (k':Nat))),o3,some (.d (.int i.val)),o5] hp) :
  bD [N0,some (.d (.str (mkS w))),some (.d (.int k)),o3,some (.d (.int i.val)),o5] QQ hp:=by
 refine Az (x:=decide ((0:Int)<k)) (fun K h=>AR (A2 rfl h)) (fun h=>?_) (fun h=>?_)
 ·obtain⟨c,hc,hm⟩:=Mq i
  obtain⟨m,rfl⟩:∃ m,k=m+1:=⟨k-1,by have:=of_decide_eq_true h;lia⟩
  refine AY (AB (Cw (A2 rfl (Bm (by have:=i.isLt;omega) ((NJ i).trans hc) ?_))))
  refine DW rfl (A2 rfl ((Dn _ _).mpr ⟨by rw[sizeLine_eq];have:=D.b;lia,?_⟩))
  refine HL (c:=c) rfl rfl ?_
  have:=q _ _ (some (.d (.str (ch c)))) (D.more hm)
  rw[show((m+ar c:Nat):Int)=((m+1:Nat):Int)+(ar c-1) from by lia] at this
  exact this
 ·exact q w k o5 ⟨D.h,Nat.le_trans D.b (by lia),Nat.le_succ_of_le D.c⟩
def bDo:XS:=sCons (sFor (tName 4) (xList false (lCons (xBin opMod (xVar 3) (cI 8)) (lCons (xBin opMod (xBin opDiv (xVar 3) (cI 8)) (cI 8)) lNil))) bD) sNil
theorem KV{j k:Nat}{w:List Nat}(n:Int)(hj:j<5)(D:Drw j w k)(q:∀ w' k' o4 o5,Drw (j+2) w' k'→QQ .next [N0,some (.d (.str (mkS w'))),some (.d (.int (k':Nat))),some (.d (.int n)),o4,o5] hp) :
  bDo [N0,some (.d (.str (mkS w))),some (.d (.int k)),some (.d (.int n)),o4,o5] QQ hp:=by
 obtain⟨i1,e1⟩:=fmod8 n
 obtain⟨i2,e2⟩:=fmod8 (n.fdiv 8)
 refine E0 ⟨(by decide:(8:Int)≠0),(by decide:(8:Int)≠0),(by decide:(8:Int).natAbs<2 ^ 64),(by decide:(8:Int)≠0),?_⟩
 refine⟨(by decide:2≤sizeLine),?_⟩
 rw[e1,e2]
 refine Bh trivial (KW i1 (Lb hj) D fun w1 k1 o D1=>?_)
 refine Bh trivial (KW i2 (LS hj) D1 fun w2 k2 o D2=>?_)
 exact KO trivial (q w2 k2 _ _ D2)
theorem GP{α:Type}{l:List α}{k:Nat}(hk:k≤l.length):psl l none (some (k:Int))=l.take k:=by
 unfold psl
 show(l.drop 0).take (clipAt l.length k-0)=_
 have:clipAt l.length (k:Int)=k:=by
  unfold clipAt
  rw[if_neg (Int.not_lt.mpr (Int.natCast_nonneg k)),Int.min_eq_left (Int.ofNat_le.mpr hk),Int.max_eq_right (Int.natCast_nonneg k)];rfl
 rw[this];rfl
theorem II{a b c:Int}(q:∀ t,len t≤15→Q (.d (.str (mkS (enc t)))) hp):Bs [.d (.list [.int a,.int b,.int c])] Q hp:=by
 refine CV (vs0:=[_,none,none,none,none,none]) rfl rfl ?_
 refine AY (AY (E0 (s:=bDo) (A2 rfl ?_)))
 have e:(("\"" : Str))=mkS [34]:=by decide
 show forL none _ _ _ _ [_,some (.d (.str ("\"" : Str))),some (.d (.int ((2:Nat):Int))),none,none,none] _
 rw[e]
 refine Bh trivial (KV a (by decide) Drw.start fun w1 k1 z z D1=>?_)
 refine Bh trivial (KV b (by decide) D1 fun w2 k2 z z D2=>?_)
 refine Bh trivial (KV c (by decide) D2 fun w3 k3 z z D3=>?_)
 refine KO trivial (Ad (DA (AB (A2 rfl ?_))))
 obtain⟨t,e1,e2⟩:=D3.fin
 refine⟨(by decide:(8:Nat)≤sizeLine),?_⟩
 rw[show("#x#x#x#x" : Str).cps.toList=[35,120,35,120,35,120,35,120] from by decide,GP D3.c]
 refine⟨?_,?_⟩
 ·rw[AH];have:=D3.b;have:=List.length_take_le k3 [35,120,35,120,35,120,35,120];have:=D3.c
  show _+(mkS _).length≤_
  rw[AH,sizeLine_eq];lia
 ·have h:mkS w3++(⟨([35,120,35,120,35,120,35,120].take k3).toArray⟩:Str)=mkS (enc t):=by
   rw[← e1];show(⟨_++_⟩:Str)=_;simp
  rw[h];exact DZ (q t e2)
end
noncomputable abbrev dS(l:List Nat):PyData:=.str (mkS l)
noncomputable abbrev sgD(c:Nat):PyData:=.str (ch c)
section
variable{hp:List O}{Q:V→List O→Prop}{QQ:QS}{T o:Option V}{ps:List (List Nat)}{w:List Nat}{c k:Nat}
theorem JO(n:Nat):seqIndex? (-1) (n+1)=some n:=by
 unfold seqIndex?
 simp;lia
def bCt:XS:=sCons (sAugItem opIAdd (xVar 1) (xNeg (cI 1)) (xVar 3)) (sCons (sAug opIAdd 2 (xBin opSub (xCall AQ (lCons (xVar 3) lNil)) (cI 1))) sNil)
def bC:XS:=sCons (sIf (bCmp opEq (xVar 2) (cI 0)) (sCons (sExpr (xMethL mAppend (xVar 1) (lCons (cS "") lNil))) (sCons (sAssign 2 (cI 1)) sNil)) sNil) bCt
theorem Gi(hz:w.length<2 ^ 20)(q:QQ .next [T,some (.r hp.length),some (.d (.int (k+ar c:Nat))),some (.d (sgD c))] (hp++[.lst ((ps++[w++[c]]).map dS)])) :
  bCt [T,some (.r hp.length),some (.d (.int (k+1:Nat))),some (.d (sgD c))] QQ (hp++[.lst ((ps++[w]).map dS)]):=by
 have e1:(ps++[w]).map dS=ps.map dS++[dS w]:=by rw[List.map_append];rfl
 have hl:(hp++[.lst ((ps++[w]).map dS)])[hp.length]?=some (O.lst (ps.map dS++[dS w])):=by rw[e1];simp
 have es:seqIndex? (-1) (ps.map dS++[dS w]).length=some (ps.map dS).length:=by rw[List.length_append,List.length_singleton];exact JO _
 refine⟨by decide,_,dS w,BY hl,?_,?_⟩
 ·show(seqIndex? (-1) _).bind _=_
  rw[es];simp
 ·refine A2 rfl ((Dn _ _).mpr ⟨by rw[sizeLine_eq];exact Lb hz,?_⟩)
  refine⟨by decide,DD hl ⟨_,es,?_⟩⟩
  have:(ps.map dS++[dS w]).set (ps.map dS).length (dS (w++[c]))=(ps++[w++[c]]).map dS:=by rw[List.set_append_right _ _ (Nat.le_refl _),List.map_append];simp
  rw[this,DK]
  refine HL (c:=c) rfl rfl ?_
  rw[show((k+ar c:Nat):Int)=((k+1:Nat):Int)+(ar c-1) from by lia] at q
  exact q
theorem NU(hz:w.length<2 ^ 20)(q:QQ .next [T,some (.r hp.length),some (.d (.int (k+ar c:Nat))),some (.d (sgD c))] (hp++[.lst ((ps++[w++[c]]).map dS)])) :
  bC [T,some (.r hp.length),some (.d (.int (k+1:Nat))),some (.d (sgD c))] QQ (hp++[.lst ((ps++[w]).map dS)]):=by
 refine Az (x:=false) (fun K h=>AR (A2 rfl ?_)) (fun h=>nomatch h) (fun z=>Ad (Gi hz q))
 show K (((k+1:Nat):Int) == 0) _
 rw[beq_eq_false_iff_ne.mpr (Int.natCast_ne_zero.mpr (Nat.succ_ne_zero k))];exact h
theorem Lh(hz:ps.length<1000)(q:QQ .next [T,some (.r hp.length),some (.d (.int (ar c:Nat))),some (.d (sgD c))] (hp++[.lst ((ps++[[c]]).map dS)])) :
  bC [T,some (.r hp.length),some (.d (.int (0:Nat))),some (.d (sgD c))] QQ (hp++[.lst (ps.map dS)]):=by
 have hl:(hp++[.lst (ps.map dS)])[hp.length]?=some (O.lst (ps.map dS)):=by simp
 refine Az (x:=true) (fun K h=>AR (A2 rfl h)) (fun z=>?_) (fun h=>nomatch h)
 refine GW (Aq (A2 rfl ⟨B8 hl,AW (Cw (Aw (Cd hl (by rw[List.length_map,sizeLine_eq];exact Lb (Ll hz)) ?_)))⟩))
 rw[DK]
 refine EW (BN (Ad ?_))
 have:=Gi (QQ:=QQ) (hp:=hp) (T:=T) (ps:=ps) (w:=[]) (c:=c) (k:=0) (by decide) (by rw[Nat.zero_add];exact q)
 rw[List.map_append] at this
 exact this
theorem NV:∀ (n:Nat) (ts:List Tm) (rest:List PyData) (w:List Nat) (k:Nat) (o:Option V),(ts.flatMap enc).length=n→w.length+n<2 ^ 20 →
    (∀ o',forL none (tName 3) bC QQ rest [T,some (.r hp.length),some (.d (.int k)),o'] (hp++[.lst ((ps++[w++ts.flatMap enc]).map dS)])) →
    forL none (tName 3) bC QQ ((ts.flatMap enc).map sgD++rest) [T,some (.r hp.length),some (.d (.int (k+ts.length:Nat))),o] (hp++[.lst ((ps++[w]).map dS)]):=by
  intro n
  induction n with
  | zero =>
   intro ts rest w k o h hz q
   cases ts with
   | nil =>
    have:=q o
    rwa[List.flatMap_nil,List.append_nil] at this
   | cons t ts=>rw[List.flatMap_cons,Ae] at h;cases h
  | succ n ih =>
   intro ts rest w k o h hz q
   cases ts with
   | nil=>cases h
   | cons t ts =>
    have e:(t::ts).flatMap enc=hdc t::(kids t++ts).flatMap enc:=by rw[List.flatMap_cons,Ae,List.flatMap_append];rfl
    rw[e] at h q ⊢
    refine Bh trivial (NU (k:=k+ts.length) (by lia) ?_)
    rw[show k+ts.length+ar (hdc t)=k+(kids t++ts).length from by rw[List.length_append,AX];lia]
    refine ih (kids t++ts) rest (w++[hdc t]) k _ (Nat.succ.inj h) (by rw[List.length_append,List.length_singleton];lia) fun o'=>?_
    have:=q o'
    rwa[List.append_assoc]
theorem IC:∀ (ks:List Tm) (ps:List (List Nat)) (o:Option V),(∀ t∈ks,len t<2 ^ 20)→ps.length+ks.length<1000→(∀ o',QQ .next [T,some (.r hp.length),some (.d (.int (0:Nat))),o'] (hp++[.lst ((ps++ks.map enc).map dS)])) →
  forL none (tName 3) bC QQ ((ks.flatMap enc).map sgD) [T,some (.r hp.length),some (.d (.int (0:Nat))),o] (hp++[.lst (ps.map dS)])
 | [],ps,o,_,_,q=>by
  have:=q o
  rw[List.map_nil,List.append_nil] at this
  exact⟨trivial,this⟩
 | t::ks,ps,o,hz,hl,q=>by
  have ht:([hdc t]++(kids t).flatMap enc)=enc t:=(Ae t).symm
  have hlen:=hz t List.mem_cons_self
  unfold len at hlen
  rw[← ht,List.length_append,List.length_singleton] at hlen
  rw[List.flatMap_cons,Ae,List.cons_append,List.map_cons,List.map_append]
  refine Bh trivial (Lh (by rw[List.length_cons] at hl;lia) ?_)
  rw[← AX,← Nat.zero_add (kids t).length]
  refine NV (ps:=ps) _ (kids t) _ [hdc t] 0 _ rfl hlen fun o'=>?_
  rw[ht]
  refine IC ks (ps++[enc t]) o' (fun t h=>hz t (List.mem_cons_of_mem _ h)) (by rw[List.length_append,List.length_singleton];rw[List.length_cons] at hl;lia) fun o2=>?_
  rw[List.append_assoc];exact q o2
theorem Jb{α:Type}(c:α)(l:List α):psl (c::l) (some 1) none=l:=by
 unfold psl
 have:clipAt (c::l).length 1=1:=by unfold clipAt;simp only[List.length_cons];lia
 show((c::l).drop (clipAt (c::l).length 1)).take ((c::l).length-clipAt (c::l).length 1)=l
 rw[this];exact List.take_length
theorem MG{t:Tm}(hz:len t<2 ^ 20)(q:Q (.d (.list ((kids t).map fun a=>dS (enc a)))) hp):BV [.d (dS (enc t))] Q hp:=by
 refine CV (vs0:=[_,none,none,none]) rfl rfl (AY ⟨Nat.zero_le _,AY (E0 (s:=bC) (A2 rfl ⟨by rw[AH,sizeLine_eq];unfold len at hz;exact Lb (Ll hz),?_⟩))⟩)
 have e:psl (mkS (enc t)).cps.toList (some 1) none=(kids t).flatMap enc:=by show psl (enc t) _ _=_;rw[Ae];exact Jb _ _
 rw[e]
 refine IC (kids t) [] none (fun s hs=>Nat.lt_trans (CS hs) hz) (by rw[AX];have:=F9 (c:=hdc t);show 0+_<_;lia) fun o'=>Ad (DA (A2 rfl ?_))
 show(if hp.length<hp.length then _ else _)
 rw[if_neg (Nat.lt_irrefl _)]
 have hl:(hp++[.lst (([]++(kids t).map enc).map dS)])[hp.length]?=some (O.lst (((kids t).map enc).map dS)):=by simp
 rw[hl,List.map_map]
 dsimp only
 rw[List.take_left]
 exact q
end
noncomputable def seens:List (List Nat):=[[],[120],[121],[122],[120,121],[120,122],[121,120],[121,122],[122,120],[122,121],[120,121,122],[120,122,121],[121,120,122],[121,122,120],[122,120,121],[122,121,120]]
noncomputable def seenOk(s:List Nat)(c:Nat):Bool:=(Txt.contains (mkS s) (ch c) == decide (c∈s)) && seens.contains (nadd s c) && (Txt.find (mkS (nadd s c)) (ch c) == ((nadd s c).idxOf c:Int)) && decide ((nadd s c).idxOf c<3)
theorem JP:(seens.all fun s=>[120,121,122].all fun c=>seenOk s c)=true:=by decide +kernel
theorem Hk{s:List Nat}{c:Nat}(hs:s∈seens)(hc:vcB c=true):Txt.contains (mkS s) (ch c)=decide (c∈s)∧nadd s c∈seens∧Txt.find (mkS (nadd s c)) (ch c)=((nadd s c).idxOf c:Int)∧(nadd s c).idxOf c<3:=by
 have hm:c∈[120,121,122]:=by
  obtain⟨i,rfl⟩:=Kw hc
  revert i;decide
 have:=List.all_eq_true.mp (List.all_eq_true.mp JP s hs) c hm
 unfold seenOk at this
 simp only[Bool.and_eq_true,beq_iff_eq,decide_eq_true_eq,List.contains_iff_mem] at this
 exact⟨this.1.1.1,this.1.1.2,this.1.2,this.2⟩
theorem N5:∀ i:Fin 3,Txt.charAt "012" (i.val:Int)=some (48+i.val):=by decide +kernel
theorem K6:∀ c:Fin 128,Txt.contains "xyz" (ch c.val)=vcB c.val:=by decide +kernel
section
variable{hp:List O}{Q:V→List O→Prop}{QQ:QS}{T o:Option V}{c k:Nat}
theorem Jn{x y:Str}(q:Q (.d (.int (Txt.find x y))) hp):mFind x [.d (.str y)] Q hp:=q
def bN:XS:=sCons (sIf (bCmp opIn (xVar 3) (cS "xyz")) (sCons (sIf (bCmp opNotIn (xVar 3) (xVar 1)) (sCons (sAug opIAdd 1 (xVar 3)) sNil) sNil) (sCons (sAug opIAdd 2 (xBin opItem (cS "012") (xMethS mFind (xVar 1) (lCons (xVar 3) lNil)))) sNil))
 (sCons (sAug opIAdd 2 (xVar 3)) sNil)) sNil
theorem N7{s w:List Nat}(hs:s∈seens)(hc:c<128)(hz:w.length<2 ^ 20)(q:QQ .next [T,some (.d (dS (nstep (s,w) c).1)),some (.d (dS (nstep (s,w) c).2)),some (.d (sgD c))] hp) :
  bN [T,some (.d (dS s)),some (.d (dS w)),some (.d (sgD c))] QQ hp:=by
 refine Az (x:=vcB c) (fun K h=>AR (A2 rfl (Cw ?_))) (fun hv=>?_) (fun hv=>?_)
 ·show K (Txt.contains "xyz" (ch c)) hp
  rw[K6 ⟨c,hc⟩];exact h
 ·obtain⟨e1,e2,e3,e4⟩:=Hk hs hv
  have q':QQ .next [T,some (.d (dS (nadd s c))),some (.d (dS (w++[48+(nadd s c).idxOf c]))),some (.d (sgD c))] hp:=by unfold nstep at q;rw[if_pos hv] at q;exact q
  have fin:sCons (sAug opIAdd 2 (xBin opItem (cS "012") (xMethS mFind (xVar 1) (lCons (xVar 3) lNil)))) sNil [T,some (.d (dS (nadd s c))),some (.d (dS w)),some (.d (sgD c))] (qC sNil QQ) hp:=by
   refine DW rfl (AB (Cw (A2 (k:=1) rfl (AW (A2 rfl (Aw ?_))))))
   refine Jn ?_
   rw[e3]
   exact Bm (by lia) (N5 ⟨_,e4⟩) ((Dn _ _).mpr ⟨by rw[sizeLine_eq];exact Lb hz,q'⟩)
  refine Az (x := !decide (c∈s)) (fun K h=>AR (A2 rfl (A2 rfl ?_))) (fun h=>?_) (fun h=>?_)
  ·show K (!Txt.contains (mkS s) (ch c)) hp
   rw[e1];exact h
  ·have hn:c ∉ s:=by simpa using h
   have en:nadd s c=s++[c]:=if_neg hn
   rw[en] at fin
   refine DW rfl (A2 rfl ((Dn _ _).mpr ⟨?_,fin⟩))
   have:∀ s∈seens,s.length≤3:=by decide
   have:=this s hs
   rw[sizeLine_eq];lia
  ·have hn:c∈s:=by simpa using h
   have en:nadd s c=s:=if_pos hn
   rw[en] at fin
   exact fin
 ·have q':QQ .next [T,some (.d (dS s)),some (.d (dS (w++[c]))),some (.d (sgD c))] hp:=by unfold nstep at q;rw[hv] at q;exact q
  exact DW rfl (A2 rfl ((Dn _ _).mpr ⟨by rw[sizeLine_eq];exact Lb hz,q'⟩))
theorem Jq{s w:List Nat}(hs:s∈seens):(nstep (s,w) c).1∈seens∧(nstep (s,w) c).2.length=w.length+1:=by
 unfold nstep
 cases hv:vcB c with
 | true=>exact⟨(Hk hs hv).2.1,List.length_append⟩
 | false=>exact⟨hs,List.length_append⟩
theorem OC:∀ (l s w:List Nat) (o:Option V),s∈seens→(∀ c∈l,c<128)→w.length+l.length≤2 ^ 20→(∀ s' o',QQ .next [T,s',some (.d (dS (l.foldl nstep (s,w)).2)),o'] hp) →
  forL none (tName 3) bN QQ (l.map sgD) [T,some (.d (dS s)),some (.d (dS w)),o] hp
 | [],s,w,o,_,_,_,q=>⟨trivial,q _ _⟩
 | c::l,s,w,o,hs,hl,hz,q=>by
  have ok:=Jq (w:=w) (c:=c) hs
  rw[List.length_cons] at hz
  exact Bh trivial (N7 hs (hl c List.mem_cons_self) (by lia) (OC l _ _ _ ok.1 (fun d hd=>hl d (List.mem_cons_of_mem _ hd)) (by rw[ok.2];lia) q))
theorem IG{l:List Nat}(h:okl l)(q:Q (.d (dS (named l))) hp):BK [.d (dS l)] Q hp:=by
 refine CV (vs0:=[_,none,none,none]) rfl rfl (AY (AY (E0 (s:=bN) (A2 rfl ?_))))
 exact OC l [] [] none (by decide) h.2 (by rw[List.length_nil,Nat.zero_add];exact h.1) fun s' o'=>Ad (DA (A2 rfl (DZ q)))
end
end Mine
namespace Mine
open PySem PySem.StrLaws
abbrev Pr:=Fin 3×Tm
noncomputable def prL(ps:List Pr):List (List Nat×List Nat):=ps.map fun x=>([vc x.1],enc x.2)
theorem repl1(d:Nat)(q:List Nat):∀ l:List Nat,repL [d] q 0 l=l.flatMap fun c=>if d=c then q else [c]
 | []=>rfl
 | c::l=>by
  rw[List.flatMap_cons,← repl1 d q l]
  show(if ([d].isPrefixOf (c::l))=true then q++repL [d] q 0 l else c::repL [d] q 0 l)=_
  by_cases h:d=c
  ·rw[if_pos (by simp[List.isPrefixOf,h]),if_pos h]
  ·rw[if_neg (by simp[List.isPrefixOf,h]),if_neg h];rfl
theorem OE(i:Fin 3)(r:Tm)(c:Nat)(h:c<120∨∃ j,c=vc j):lt (sg1 i r) c=if vc i=c then enc r else [c]:=by
 rcases h with h | ⟨j,rfl⟩
 ·rw[GT _ h,if_neg (by have:=Cx i;lia)]
 ·rw[HF]
  by_cases e:j=i
  ·rw[e,CI,if_pos rfl]
  ·rw[D5 r e,if_neg fun k=>e (FF k).symm];rfl
theorem MC{t:Tm}{c:Nat}(h:c∈enc t):c<120∨∃ j,c=vc j:=by
 rcases BC h with rfl | rfl | rfl | rfl | k
 ·exact .inl (by decide)
 ·exact .inl (by decide)
 ·exact .inl (by decide)
 ·exact .inl (by decide)
 ·exact .inr k
theorem DC{f g:Nat→List Nat}:∀ {l:List Nat},(∀ c∈l,f c=g c)→l.flatMap f=l.flatMap g
 | [],_=>rfl
 | c::l,h=>by rw[List.flatMap_cons,List.flatMap_cons,h c List.mem_cons_self,DC fun d hd=>h d (List.mem_cons_of_mem _ hd)]
theorem GN(i:Fin 3)(r t:Tm):repL [vc i] (enc r) 0 (enc t)=enc (sub (sg1 i r) t):=by
 rw[repl1,Ct]
 exact(DC fun c hc=>OE i r c (MC hc)).symm
theorem Er:∀ (ps:List Pr) (t:Tm),replA (prL ps) (enc t)=enc (ap ps t)
 | [],_=>rfl
 | x::ps,t=>by
  show replA (prL ps) (repL [vc x.1] (enc x.2) 0 (enc t))=_
  rw[GN,Er ps];rfl
theorem c128{t:Tm}:∀ c∈enc t,c<128:=by
 intro c hc
 rcases MC hc with h | ⟨j,rfl⟩
 ·exact Lb h
 ·have:=j.isLt;show 120+j.val<128;lia
theorem Hp{t:Tm}(h:len t≤2 ^ 20):okl (enc t):=⟨h,c128⟩
theorem Hr:∀ {ps:List Pr} {t:Tm},(∀ x∈ps,len x.2≤2 ^ 20)→len (ap ps t)≤2 ^ 20→okR (prL ps) (enc t)
 | [],t,_,h=>Hp h
 | x::ps,t,hp,h=>by
  refine⟨Hp (Nat.le_trans (by rw[BQ];exact Jz _ t) h),by simp,fun c hc=>?_,hp x List.mem_cons_self,?_⟩
  ·have:=x.1.isLt;rw[List.mem_singleton.mp hc];show 120+x.1.val<128;lia
  ·rw[GN];exact Hr (fun y hy=>hp y (List.mem_cons_of_mem _ hy)) h
section
variable{hp:List O}{Q:V→List O→Prop}
theorem Kc{ps:List Pr}{t:Tm}(hz:ps.length≤1000)(h:∀ x∈ps,len x.2≤2 ^ 20)(hl:len (ap ps t)≤2 ^ 20)(q:Q (.d (dS (enc (ap ps t)))) hp):AU (.d (dS (enc t))::(flatD (prL ps)).map .d) Q hp :=
 Dv (by unfold prL;rw[List.length_map];exact hz) (Hr h hl) (by rw[Er];exact q)
theorem Ep:∀ ps:List (List Nat×List Nat),replA ps []=[]
 | []=>rfl
 | x::ps=>Ep ps
theorem Hq:∀ {ps:List Pr},(∀ x∈ps,len x.2≤2 ^ 20)→okR (prL ps) []
 | [],_=>⟨Nat.zero_le _,fun c hc=>nomatch hc⟩
 | x::ps,hp=>⟨⟨Nat.zero_le _,fun c hc=>(nomatch hc)⟩,by simp,fun c hc=>by have:=x.1.isLt;rw[List.mem_singleton.mp hc];show 120+x.1.val<128;lia,hp x List.mem_cons_self,Hq fun y hy=>hp y (List.mem_cons_of_mem _ hy)⟩
theorem Lm{ps:List Pr}(hz:ps.length≤1000)(h:∀ x∈ps,len x.2≤2 ^ 20)(q:Q (.d (dS [])) hp):AU (.d (dS [])::(flatD (prL ps)).map .d) Q hp :=
 Dv (by unfold prL;rw[List.length_map];exact hz) (Hq h) (by rw[Ep];exact q)
end
noncomputable def esc(l:List Nat):List Nat:=l.flatMap fun c=>if c=92 then [92,92] else if c=34 then [92,34] else [c]
noncomputable def valL(x:Pr):List Nat:=vc x.1::61::34::(esc (enc x.2)++[34])
noncomputable def valR(x:Pr):List Nat:=vc x.1::32::34::(esc (enc x.2)++[34])
noncomputable def jnL(f:Pr→List Nat):List Pr→List Nat
 | []=>[]
 | x::ps=>f x++match ps with | []=>[] | _::_=>10::jnL f ps
theorem La(l:List Nat):repL [34] [92,34] 0 (repL [92] [92,92] 0 l)=esc l:=by
 rw[repl1,repl1,List.flatMap_assoc]
 unfold esc
 refine DC fun c z=>?_
 by_cases h:c=92
 ·rw[if_pos h,h];rfl
 ·rw[if_neg (fun k=>h k.symm),if_neg h,List.flatMap_singleton]
  by_cases k:c=34
  ·rw[if_pos k,if_pos k.symm]
  ·rw[if_neg k,if_neg fun e=>k e.symm]
theorem Fu(l:List Nat):(esc l).length≤2*l.length:=by
 induction l with
 | nil=>exact Nat.le_refl _
 | cons c l ih =>
  unfold esc at ih ⊢
  rw[List.flatMap_cons,List.length_append,List.length_cons]
  have:(if c=92 then [92,92] else if c=34 then [92,34] else [c]).length≤2:=by
   split
   ·exact Nat.le_refl 2
   ·split
    ·exact Nat.le_refl 2
    ·exact Nat.le_succ 1
  lia
theorem MB{l:List Nat}{P:Nat→Prop}(h:∀ c∈l,P c)(h1:P 92)(h2:P 34):∀ c∈esc l,P c:=by
 intro c hc
 obtain⟨d,hd,hc⟩:=List.mem_flatMap.mp hc
 split at hc
 ·rcases List.mem_cons.mp hc with rfl | hc
  ·exact h1
  ·rw[List.mem_singleton.mp hc];exact h1
 ·split at hc
  ·rcases List.mem_cons.mp hc with rfl | hc
   ·exact h1
   ·rw[List.mem_singleton.mp hc];exact h2
  ·rw[List.mem_singleton.mp hc];exact h d hd
theorem Gb(rest:List Nat):∀ l:List Nat,(tL (· == 34) false (esc l++34::rest)).1=l∧(tL (· == 34) false (esc l++34::rest)).2.1=rest
 | []=>⟨rfl,rfl⟩
 | c::l=>by
  obtain⟨a,b⟩:=Gb rest l
  have e:esc (c::l)=(if c=92 then [92,92] else if c=34 then [92,34] else [c])++esc l:=List.flatMap_cons
  rw[e]
  by_cases h:c=92
  ·rw[if_pos h,h];exact⟨congrArg (92 :: ·) a,b⟩
  ·rw[if_neg h]
   by_cases k:c=34
   ·rw[if_pos k,k];exact⟨congrArg (34 :: ·) a,b⟩
   ·rw[if_neg k]
    have e2:tL (· == 34) false (c::(esc l++34::rest))=(c::(tL (· == 34) false (esc l++34::rest)).1,(tL (· == 34) false (esc l++34::rest)).2.1,nl c+(tL (· == 34) false (esc l++34::rest)).2.2):=by
     show(if (c == 34)=true then _ else _)=_
     rw[if_neg (by simpa using k),if_neg h]
    show(tL (· == 34) false (c::(esc l++34::rest))).1=_∧(tL (· == 34) false (c::(esc l++34::rest))).2.1=_
    rw[e2]
    exact⟨congrArg (c :: ·) a,b⟩
theorem Dl{p q l:List Nat}{d:Nat}:∀ {w:List Nat},(∀ c∈w,c≠d)→repL (d::p) q 0 (w++l)=w++repL (d::p) q 0 l
 | [],_=>rfl
 | c::w,h=>by
  have:(d::p).isPrefixOf (c::(w++l))=false:=by simp[List.isPrefixOf,(h c List.mem_cons_self).symm]
  show(if ((d::p).isPrefixOf (c::(w++l)))=true then _ else c::repL (d::p) q 0 (w++l))=_
  rw[this,Dl fun e he=>h e (List.mem_cons_of_mem _ he)];rfl
theorem e3(m:List Nat):repL [61,34] [32,34] 0 (61::34::m)=32::34::repL [61,34] [32,34] 0 m:=rfl
theorem G6(x:Pr)(l:List Nat):repL [61,34] [32,34] 0 (valL x++l)=valR x++repL [61,34] [32,34] 0 l:=by
 have h1:∀ c∈[vc x.1],c≠61:=fun c hc=>by rw[List.mem_singleton.mp hc];have:=Cx x.1;lia
 have h2:∀ c∈esc (enc x.2)++[34],c≠61:=by
  intro c hc
  rcases List.mem_append.mp hc with hc | hc
  ·refine MB (P:=fun c=>c≠61) (fun c hc=>?_) (by decide) (by decide) c hc
   rcases BC hc with rfl | rfl | rfl | rfl | ⟨j,rfl⟩
   ·decide
   ·decide
   ·decide
   ·decide
   ·have:=Cx j;lia
  ·rw[List.mem_singleton.mp hc];decide
 have e1:=Dl (p:=[34]) (q:=[32,34]) (l:=61::34::((esc (enc x.2)++[34])++l)) h1
 have e2:=Dl (p:=[34]) (q:=[32,34]) (l:=l) h2
 refine e1.trans ?_
 show vc x.1::repL [61,34] [32,34] 0 (61::34::((esc (enc x.2)++[34])++l))=_
 rw[e3,e2];rfl
theorem Fn:∀ ps:List Pr,repL [61,34] [32,34] 0 (jnL valL ps)=jnL valR ps
 | []=>rfl
 | [x]=>G6 x []
 | x::y::ps=>by
  have e:=G6 x (10::jnL valL (y::ps))
  refine e.trans (congrArg (valR x ++ ·) ?_)
  show 10::repL [61,34] [32,34] 0 (jnL valL (y::ps))=_
  rw[Fn (y::ps)]
section
variable{hp:List O}{Q:V→List O→Prop}{QQ:QS}{QB:Bool→List O→Prop}{vs:List (Option V)}
theorem Dw{C:PySem.Addr}{i:Nat}{fs:List (Nat×V)}{k:Nat→List (Nat×V)→Prop}{hp:List O}(e:hp[i]?=some (.inst C fs))(q:k i fs):atI (.r i) hp C k:=by
 unfold atI;dsimp only;rw[e];exact⟨rfl,q⟩
theorem Fy{i:Nat}{x:Str}{b:Bool}(h:cleanS x=true)(h':x.length≤sizeLine)(q:Q (.d (.str x)) hp):A9 [.r i,.d (.str x),.d (.bool b)] Q hp:=by
 refine CV (vs0:=[some (.r i),some (.d (.str x)),some (.d (.bool b)),none]) rfl rfl (Az (x:=true) (fun K k=>k) (fun z=>?_) (fun e=>nomatch e))
 cases b with
 | true=>exact⟨by decide,h,h',DZ q⟩
 | false=>exact⟨by decide,h,h',DZ q⟩
theorem rep1{c:Nat}{q l:List Nat}(hc:c<128)(hl:∀ d∈l,d<128):Txt.replace (mkS l) (ch c) (mkS q)=mkS (repL [c] q 0 l):=by
 rw[replace_one,← glued_eq_join]
 exact Hl (p:=[c]) (by simp) hl fun d hd=>by rw[List.mem_singleton.mp hd];exact hc
theorem Om{k:Str}{l:List Nat}(hk:k.length≤100)(hl:∀ d∈l,d<128)(h0:0<l.length)(hz:l.length≤200000)(q:Q (.d (.str (k++mkS (61::34::(esc l++[34]))))) hp):By [.d (.str k),.d (dS l)] Q hp:=by
 have hle:=Fu l
 have r1:Txt.replace (mkS l) "\\" "\\\\" = mkS (repL [92] [92,92] 0 l):=rep1 (c:=92) (q:=[92,92]) (by decide) hl
 have hr1:(repL [92] [92,92] 0 l).length≤2*l.length:=by
  rw[repl1]
  clear h0 hz q hl hle r1
  induction l with
  | nil=>exact Nat.le_refl _
  | cons c l ih =>
   rw[List.flatMap_cons,List.length_append,List.length_cons]
   have:(if 92=c then [92,92] else [c]).length≤2:=by
    split
    ·exact Nat.le_refl 2
    ·exact Nat.le_succ 1
   lia
 have hc1:∀ d∈repL [92] [92,92] 0 l,d<128:=by
  intro d hd
  rw[repl1] at hd
  obtain⟨c,hc,hd⟩:=List.mem_flatMap.mp hd
  split at hd
  ·rcases List.mem_cons.mp hd with rfl | hd
   ·decide
   ·rw[List.mem_singleton.mp hd];decide
  ·rw[List.mem_singleton.mp hd];exact hl c hc
 have r2:Txt.replace (mkS (repL [92] [92,92] 0 l)) "\"" "\\\"" = mkS (esc l):=(rep1 (c:=34) (q:=[92,34]) (by decide) hc1).trans (congrArg mkS (La l))
 have hlen:∀ m:List Nat,(⟨m.toArray⟩:Str).length=m.length:=AH
 refine⟨rfl,Az (x:=true) (fun K h=>?_) (fun z=>?_) (fun e=>nomatch e)⟩
 ·refine⟨by rw[AH];lia,?_⟩
  show K (decide ((0:Int)<((mkS l).length:Nat))) hp
  rw[decide_eq_true (by rw[AH];lia)];exact h
 ·refine Az (x:=true) (fun K h=>h) (fun z=>?_) (fun e=>nomatch e)
  refine AY ⟨by rw[AH];show _+_*2≤_;lia,?_⟩
  rw[r1]
  refine⟨by rw[AH];show _+_*2≤_;lia,?_⟩
  rw[r2]
  have f1:(mkS (esc l)).length≤400000:=by rw[AH];lia
  have e:Str.empty++k ++ "=\"" ++ mkS (esc l) ++ "\"" = k++mkS (61::34::(esc l++[34])):=by
   show(⟨#[]++k.cps ++ #[61,34]++(esc l).toArray ++ #[34]⟩:Str)=⟨k.cps++(61::34::(esc l++[34])).toArray⟩
   congr 1
   apply Array.toList_inj.mp
   simp
  have ek:(Str.empty++k).length=k.length:=by show(#[]++k.cps).size=k.cps.size;simp
  have la:∀ a b:Str,(a++b).length=a.length+b.length:=fun a b=>Array.size_append
  refine Ad ⟨k,rfl,Lb hk,k,rfl,by rw[ek];exact Lb hk,_,rfl,by rw[la,ek];show _+2≤_;lia,⟨_,rfl,Lb f1,_,rfl,by rw[la,la,ek];show _+2+_≤_;lia,_,rfl,by rw[la,la,la,ek];show _+2+_+1≤_;lia,by rw[la,la,la,ek];show _+2+_+1≤_;lia,?_⟩⟩
  rw[e]
  exact DZ q
end
noncomputable def rowB(x:Pr):PyData:=.tuple [.str "is", dS (valL x)]
theorem O9:∀ j:Fin 3,okC (vc j)=true:=by decide
theorem Lj{t:Tm}:cleanS (mkS (enc t))=true:=by
 refine List.all_eq_true.mpr fun c hc=>?_
 rcases BC (t:=t) hc with rfl | rfl | rfl | rfl | ⟨j,rfl⟩
 ·decide
 ·decide
 ·decide
 ·decide
 ·exact O9 j
theorem Ml(i:Fin 3):mkS [vc i] = "x" ∨ mkS [vc i] = "y" ∨ mkS [vc i] = "z" := by revert i;decide
theorem Lk(i:Fin 3):cleanS (mkS [vc i])=true:=by revert i;decide
theorem OB(i:Fin 3):(Builtin.Str.occurrences (mkS [vc i]) "_" 0 (mkS [vc i]).length ((mkS [vc i]).length+1)).isEmpty=true:=by revert i;decide +kernel
theorem GU(x:Str):Txt.join "; " [x]=x:=rfl
section
variable{hp:List O}{Q:V→List O→Prop}
def qD(i:Nat)(x y:Str)(Q:QS):QS:=fun fl vs hp=>match fl with
 | .next=>hp[i]?=some (.dict1 x y)∧Q .next vs hp
 | .cont=>hp[i]?=some (.dict1 x y)∧Q .next vs hp
 | .brk=>Q .next vs hp
 | .ret v=>Q (.ret v) vs hp
theorem ND{k i k1 k2:Nat}{x y:Str}{s s':XS}{vs:List (Option V)}{QQ:QS}(h:vs[k]?=some (some (.r i)))(h':hp[i]?=some (.dict1 x y))(q:s ((vs.set k1 (some (.d (.str x)))).set k2 (some (.d (.str y)))) (qD i x y (qC s' QQ)) hp) :
  sCons (sForD k (tTuple 2 (tsCons (tName k1) (tsCons (tName k2) tsNil))) s) s' vs QQ hp:=⟨i,x,y,h,h',rfl,q⟩
theorem EE{C:PySem.Addr}{k:Nat}{v:V}{F:FT}{a b:XE}{vs:List (Option V)}(h:vs[k]?=some (some v))(h':atI v hp C fun z z=>True)(q:a vs (fun w=>b vs fun u=>F [v,w,u] Q) hp):xMeth C F (xVar k) (lCons a lNil) (lCons b lNil) vs Q hp:=HM (A2 h ⟨h',q⟩)
theorem NX{ib jh:Nat}{fs:List (Nat×V)}{i:Fin 3}{r:Tm}{rows:List PyData}(e1:hp[ib]?=some (.inst 231 fs))(f:fs.lookup 0=some (.r jh))(ls:hp[jh]?=some (.lst rows))(few:rows.length≤1000)(hr:len r≤100000)
  (q:Q (.d .none) (hp.set jh (.lst (rows++[rowB (i,r)])))):Ac (mkS [vc i]) [.r ib,.d (.str "is"),.d .none,.d (dS (enc r))] Q hp:=by
 have lib:=(List.getElem?_eq_some_iff.mp e1).1
 have ljh:=(List.getElem?_eq_some_iff.mp ls).1
 have len2:(hp++[O.dict1 (mkS [vc i]) (mkS (enc r))]).length=hp.length+1:=by simp
 refine⟨[.r ib,.d (.str "is"),.d .none],mkS (enc r),rfl,rfl,?_⟩
 show As [some (.r ib),some (.d (.str "is")),some (.d .none),some (.r hp.length),none,none,none] _ _
 refine AY ⟨Nat.zero_le _,?_⟩
 unfold mkL
 dsimp only
 rw[len2]
 generalize hg:hp++[O.dict1 (mkS [vc i]) (mkS (enc r))]++[.lst []]=h2
 have g:∀ (a b:O),hp++[a]++[b]=hp++[a,b]:=fun a b=>by simp
 have b1:h2[ib]?=some (.inst 231 fs):=by rw[← hg];exact A8 (A8 e1 _) _
 have b2:h2[hp.length+1]?=some (.lst []):=by rw[← hg,g];simp
 have b3:h2[hp.length]?=some (.dict1 (mkS [vc i]) (mkS (enc r))):=by rw[← hg,g];simp
 have b4:h2[jh]?=some (.lst rows):=by rw[← hg];exact A8 (A8 ls _) _
 refine Az (x:=false) (fun K h=>h) (fun e=>nomatch e) (fun z=>Ad ?_)
 refine ND rfl b3 ?_
 have hk1:(mkS [vc i]).length≤sizeLine:=by rw[AH,sizeLine_eq];exact(by decide:1≤16777216)
 refine AY (EE rfl (Dw b1 trivial) (A2 rfl (Fy (Lk i) hk1 ?_)))
 refine Az (x:=false) (fun K h=>h) (fun e=>nomatch e) (fun z=>?_)
 refine AY (EE rfl (Dw b1 trivial) (A2 rfl (Fy Lj (by rw[AH,sizeLine_eq];exact Nat.le_trans hr (by decide)) ?_)))
 refine EV (Aq (A2 rfl ⟨B8 b2,AW (Cf (AW ⟨mkS [vc i],rfl,OB i,AW (A2 rfl (Aw ?_))⟩))⟩))
 refine Om (by rw[AH];exact(by decide:1≤100)) c128 (BG r) (Nat.le_trans hr (by decide)) ?_
 refine Aw (Cd b2 (Nat.zero_le _) ?_)
 have ne:hp.length≠hp.length+1:=Nat.ne_of_lt (Nat.lt_succ_self _)
 refine⟨by rw[List.getElem?_set_ne ne.symm];exact b3,Ad ?_⟩
 have v:mkS [vc i]++mkS (61::34::(esc (enc r)++[34]))=mkS (valL (i,r)):=by
  show(⟨_++_⟩:Str)=_
  rw[List.append_toArray];rfl
 rw[v]
 have c1:(h2.set (hp.length+1) (.lst ([]++[dS (valL (i,r))])))[ib]?=some (.inst 231 fs):=by rw[List.getElem?_set_ne (by lia)];exact b1
 have c2:(h2.set (hp.length+1) (.lst ([]++[dS (valL (i,r))])))[jh]?=some (.lst rows):=by rw[List.getElem?_set_ne (by lia)];exact b4
 have c3:(h2.set (hp.length+1) (.lst ([]++[dS (valL (i,r))])))[hp.length+1]?=some (.lst [dS (valL (i,r))]):=AT b2
 refine EV (Aq (K8 (A2 rfl (Ba c1 f ⟨B8 c2,AW ?_⟩))))
 refine AW (EE rfl (Dw c1 trivial) (A2 rfl (Fy (by decide) (by rw[sizeLine_eq];decide) ?_)))
 have hv:(valL (i,r)).length≤2 ^ 20:=by
  have:=Fu (enc r)
  unfold len at hr
  simp only[valL,List.length_cons,List.length_append,List.length_nil];lia
 refine AW ⟨[dS (valL (i,r))],[mkS (valL (i,r))],BY c3,rfl,joinOk (by rw[GU,AH];exact hv) (by decide),Aw ⟨by rw[sizeLine_eq];exact(by decide:2≤16777216),Aw (Cd c2 (by rw[sizeLine_eq];exact Lb few) ?_)⟩⟩
 rw[GU]
 show Q _ (List.take _ _)
 have:((h2.set (hp.length+1) (.lst ([]++[dS (valL (i,r))]))).set jh (.lst (rows++[rowB (i,r)]))).take hp.length=hp.set jh (.lst (rows++[rowB (i,r)])):=by
  rw[← hg,g,List.set_append_right _ _ Lr,List.set_append_left _ _ ljh]
  refine List.take_left' ?_
  rw[List.length_set]
 exact this ▸ q
end
structure Bk(ib jh:Nat)(ps:List Pr)(hp:List O):Prop where
 ob:∃ fs,hp[ib]?=some (.inst 231 fs)∧fs.lookup 0=some (.r jh)
 ls:hp[jh]?=some (.lst (ps.map rowB))
theorem low1:Txt.lower "IS" = "is" := by decide +kernel
theorem low2:Txt.lower "is" = "is" := by decide +kernel
section
variable{hp:List O}{Q:V→List O→Prop}{QQ:QS}{ib jh:Nat}{ps:List Pr}
theorem Ke(B:Bk ib jh ps hp)(few:ps.length≤1000)(q:Q (.d (.list (ps.map fun x=>dS (valL x)))) hp):BM [.r ib,.d (.str "IS")] Q hp:=by
 obtain⟨⟨fs,e1,f⟩,ls⟩:=B
 have hs:("is" : Str).length≤sizeLine:=by rw[sizeLine_eq];decide
 refine CV (vs0:=[some (.r ib),some (.d (.str "IS"))]) rfl rfl (AY (EE rfl (Dw e1 trivial) (Co (fun K k=>A2 rfl k) (Aw ⟨by rw[low1];exact hs,?_⟩))))
 rw[low1]
 refine Fy (by decide) hs (DA ?_)
 refine comp1 (v:=.r jh) (xs:=ps.map rowB) (fun z=>true) (fun d=>match d with | .tuple [_,v]=>v | _=>.none) (fun K k=>Ba e1 f k) (by unfold iterV;dsimp only;rw[ls]) ?_ ?_ (by rw[List.length_map,sizeLine_eq];exact Lb few) ?_
 ·intro y hy l K k
  obtain⟨x,_,rfl⟩:=List.mem_map.mp hy
  refine AR (Co (x := "is") (fun K k=>⟨by decide,k⟩) (Aw ⟨by rw[low2];exact hs,?_⟩))
  rw[low2];exact k
 ·intro y hy _ l K k
  obtain⟨x,_,rfl⟩:=List.mem_map.mp hy
  exact⟨by decide,k⟩
 ·rw[List.filter_eq_self.mpr (fun z z=>rfl),List.map_map]
  exact DZ q
noncomputable def RdT:List Nat→List (List Nat)→Prop
 | l,[]=>(gTok l).1=[]
 | l,w::ws=>(gTok l).1=w∧RdT (gTok l).2.1 ws
noncomputable def toks(ps:List Pr):List (List Nat):=ps.flatMap fun x=>[[vc x.1],enc x.2]
theorem Nf{l:List Nat}:∀ {ws:List (List Nat)},RdT l ws→RdT (10::l) ws
 | [],h=>h
 | _::_,h=>h
theorem Nu(i:Fin 3):isWs (vc i)=false∧vc i≠34∧vc i≠92:=by revert i;decide
theorem G7(x:Pr)(l:List Nat):(gTok (valR x++l)).1=[vc x.1]∧(gTok (gTok (valR x++l)).2.1).1=enc x.2∧(gTok (gTok (valR x++l)).2.1).2.1=l:=by
 obtain⟨h1,h2,h3⟩:=Nu x.1
 have e:gTok (valR x++l)=tL isWs false (vc x.1::32::34::(esc (enc x.2)++[34]++l)):=by
  show(if isWs (vc x.1)=true then _ else if vc x.1=34 then _ else tL isWs false _)=_
  rw[if_neg (by rw[h1];decide),if_neg h2];rfl
 have e2:tL isWs false (vc x.1::32::34::(esc (enc x.2)++[34]++l))=([vc x.1],34::(esc (enc x.2)++[34]++l),nl (vc x.1)+nl 32):=by
  show(if isWs (vc x.1)=true then _ else if vc x.1=92 then _ else _)=_
  rw[if_neg (by rw[h1];decide),if_neg h3];rfl
 rw[e,e2]
 obtain⟨a,b⟩:=Gb l (enc x.2)
 have e3:gTok (34::(esc (enc x.2)++[34]++l))=tL (· == 34) false (esc (enc x.2)++34::l):=by rw[List.append_assoc];rfl
 exact⟨rfl,by rw[e3];exact a,by rw[e3];exact b⟩
theorem I3:∀ ps:List Pr,RdT (jnL valR ps) (toks ps)
 | []=>rfl
 | [x]=>by obtain⟨a,b,c⟩:=G7 x [];exact⟨a,b,by rw[show RdT _ _↔(gTok _).1=[] from Iff.rfl];exact(congrArg (fun l=>(gTok l).1) c)⟩
 | x::y::ps=>by
  obtain⟨a,b,c⟩:=G7 x (10::jnL valR (y::ps))
  refine⟨a,b,?_⟩
  show RdT (gTok (gTok (valR x++10::jnL valR (y::ps))).2.1).2.1 _
  rw[c];exact Nf (I3 (y::ps))
theorem Ei:∀ ps:List Pr,(toks ps).map dS=flatD (prL ps)
 | []=>rfl
 | x::ps=>congrArg (fun l=>dS [vc x.1]::dS (enc x.2)::l) (Ei ps)
theorem Ky{w:List Nat}(h:w∈toks ps):w≠[]:=by
 obtain⟨x,_,h⟩:=List.mem_flatMap.mp h
 rcases List.mem_cons.mp h with rfl | h
 ·exact fun e=>nomatch e
 ·rw[List.mem_singleton.mp h,Ae];exact fun e=>nomatch e
theorem HH{f:Pr→List Nat}{M:Nat}:∀ {ps:List Pr},(∀ x∈ps,(f x).length≤M)→(jnL f ps).length≤ps.length*(M+1)
 | [],_=>Nat.zero_le _
 | [x],h=>by have:=h x List.mem_cons_self;show(f x++[]).length≤1*_;rw[List.append_nil];lia
 | x::y::ps,h=>by
  have h1:=h x List.mem_cons_self
  have h2:=HH (ps:=y::ps) fun z hz=>h z (List.mem_cons_of_mem _ hz)
  show(f x++10::jnL f (y::ps)).length≤((y::ps).length+1)*_
  rw[List.length_append,List.length_cons,Nat.add_mul];lia
theorem NB{f:Pr→List Nat}:∀ {ps:List Pr},(∀ x∈ps,∀ c∈f x,c<128)→∀ c∈jnL f ps,c<128
 | [],_=>fun c hc=>nomatch hc
 | [x],h=>fun c hc=>h x List.mem_cons_self c (by rwa[show jnL f [x]=f x from List.append_nil _] at hc)
 | x::y::ps,h=>fun c hc=>by
  have hc:c∈f x++10::jnL f (y::ps):=hc
  rcases List.mem_append.mp hc with hc | hc
  ·exact h x List.mem_cons_self c hc
  ·rcases List.mem_cons.mp hc with rfl | hc
   ·decide
   ·exact NB (fun z hz=>h z (List.mem_cons_of_mem _ hz)) c hc
theorem I2(f:Pr→List Nat):∀ ps:List Pr,Txt.join "\n" (ps.map fun x=>mkS (f x))=mkS (jnL f ps)
 | []=>rfl
 | [x]=>by show mkS (f x)=mkS (f x++[]);rw[List.append_nil]
 | x::y::ps=>by
  have ih:=I2 f (y::ps)
  unfold Txt.join at ih ⊢
  rw[glued_eq_join] at ih ⊢
  rw[List.map_cons,Ey (by simp),ih]
  show(⟨(f x).toArray ++ #[10]++(jnL f (y::ps)).toArray⟩:Str)=⟨(f x++10::jnL f (y::ps)).toArray⟩
  congr 1
  apply Array.toList_inj.mp
  simp
end
section
variable{hp:List O}{Q:V→List O→Prop}{QQ:QS}{ib jh:Nat}{ps:List Pr}{ip il is ir:Nat}{B T:Option V}
theorem L5{S:List Nat}{hp ext hp':List O}(k:Kp S (hp++ext) hp')(h:∀ i∈S,hp.length≤i):hp'.take hp.length=hp:=by
 apply List.ext_getElem?
 intro i
 rw[List.getElem?_take]
 split
 ·rename_i hi
  rw[k.2 i fun hm=>Nat.not_le.mpr hi (h i hm),List.getElem?_append_left hi]
 ·rename_i hi
  rw[List.getElem?_eq_none (Nat.not_lt.mp hi)]
def tP:XB:=bCmp opNe (xVar 4) (cS "")
def bP:XS:=sCons (sExpr (xMethL mAppend (xVar 3) (lCons (xVar 4) lNil))) (sCons (sAssign 4 (xMeth 76 A7 (xVar 2) lNil lNil)) sNil)
theorem JI{w:List Nat}{k:Nat}{vs:List (Option V)}{K:Bool→List O→Prop}(h:vs[k]?=some (some (.d (dS w))))(q:K (!w.isEmpty) hp):bCmp opNe (xVar k) (cS "") vs K hp:=by
 refine AR (A2 h ?_)
 show K (mkS w != mkS []) hp
 cases w with
 | nil=>exact q
 | cons c l=>rw[show(mkS (c::l) != mkS [])=true from bne_iff_ne.mpr fun e=>nomatch e];exact q
theorem Jd(h1:ip≠il)(h2:ip≠is)(h3:ir≠ip)(h4:ir≠il)(h5:ir≠is):∀ (ws:List (List Nat)) (w:List Nat) (done:List PyData) (n:Int) (l:List Nat) (hp:List O),(∀ x∈w::ws,x≠[])→done.length+ws.length<1000→RdT l ws →
  Lx ip hp il is n l→hp[ip]?=some (.lst [])→hp[ir]?=some (.lst done) →
  (∀ hp' o,Kp [il,is,ir] hp hp'→hp'[ir]?=some (.lst (done++(w::ws).map dS))→QQ .next [B,T,some (.r il),some (.r ir),o] hp') →
  ∀ m,ws.length+1<m→whileN tP bP QQ m [B,T,some (.r il),some (.r ir),some (.d (dS w))] hp:=by
 intro ws w done n l hp hn hz R L hb hr q m
 induction m generalizing ws w done n l hp with
 | zero=>exact fun hm=>absurd hm (Nat.not_lt_zero _)
 | succ m ih =>
  intro hm
  have hw:=hn w List.mem_cons_self
  refine BS (b:=true) (fun K h=>JI rfl (by cases w with | nil=>exact(hw rfl).elim | cons=>exact h)) (fun z=>?_) (fun e=>nomatch e)
  refine GW (Aq (A2 rfl ⟨B8 hr,AW (A2 rfl (Aw (Cd hr (by rw[sizeLine_eq];lia) ?_)))⟩))
  have k1:Kp [il,is,ir] hp (hp.set ir (.lst (done++[dS w]))):=Kp.set (by simp)
  have L1:Lx ip (hp.set ir (.lst (done++[dS w]))) il is n l:=L.kp (Kp.set (S:=[ir]) List.mem_cons_self) (fun h=>h4 (List.mem_singleton.mp h).symm) (fun h=>h5 (List.mem_singleton.mp h).symm)
  have b1:(hp.set ir (.lst (done++[dS w])))[ip]?=some (.lst []):=by rw[List.getElem?_set_ne h3];exact hb
  have r1:(hp.set ir (.lst (done++[dS w])))[ir]?=some (.lst (done++[dS w])):=AT hr
  refine EW (C4 rfl (L1.at fun z=>trivial) (EG L1 b1 fun hp2 k2 L2=>?_))
  have b2:hp2[ip]?=some (.lst []):=(k2.2 ip (Ds h1 h2)).trans b1
  have r2:hp2[ir]?=some (.lst (done++[dS w])):=(k2.2 ir (Ds h4 h5)).trans r1
  have kk:Kp [il,is,ir] hp hp2:=k1.trans (k2.mono fun i hi=>by
   rcases List.mem_cons.mp hi with rfl | hi
   ·exact List.mem_cons_self
   ·rw[List.mem_singleton.mp hi];exact List.mem_cons_of_mem _ List.mem_cons_self)
  cases ws with
  | nil =>
   obtain⟨m,rfl⟩:∃ j,m=j+1:=⟨m-1,by simp only[List.length_nil] at hm;lia⟩
   rw[show(gTok l).1=[] from R]
   exact Gn <| BS (b:=false) (fun K h=>JI (w:=[]) (k:=4) rfl h) (fun e=>nomatch e) (fun z=>q hp2 (some (.d (dS []))) kk r2)
  | cons v ws =>
   rw[R.1]
   rw[List.length_cons] at hz hm
   refine ih ws v (done++[dS w]) _ _ hp2 (fun x hx=>hn x (List.mem_cons_of_mem _ hx)) (by rw[List.length_append,List.length_singleton];lia) R.2 L2 b2 r2 (fun hp' o k3 r3=>q hp' o (kk.trans k3) ?_) (Ls hm)
   rw[r3,List.append_assoc];rfl
theorem IH{j:Nat}{l:List Nat}(st:hp[j]?=some (.stream l))(ok:okl l)(q:Lx hp.length (hp++[.lst [],.inst 76 (lexFs hp.length j)]) (hp.length+1) j 1 l→Q (.r (hp.length+1)) (hp++[.lst [],.inst 76 (lexFs hp.length j)])):Ci [.r j] Q hp:=by
 have hlt:=(List.getElem?_eq_some_iff.mp st).1
 exact⟨j,rfl,hlt,q ⟨Nat.ne_of_gt (Nat.lt_succ_of_lt hlt),⟨_,Fs,rfl,rfl,rfl,rfl⟩,A8 st _,ok⟩⟩
theorem GA:∀ ps:List Pr,(toks ps).length=2*ps.length
 | []=>rfl
 | x::ps=>by show(toks ps).length+1+1=2*(ps.length+1);rw[GA ps];exact rfl
theorem D4{α:Type}(f:α→Str):∀ l:List α,strsOf (l.map fun x=>.str (f x))=some (l.map f)
 | []=>rfl
 | x::l=>by show(strsOf (l.map fun x=>.str (f x))).map _=_;rw[D4 f l];rfl
theorem Ln(Bo:Bk ib jh ps hp)(few:ps.length≤4)(hl:∀ x∈ps,len x.2≤50625)(q:Q (.d (.list (flatD (prL ps)))) hp):Br [.r ib] Q hp:=by
 obtain⟨⟨fs,e1,f⟩,ls⟩:=id Bo
 have lval:∀ x∈ps,(valL x).length≤101260∧(valR x).length≤101260:=by
  intro x hx
  have h1:=Fu (enc x.2)
  have h2:=hl x hx
  unfold len at h2
  refine⟨?_,?_⟩
  ·show(esc (enc x.2)++[34]).length+1+1+1≤_
   rw[List.length_append,List.length_singleton];lia
  ·show(esc (enc x.2)++[34]).length+1+1+1≤_
   rw[List.length_append,List.length_singleton];lia
 have cval:∀ x∈ps,∀ c∈esc (enc x.2)++[34],c<128:=by
  intro x hx c hc
  rcases List.mem_append.mp hc with hc | hc
  ·exact MB (P:=fun c=>c<128) c128 (by decide) (by decide) c hc
  ·rw[List.mem_singleton.mp hc];decide
 have vlt:∀ i:Fin 3,vc i<128:=by decide
 have four:∀ {M:Nat},ps.length*(M+1)≤4*(M+1):=Nat.mul_le_mul_right _ few
 have okL:okl (jnL valL ps):=⟨Nat.le_trans (HH fun x hx=>(lval x hx).1) (Nat.le_trans four (by decide)),NB fun x hx c hc=>by
  rcases List.mem_cons.mp hc with rfl | hc
  ·exact vlt _
  ·rcases List.mem_cons.mp hc with rfl | hc
   ·decide
   ·rcases List.mem_cons.mp hc with rfl | hc
    ·decide
    ·exact cval x hx c hc⟩
 have okR':okl (jnL valR ps):=⟨Nat.le_trans (HH fun x hx=>(lval x hx).2) (Nat.le_trans four (by decide)),NB fun x hx c hc=>by
  rcases List.mem_cons.mp hc with rfl | hc
  ·exact vlt _
  ·rcases List.mem_cons.mp hc with rfl | hc
   ·decide
   ·rcases List.mem_cons.mp hc with rfl | hc
    ·decide
    ·exact cval x hx c hc⟩
 have ej:(Txt.join "\n" (ps.map fun x=>mkS (valL x)))=mkS (jnL valL ps):=I2 valL ps
 refine CV (vs0:=[some (.r ib),none,none,none,none]) rfl rfl ?_
 refine AY (Cf (AW (Co (fun K k=>k) (AW (DV rfl (Dw e1 trivial) (Cw (Ke Bo (Nat.le_trans few (by decide)) (Aw ⟨_,ps.map fun x=>mkS (valL x),rfl,?_,joinOk ?_ (by decide),?_⟩))))))))
 ·exact D4 _ ps
 ·rw[ej,AH];exact okL.1
 ·rw[ej]
  refine AW (Cw (AW (Cw (Aw ?_))))
  refine Dv (ps:=[([61,34],[32,34])]) (by decide) ⟨okL,by simp,by decide,by decide,by rw[Fn];exact okR'⟩ ?_
  show sCons _ _ [_,some (.d (dS (repL [61,34] [32,34] 0 (jnL valL ps)))),_,_,_] _ _
  rw[Fn]
  refine AY (Bp (Bp (A2 rfl ⟨jnL valR ps,rfl,okR'.1,?_⟩)))
  have e2:(hp++[O.stream (jnL valR ps)]).length=hp.length+1:=by simp
  refine IH (by simp) okR' fun L=>?_
  rw[e2] at L ⊢
  generalize hg:hp++[O.stream (jnL valR ps)]++[.lst [],.inst 76 (lexFs (hp.length+1) hp.length)]=h2 at L ⊢
  have g:hp++[O.stream (jnL valR ps)]++[.lst [],.inst 76 (lexFs (hp.length+1) hp.length)]=hp++[O.stream (jnL valR ps),.lst [],.inst 76 (lexFs (hp.length+1) hp.length)]:=by simp
  have l2:h2.length=hp.length+3:=by rw[← hg];simp
  have b2:h2[hp.length+1]?=some (.lst []):=by rw[← hg,g];simp
  refine AY ⟨Nat.zero_le _,?_⟩
  unfold mkL
  dsimp only
  rw[l2]
  have L3:Lx (hp.length+1) (h2++[.lst []]) (hp.length+2) hp.length 1 (jnL valR ps):=by
   obtain⟨ne,⟨fs,a1,a2⟩,a3,a4⟩:=L
   exact⟨ne,⟨fs,A8 a1 _,a2⟩,A8 a3 _,a4⟩
  have b3:(h2++[O.lst []])[hp.length+1]?=some (.lst []):=A8 b2 _
  have r3:(h2++[O.lst []])[hp.length+3]?=some (.lst []):=by rw[← l2];simp
  refine AY (C4 rfl (L3.at fun z=>trivial) (EG L3 b3 fun hp4 k4 L4=>?_))
  have b4:hp4[hp.length+1]?=some (.lst []):=(k4.2 _ (Ds (by lia) (by lia))).trans b3
  have r4:hp4[hp.length+3]?=some (.lst []):=(k4.2 _ (Ds (by lia) (by lia))).trans r3
  have R:=I3 ps
  have fin:∀ hp' o,Kp [hp.length+2,hp.length,hp.length+3] hp4 hp'→hp'[hp.length+3]?=some (.lst ((toks ps).map dS))→qC (sCons (sRet (xVar 3)) sNil) (qR hp.length Q) .next [some (.r ib),some (.d (dS (jnL valR ps))),some (.r (hp.length+2)),some (.r (hp.length+3)),o] hp':=by
   intro hp' o k5 r5
   refine Ad (DA (A2 rfl ?_))
   show(if hp.length+3<hp.length then _ else _)
   rw[if_neg (by lia),r5]
   dsimp only
   rw[Ei]
   have:hp'.take hp.length=hp:=by
    refine L5 (S:=[hp.length+2,hp.length,hp.length+3]) (ext:=[O.stream (jnL valR ps),.lst [],.inst 76 (lexFs (hp.length+1) hp.length),.lst []]) ?_ (by simp)
    refine Kp.trans ?_ k5
    have:=k4.mono (T:=[hp.length+2,hp.length,hp.length+3]) (by simp)
    rw[← hg,g,List.append_assoc] at this
    exact this
   rw[this];exact q
  generalize ht:toks ps=ws at R fin
  cases ws with
  | nil =>
   rw[show(gTok (jnL valR ps)).1=[] from R]
   refine Cn (t:=tP) (s:=bP) ⟨1,?_⟩
   exact BS (b:=false) (fun K h=>JI (w:=[]) rfl h) (fun e=>nomatch e) (fun z=>fin _ _ (Kp.refl _ _) r4)
  | cons w ws =>
   rw[R.1]
   refine Cn (t:=tP) (s:=bP) ⟨ws.length+2,?_⟩
   have hlen:ws.length<1000:=by
    have:=GA ps
    rw[ht,List.length_cons] at this;lia
   exact Jd (by lia) (by lia) (by lia) (by lia) (by lia) ws w [] _ _ hp4 (fun x hx=>Ky (ps:=ps) (by rw[ht];exact hx)) (by show 0+_<_;lia) R.2 L4 b4 r4 (fun hp' o k5 r5=>fin hp' o k5 r5) _ (by lia)
end
structure StA(N:Int)(ip il is ib jh:Nat)(ps:List Pr)(tk:List PyData)(hp:List O):Prop where
 lx:∃ n l,Lx ip hp il is n l∧n+nls l=N∧Rd l []
 tk:hp[ip]?=some (.lst tk)
 bk:Bk ib jh ps hp
 od:is<ip∧ip<il∧il<jh∧jh<ib
noncomputable def tokD(q:List (Tm×Tm)):List PyData:=q.flatMap fun x=>[dS (enc x.1),dS (enc x.2)]
section
variable{N:Int}{ip il is ib jh:Nat}{ps:List Pr}{tk tk':List PyData}{hp:List O}{Q:V→List O→Prop}{QQ:QS}{o3 o4 o5 o6:Option V}{K:Bool→List O→Prop}{vs:List (Option V)}
theorem Bk.set{k:Nat}{o:O}(B:Bk ib jh ps hp)(h1:k≠ib)(h2:k≠jh):Bk ib jh ps (hp.set k o):=by
 obtain⟨⟨fs,e,f⟩,l⟩:=B
 exact⟨⟨fs,by rw[List.getElem?_set_ne h1];exact e,f⟩,by rw[List.getElem?_set_ne h2];exact l⟩
theorem StA.setTk(S:StA N ip il is ib jh ps tk hp):StA N ip il is ib jh ps tk' (hp.set ip (.lst tk')):=by
 obtain⟨⟨n,l,L,e,r⟩,t,b,o1,o2,o3,o4⟩:=S
 exact⟨⟨n,l,L.kp (Kp.set (S:=[ip]) List.mem_cons_self) (fun h=>by have:=List.mem_singleton.mp h;lia) (fun h=>by have:=List.mem_singleton.mp h;lia),e,r⟩,AT t,b.set (Nl (T3 o2 o3 o4)) (Nl (Tl o2 o3)),o1,o2,o3,o4⟩
theorem StA.setBk(S:StA N ip il is ib jh ps tk hp)(x:Pr):StA N ip il is ib jh (ps++[x]) tk (hp.set jh (.lst (ps.map rowB++[rowB x]))):=by
 refine viaP fun z zf=>?_
 obtain⟨⟨n,l,L,e,r⟩,t,⟨⟨fs,e1,f⟩,b⟩,o1,o2,o3,o4⟩:=S
 refine zf ?_
 refine⟨⟨n,l,L.kp (Kp.set (S:=[jh]) List.mem_cons_self) (fun h=>by have:=List.mem_singleton.mp h;lia) (fun h=>by have:=List.mem_singleton.mp h;lia),e,r⟩,by rw[List.getElem?_set_ne (Ng (Tl o2 o3))];exact t,⟨⟨fs,by rw[List.getElem?_set_ne (Nl o4)];exact e1,f⟩,?_⟩,o1,o2,o3,o4⟩
 rw[List.map_append];exact AT b
theorem StA.app(S:StA N ip il is ib jh ps tk hp)(l:List O):StA N ip il is ib jh ps tk (hp++l):=by
 obtain⟨⟨n,m,⟨ne,⟨fs,a1,a2⟩,a3,a4⟩,e,r⟩,t,⟨⟨gs,e1,f⟩,b⟩,o⟩:=S
 exact⟨⟨n,m,⟨ne,⟨fs,A8 a1 _,a2⟩,A8 a3 _,a4⟩,e,r⟩,A8 t _,⟨⟨gs,A8 e1 _,f⟩,A8 b _⟩,o⟩
theorem StA.ne(S:StA N ip il is ib jh ps tk hp):hp≠[]:=by rintro rfl;cases S.tk
theorem StA.ati(S:StA N ip il is ib jh ps tk hp):atI (.r il) hp 76 fun z z=>True:=by
 obtain⟨⟨n,l,L,_⟩,_⟩:=S;exact L.at fun z=>trivial
theorem StA.pop{x:PyData}(S:StA N ip il is ib jh ps (x::tk) hp)(hz:tk.length<2 ^ 20)(q:StA N ip il is ib jh ps tk (hp.set ip (.lst tk))→Q (.d x) (hp.set ip (.lst tk))):A7 [.r il] Q hp:=by
 obtain⟨⟨n,l,L,_⟩,t,_⟩:=id S;exact Oa L t hz (q S.setTk)
theorem StA.push{x:PyData}(S:StA N ip il is ib jh ps tk hp)(hz:tk.length<2 ^ 20)(q:StA N ip il is ib jh ps (tk++[x]) (hp.set ip (.lst (tk++[x])))→Q (.d .none) (hp.set ip (.lst (tk++[x])))):AC [.r il,.d x] Q hp:=by
 obtain⟨⟨n,l,L,_⟩,t,_⟩:=id S;exact HT L t hz (q S.setTk)
noncomputable def isVb(t:Tm):Bool:=match t with | .v _=>true | _=>false
theorem isVb_iff{t:Tm}:isVb t=true↔isV t:=by cases t<;>simp[isVb,isV]
theorem isVb_not{t:Tm}:isVb t=false↔¬ isV t:=by cases t<;>simp[isVb,isV]
theorem EC{a b:List Nat}(h:mkS a=mkS b):a=b:=by cases h;rfl
theorem MH(t:Tm):([PyData.str "x", .str "y", .str "z"].any fun y=>y.eqv (dS (enc t)))=isVb t:=by
 show((("x" : Str) == mkS (enc t)) || ((("y" : Str) == mkS (enc t)) || ((("z" : Str) == mkS (enc t)) || false)))=isVb t
 by_cases h:isV t
 ·obtain⟨i,rfl⟩:=Di h;clear h;revert i;decide
 ·have k:∀ i:Fin 3,(mkS [vc i] == mkS (enc t))=false:=fun i=>beq_eq_false_iff_ne.mpr fun e=>h (by
   have:enc (.v i)=enc t:=EC e
   rw[← enc_inj' this];trivial)
  rw[show("x" : Str)=mkS [vc 0] from rfl,show("y" : Str)=mkS [vc 1] from rfl,show("z" : Str)=mkS [vc 2] from rfl,k 0,k 1,k 2]
  exact(isVb_not.mpr h).symm
theorem Ji{l:List Nat}(h:∀ c∈l,c<128):okD (dS l)=true:=by
 have:PyData.strOk (mkS l)=true:=by
  unfold PyData.strOk
  rw[List.all_toArray,List.all_eq_true]
  intro c hc
  have:=h c hc
  exact decide_eq_true (Lb this)
 unfold okD
 simp only[PyData.canLay0,this,PyData.depth]
 rfl
theorem Ht:okD (.list [.str "x", .str "y", .str "z"])=true:=by decide +kernel
theorem Nx{k:Nat}{t:Tm}(h:vs[k]?=some (some (.d (dS (enc t)))))(q:K (isVb t) hp):bCmp opIn (xVar k) (xList false (lStrs ["x", "y", "z"])) vs K hp:=by
 refine AR (A2 h ⟨(by decide:3≤sizeLine),dS (enc t),_,rfl,rfl,Ji c128,Ht,?_⟩)
 show K ([PyData.str "x", .str "y", .str "z"].any fun y=>y.eqv (dS (enc t))) hp
 rw[MH];exact q
theorem Mo{k:Nat}{t:Tm}(h:vs[k]?=some (some (.d (dS (enc t)))))(q:K (!isVb t) hp):bCmp opNotIn (xVar k) (xList false (lStrs ["x", "y", "z"])) vs K hp:=by
 refine AR (A2 h ⟨(by decide:3≤sizeLine),dS (enc t),_,rfl,rfl,Ji c128,Ht,?_⟩)
 show K (!([PyData.str "x", .str "y", .str "z"].any fun y=>y.eqv (dS (enc t)))) hp
 rw[MH];exact q
def bTell:XS:=sCons (sIf (bCmp opIn (xVar 3) (xVar 4)) (sCons (sRet cNone) sNil) sNil) (sCons (sExpr (xAddH (xVar 1) (xVar 3) (xVar 4))) (sCons (sAssign 2 (xCall Br (lCons (xVar 1) lNil))) sNil))
theorem MM{i:Fin 3}{r:Tm}{P:V}(S:StA N ip il is ib jh ps tk hp)(few:ps.length≤3)(hl:∀ x∈ps,len x.2≤50625)(hr:len r≤50625)
  (q0:occ i r→∀ vs,QQ (.ret (.d .none)) vs hp) (q1:¬ occ i r→∀ hp',StA N ip il is ib jh (ps++[(i,r)]) tk hp'→QQ .next [some (.r il),some (.r ib),some (.d (.list (flatD (prL (ps++[(i,r)]))))),some (.d (dS [vc i])),some (.d (dS (enc r))),o5,o6] hp') :
  bTell [some (.r il),some (.r ib),some P,some (.d (dS [vc i])),some (.d (dS (enc r))),o5,o6] QQ hp:=by
 refine Az (x:=decide (occ i r)) (fun K h=>AR (A2 rfl (A2 rfl ?_))) (fun h=>i_retC' (q0 (of_decide_eq_true h) _)) (fun h=>Ad ?_)
 ·show K (Txt.contains (mkS (enc r)) (ch (vc i))) hp
  rw[show Txt.contains (mkS (enc r)) (ch (vc i))=decide (vc i∈enc r) from found_one _ _];exact h
 ·obtain⟨⟨fs,e1,f⟩,ls⟩:=S.bk
  have S':=S.setBk (i,r)
  refine GW (A2 rfl (Dw e1 (A2 rfl (A2 rfl ⟨Ml i,?_⟩))))
  refine NX e1 f ls (by rw[List.length_map];exact Lb few) (Nat.le_trans hr (by decide)) ?_
  refine EW (Bp (A2 rfl (Ln S'.bk (by rw[List.length_append,List.length_singleton];exact LS few) (fun x hx=>?_) (q1 (of_decide_eq_false h) _ S'))))
  rcases List.mem_append.mp hx with hx | hx
  ·exact hl x hx
  ·rw[List.mem_singleton.mp hx];exact hr
end
section
variable{N:Int}{ip il is ib jh:Nat}{ps:List Pr}{tk tk':List PyData}{hp:List O}{Q:V→List O→Prop}{QQ:QS}{o3 o4 o5 o6:Option V}{K:Bool→List O→Prop}{vs:List (Option V)}{P:V}{l r:Tm}
def bZ:XS:=sCons (sExpr (xMeth 76 AC (xVar 0) (lCons (xVar 5) lNil) lNil)) (sCons (sExpr (xMeth 76 AC (xVar 0) (lCons (xVar 6) lNil) lNil)) sNil)
def tZ:XT:=tTuple 2 (tsCons (tName 5) (tsCons (tName 6) tsNil))
theorem Oh{j:Nat}(hj:j≠ip):∀ (x y:List Tm) (tk:List PyData) (hp:List O) (o5 o6:Option V),x.length=y.length→hp[j]?=some .own→StA N ip il is ib jh ps tk hp→tk.length+2*x.length<2 ^ 20 →
    (∀ hp' o5 o6,StA N ip il is ib jh ps (tk++tokD (x.zip y)) hp'→QQ .next [some (.r il),some (.r ib),some P,o3,o4,o5,o6] hp') →
    forZ j tZ bZ QQ (zipD (x.map fun a=>dS (enc a)) (y.map fun a=>dS (enc a))) [some (.r il),some (.r ib),some P,o3,o4,o5,o6] hp:=by
  intro x
  induction x with
  | nil =>
   intro y tk hp o5 o6 h hw S hz q
   cases y with
   | cons _ _=>cases h
   | nil =>
    have:=q hp o5 o6 (by rw[show tokD ([].zip [])=[] from rfl,List.append_nil];exact S)
    exact⟨hw,this⟩
  | cons a x ih =>
   intro y tk hp o5 o6 h hw S hz q
   cases y with
   | nil=>cases h
   | cons b y =>
    rw[List.length_cons] at hz
    refine⟨hw,rfl,?_⟩
    show bZ [some (.r il),some (.r ib),some P,o3,o4,some (.d (dS (enc a))),some (.d (dS (enc b)))] _ hp
    refine GW (DV rfl S.ati (A2 rfl (S.push (by lia) fun S1=>?_)))
    refine EV (DV rfl S1.ati (A2 rfl (S1.push (by rw[List.length_append,List.length_singleton];lia) fun S2=>?_)))
    refine ih y _ _ _ _ (Nat.succ.inj h) ?_ S2 (by rw[List.length_append,List.length_append,List.length_singleton,List.length_singleton];lia) fun hp' o5 o6 S3=>q hp' o5 o6 ?_
    · rw[List.getElem?_set_ne hj.symm,List.getElem?_set_ne hj.symm];exact hw
    · rw[List.append_assoc,List.append_assoc] at S3;exact S3
theorem char0(c:Nat)(l:List Nat):Txt.charAt (mkS (c::l)) 0=some c:=by
 unfold Txt.charAt
 rw[AH,List.length_cons,show seqIndex? 0 (l.length+1)=some 0 from by unfold seqIndex?;simp]
 rfl
def bCutE:XS:=sCons (sIf (bCmp opNe (xBin opItem (xVar 3) (cI 0)) (xBin opItem (xVar 4) (cI 0))) (sCons (sRet cNone) sNil) (sCons (sForZ tZ (lCons (xCall BV (lCons (xVar 3) lNil)) (lCons (xCall BV (lCons (xVar 4) lNil)) lNil)) bZ) sNil)) sNil
theorem Np(S:StA N ip il is ib jh ps tk hp)(hz:tk.length<2 ^ 19)(hl:len l≤50625)(hr:len r≤50625)(q0:hdc l≠hdc r→∀ vs,QQ (.ret (.d .none)) vs hp)
  (q1:hdc l=hdc r→∀ hp' o5 o6,StA N ip il is ib jh ps (tk++tokD ((kids l).zip (kids r))) hp'→QQ .next [some (.r il),some (.r ib),some P,some (.d (dS (enc l))),some (.d (dS (enc r))),o5,o6] hp') :
  bCutE [some (.r il),some (.r ib),some P,some (.d (dS (enc l))),some (.d (dS (enc r))),o5,o6] QQ hp:=by
 have at0:∀ (t:Tm) (K:V→List O→Prop),K (.d (sgD (hdc t))) hp→opItem (.d (dS (enc t))) (.d (.int 0)) K hp:=fun t K k=>Bm (by decide) (by rw[Ae];exact char0 _ _) k
 have small:∀ {t:Tm},len t≤50625→len t<2 ^ 20:=fun h=>Nat.lt_of_le_of_lt h (by decide)
 refine Az (x:=hdc l != hdc r) (fun K h=>AR (AB (A2 rfl (BN (at0 l _ (AB (A2 rfl (BN (at0 r _ ?_)))))))) ) (fun h=>i_retC' (q0 (bne_iff_ne.mp h) _)) (fun h=>?_)
 ·show K (!(ch (hdc l) == ch (hdc r))) hp
  rw[Du];exact h
 ·have h:hdc l=hdc r:=by simpa using h
  have hk:(kids l).length=(kids r).length:=by rw[AX,AX,h]
  have k2:(kids l).length≤2:=by rw[AX];exact F9
  have ho:=S.tk
  refine Bp (A2 rfl (MG (small hl) (AW (Bp (A2 rfl (MG (small hr) (Aw ?_)))))))
  refine⟨by rw[List.length_map,List.length_map];exact hk,?_⟩
  refine Oh (j:=hp.length) (fun e=>?_) (kids l) (kids r) tk _ o5 o6 hk (by simp) (S.app _) (by lia) fun hp' o5 o6 S'=>q1 h hp' o5 o6 S'
  have:=(List.getElem?_eq_some_iff.mp ho).1
  lia
end
section
variable{N:Int}{ip il is ib jh:Nat}{ps:List Pr}{tk tk':List PyData}{hp:List O}{Q:V→List O→Prop}{QQ:QS}{o3 o4 o5 o6:Option V}{K:Bool→List O→Prop}{vs:List (Option V)}{P:V}{l r:Tm}
def xTok:XE:=xCall AU (lCons (xMeth 76 A7 (xVar 0) lNil lNil) (lStar (xVar 2)))
def bMid:XS:=sCons (sIf (bCmp opNotIn (xVar 3) (xList false (lStrs ["x", "y", "z"]))) (sCons (sSwap 3 4 (xTuple (lCons (xVar 4) (lCons (xVar 3) lNil)))) sNil) sNil)
 (sCons (sIf (bCmp opIn (xVar 3) (xList false (lStrs ["x", "y", "z"]))) bTell bCutE) sNil)
def bA:XS:=sCons (sAssign 3 xTok) (sCons (sAssign 4 xTok) (sCons (sIf (bCmp opEq (xVar 3) (cS "")) (sCons (sRet (xVar 2)) sNil) sNil) (sCons (sIf (bCmp opNe (xVar 3) (xVar 4)) bMid sNil) sNil)))
theorem HW:BF=sCons (sAssign 1 (xCall DF lNil)) (sCons (sAssign 2 (xList false lNil)) (sCons (sWhile (bVal (cB true)) bA) sNil)):=rfl
theorem DY{ps:List Pr}(h:ps.length≤3):(flatD (prL ps)).length≤sizeLine:=by
 rw[Cr];unfold prL;rw[List.length_map,sizeLine_eq];lia
theorem Lv{a:Tm}(S:StA N ip il is ib jh ps (dS (enc a)::tk) hp)(hz:tk.length<2 ^ 20)(few:ps.length≤3)(hl:∀ x∈ps,len x.2≤50625)(ha:len (ap ps a)≤50625)(h0:vs[0]?=some (some (.r il)))(h2:vs[2]?=some (some (.d (.list (flatD (prL ps))))))
  (q:StA N ip il is ib jh ps tk (hp.set ip (.lst tk))→Q (.d (dS (enc (ap ps a)))) (hp.set ip (.lst tk))):xTok vs Q hp :=
 Cf (AW (C4 h0 S.ati (S.pop hz fun S'=>A2 h2 ⟨_,rfl,DY few,Kc (Nat.le_trans few (by decide)) (fun x hx=>Nat.le_trans (hl x hx) (by decide)) (Nat.le_trans ha (by decide)) (q S')⟩)))
theorem Ny{w:List Nat}{k:Nat}(h:vs[k]?=some (some (.d (dS w))))(q:K w.isEmpty hp):bCmp opEq (xVar k) (cS "") vs K hp:=by
 refine AR (A2 h ?_)
 show K (mkS w == mkS []) hp
 cases w with
 | nil=>exact q
 | cons c l=>rw[show(mkS (c::l) == mkS [])=false from beq_eq_false_iff_ne.mpr fun e=>nomatch e];exact q
theorem NC{k1 k2 i j:Nat}{p q:PyData}{s:XS}(ha:vs[i]?=some (some (.d p)))(hb:vs[j]?=some (some (.d q)))(q':s ((vs.set k2 (some (.d q))).set k1 (some (.d p))) QQ hp):sCons (sSwap k1 k2 (xTuple (lCons (xVar i) (lCons (xVar j) lNil)))) s vs QQ hp:=by
 have:xTuple (lCons (xVar i) (lCons (xVar j) lNil)) vs (fun v hp=>∃ p q:PyData,v = .d (.tuple [p,q])∧s ((vs.set k2 (some (.d q))).set k1 (some (.d p))) QQ hp) hp :=
  AW (A2 ha (AW (A2 hb (Aw ⟨(by decide:2≤sizeLine),p,q,rfl,q'⟩))))
 exact this
theorem Nm(q:(isV l→sIf (bCmp opIn (xVar 3) (xList false (lStrs ["x", "y", "z"]))) bTell bCutE [some (.r il),some (.r ib),some P,some (.d (dS (enc l))),some (.d (dS (enc r))),o5,o6] (qC sNil QQ) hp) ∧
  (¬ isV l→sIf (bCmp opIn (xVar 3) (xList false (lStrs ["x", "y", "z"]))) bTell bCutE [some (.r il),some (.r ib),some P,some (.d (dS (enc r))),some (.d (dS (enc l))),o5,o6] (qC sNil QQ) hp)) :
  bMid [some (.r il),some (.r ib),some P,some (.d (dS (enc l))),some (.d (dS (enc r))),o5,o6] QQ hp:=by
 refine Az (x := !isVb l) (fun K h=>Mo rfl h) (fun h=>?_) (fun h=>Ad (DB (q.1 (isVb_iff.mp (by simpa using h)))))
 exact NC rfl rfl (Ad (DB (q.2 (isVb_not.mp (by simpa using h)))))
theorem Lw(q1:∀ i,l = .v i→bTell vs QQ hp)(q2:¬ isV l→bCutE vs QQ hp)(h:vs[3]?=some (some (.d (dS (enc l))))):sIf (bCmp opIn (xVar 3) (xList false (lStrs ["x", "y", "z"]))) bTell bCutE vs QQ hp:=by
 refine Nx h ?_
 cases e:isVb l with
 | true=>obtain⟨i,e⟩:=Di (isVb_iff.mp e);exact q1 i e
 | false=>exact q2 (isVb_not.mp e)
theorem JG(q:List (Tm×Tm)):(tokD q).length=2*q.length:=by
 induction q with
 | nil=>rfl
 | cons x q ih=>show(tokD q).length+1+1=2*(q.length+1);rw[ih];exact rfl
theorem JH(q q':List (Tm×Tm)):tokD (q++q')=tokD q++tokD q':=List.flatMap_append
theorem Rob.few{one two:Tm}{U:List (Fin 3)}{q:List (Tm×Tm)}(R:Rob one two ps U q):∀ x∈ps,len x.2≤50625:=fun x hx=>R.len_org (R.told x hx).2
structure Nxt(one two:Tm)(N:Int)(ip il is ib jh u m:Nat)(ps:List Pr)(U:List (Fin 3))(q:List (Tm×Tm)):Prop where
 hu:U.length≤u
 hm:wn ps q≤m
 few:ps.length+U.length≤3
 hl:wl ps q≤Bd U.length
 R:Rob one two ps U q
theorem Hh{one two:Tm}{u m:Nat}{U:List (Fin 3)}{a b:Tm}{q:List (Tm×Tm)}(X:Nxt one two N ip il is ib jh u m ps U ((a,b)::q)):(tokD q).length+2<2 ^ 19:=by
 have h1:=JE ps ((a,b)::q)
 have h2:=X.hl
 have h3:=Of U.length
 rw[JG];rw[List.length_cons] at h1;lia
variable{one two:Tm}
def tTrue:XB:=bVal (cB true)
def Goes(QQ:QS)(N:Int)(ip il is ib jh:Nat)(ps:List Pr)(q:List (Tm×Tm))(n:Nat):Prop:=∀ (hp:List O) (o3 o4 o5 o6:Option V),StA N ip il is ib jh ps (tokD q) hp→whileN tTrue bA QQ n [some (.r il),some (.r ib),some (.d (.list (flatD (prL ps)))),o3,o4,o5,o6] hp
def bSel:XS:=sIf (bCmp opIn (xVar 3) (xList false (lStrs ["x", "y", "z"]))) bTell bCutE
def Sel(QQ:QS)(N:Int)(ip il is ib jh:Nat)(ps:List Pr)(q:List (Tm×Tm))(l r:Tm)(n:Nat):Prop:=∀ (hp:List O) (o5 o6:Option V),StA N ip il is ib jh ps (tokD q) hp→bSel [some (.r il),some (.r ib),some (.d (.list (flatD (prL ps)))),some (.d (dS (enc l))),some (.d (dS (enc r))),o5,o6] (qC sNil (qC sNil (qW tTrue bA QQ n))) hp
structure Ends(QQ:QS)(one two:Tm)(N:Int)(ip il is:Nat):Prop where
 q0:(∀ f,sub f one≠sub f two)→∀ vs hp,hp≠[]→QQ (.ret (.d .none)) vs hp
 q1:∀ ps U vs hp,Rob one two ps U []→ps.length≤3→Lx ip hp il is N []→QQ (.ret (.d (.list (flatD (prL ps))))) vs hp
section
variable{u m:Nat}{U:List (Fin 3)}{a b:Tm}{q:List (Tm×Tm)}
theorem KD(E:Ends QQ one two N ip il is)(X:Nxt one two N ip il is ib jh u m ps U []):Goes QQ N ip il is ib jh ps [] 1:=by
 intro hp o3 o4 o5 o6 S
 have few:ps.length≤3:=Nat.le_trans (Nat.le_add_right _ _) X.few
 have hl:=X.R.few
 have rep:∀ {Q:V→List O→Prop} {hp:List O},Q (.d (dS [])) hp→AU (.d (dS [])::(flatD (prL ps)).map .d) Q hp:=fun q=>Lm (Nat.le_trans few (by decide)) (fun x hx=>Nat.le_trans (hl x hx) (by decide)) q
 refine BS (b:=true) (fun K h=>h) (fun z=>?_) (fun e=>nomatch e)
 obtain⟨n,l,L,e,r⟩:=S.lx
 obtain⟨o1,o2,_⟩:=S.od
 have h1:ip≠il:=Nat.ne_of_lt o2
 have h2:ip≠is:=(Nat.ne_of_lt o1).symm
 refine AY (Cf (AW (C4 rfl S.ati (Kd ⟨n,l,L,e,r,h1,h2,S.tk⟩ fun hp2 k2 L2=>A2 rfl ⟨_,rfl,DY few,rep ?_⟩))))
 refine AY (Cf (AW (C4 rfl (L2.at fun z=>trivial) (Kd ⟨N,[],L2,Int.add_zero N,.inl rfl,h1,h2,(k2.2 ip (Ds h1 h2)).trans S.tk⟩ fun hp3 k3 L3=>A2 rfl ⟨_,rfl,DY few,rep ?_⟩))))
 exact Az (x:=true) (fun K h=>Ny (w:=[]) rfl h) (fun z=>M6 (A2 rfl (E.q1 _ _ _ _ X.R few L3))) (fun e=>nomatch e)
theorem Cp{n:Nat}(X:Nxt one two N ip il is ib jh u m ps U ((a,b)::q))(h:(ap ps a=ap ps b→Goes QQ N ip il is ib jh ps q n) ∧
  (ap ps a≠ap ps b→(isV (ap ps a)→Sel QQ N ip il is ib jh ps q (ap ps a) (ap ps b) n)∧(¬ isV (ap ps a)→Sel QQ N ip il is ib jh ps q (ap ps b) (ap ps a) n))):Goes QQ N ip il is ib jh ps ((a,b)::q) (n+1):=by
 intro hp o3 o4 o5 o6 S
 have few:ps.length≤3:=Nat.le_trans (Nat.le_add_right _ _) X.few
 have hl:=X.R.few
 have tf:=Hh X
 obtain⟨oa,ob⟩:=X.R.org _ List.mem_cons_self
 refine BS (b:=true) (fun K h=>h) (fun z=>?_) (fun e=>nomatch e)
 refine AY (Lv (a:=a) (tk:=dS (enc b)::tokD q) S (by rw[List.length_cons];exact Lb (Ll tf)) few hl (X.R.len_ap oa) rfl rfl fun S1=>?_)
 refine AY (Lv S1 (by lia) few hl (X.R.len_ap ob) rfl rfl fun S2=>?_)
 refine Az (x:=false) (fun K h=>Ny (w:=enc (ap ps a)) rfl (by rw[Ae];exact h)) (fun e=>nomatch e) (fun z=>Ad ?_)
 refine Az (x:=mkS (enc (ap ps a)) != mkS (enc (ap ps b))) (fun K h=>AR (A2 rfl (A2 rfl h))) (fun e=>?_) (fun e=>?_)
 ·have ne:ap ps a≠ap ps b:=fun k=>by rw[k] at e;exact bne_iff_ne.mp e rfl
  exact Nm ⟨fun hv=>((h.2 ne).1 hv) _ _ _ S2,fun hv=>((h.2 ne).2 hv) _ _ _ S2⟩
 ·have eq:ap ps a=ap ps b:=enc_inj' (EC (by simpa using e))
  exact(h.1 eq) _ _ _ _ _ S2
theorem GJ(E:Ends QQ one two N ip il is){i:Fin 3}(X:Nxt one two N ip il is ib jh u m ps U ((a,b)::q))(hi:ap ps a = .v i)(ne:ap ps b≠.v i)
  (ih:∀ U' m',U'.length<u→Nxt one two N ip il is ib jh U'.length m' (ps++[(i,ap ps b)]) U' q→∃ n,Goes QQ N ip il is ib jh (ps++[(i,ap ps b)]) q n):∃ n,Sel QQ N ip il is ib jh ps q (ap ps a) (ap ps b) n:=by
 have few:ps.length≤3:=Nat.le_trans (Nat.le_add_right _ _) X.few
 have hr:=X.R.len_ap (X.R.org _ List.mem_cons_self).2
 have go:∀ n,(¬ occ i (ap ps b)→Goes QQ N ip il is ib jh (ps++[(i,ap ps b)]) q n)→Sel QQ N ip il is ib jh ps q (ap ps a) (ap ps b) n:=by
  intro n g hp o5 o6 S
  refine Lw (l:=ap ps a) (fun j hj=>?_) (fun h=>(h (by rw[hi];trivial)).elim) rfl
  rw[hi]
  exact MM S few X.R.few hr (fun o vs=>E.q0 (X.R.ring hi ne o) vs _ S.ne) (fun o hp' S'=>g o _ _ _ _ _ S')
 by_cases ho:occ i (ap ps b)
 ·exact⟨0,go 0 fun h=>(h ho).elim⟩
 ·obtain⟨hU,R'⟩:=X.R.tell hi ho
  have le:(U.erase i).length+1=U.length:=by rw[List.length_erase_of_mem hU];have:=List.length_pos_of_mem hU;lia
  have h1:=X.hu
  have h2:=X.few
  have h3:=X.hl
  rw[BW,hi] at h3
  rw[← le] at h3
  obtain⟨n,g⟩:=ih (U.erase i) _ (Tt (Qe le) h1) ⟨Nat.le_refl _,Nat.le_refl _,by rw[List.length_append,List.length_singleton];lia,Nat.le_trans (Ko ..) (Lu (by lia) h3),R'⟩
  exact⟨n,go n fun z=>g⟩
theorem LB(E:Ends QQ one two N ip il is)(X:Nxt one two N ip il is ib jh u m ps U ((a,b)::q))(ha:¬ isV (ap ps a))(hb:¬ isV (ap ps b))
  (ih:∀ m' q',m'<m→Nxt one two N ip il is ib jh u m' ps U q'→∃ n,Goes QQ N ip il is ib jh ps q' n):∃ n,Sel QQ N ip il is ib jh ps q (ap ps a) (ap ps b) n:=by
 obtain⟨oa,ob⟩:=X.R.org _ List.mem_cons_self
 have tf:=Hh X
 have go:∀ n,(hdc (ap ps a)=hdc (ap ps b)→Goes QQ N ip il is ib jh ps (q++(kids (ap ps a)).zip (kids (ap ps b))) n)→Sel QQ N ip il is ib jh ps q (ap ps a) (ap ps b) n:=by
  intro n g hp o5 o6 S
  refine Lw (l:=ap ps a) (fun j hj=>(ha (by rw[hj];trivial)).elim) (fun w=>?_) rfl
  refine Np S (by lia) (X.R.len_ap oa) (X.R.len_ap ob) (fun o vs=>E.q0 (X.R.clash ha hb o) vs _ S.ne) (fun o hp' o5 o6 S'=>?_)
  rw[← JH] at S'
  exact g o _ _ _ _ _ S'
 by_cases h:hdc (ap ps a)=hdc (ap ps b)
 ·have R':=X.R.cut ha hb h
  have z:=J1 (ps:=ps) (x:=kids (ap ps a)) (y:=kids (ap ps b)) (fun s hs=>X.R.kid hs) (fun s hs=>X.R.kid hs)
  have l1:=I0 (ap ps a)
  have l2:=I0 (ap ps b)
  have n1:=I1 (ap ps a)
  have n2:=I1 (ap ps b)
  have h1:=X.hm
  have h2:=X.hl
  rw[DG] at h1
  rw[BW] at h2
  obtain⟨n,g⟩:=ih (wn ps (q++(kids (ap ps a)).zip (kids (ap ps b)))) _ (by rw[MZ];lia) ⟨X.hu,Nat.le_refl _,X.few,by rw[Mb];lia,R'⟩
  exact⟨n,go n fun w=>g⟩
 ·exact⟨0,go 0 fun k=>(h k).elim⟩
theorem HV(E:Ends QQ one two N ip il is)(X:Nxt one two N ip il is ib jh u m ps U q)(ihm:∀ m' q',m'<m→Nxt one two N ip il is ib jh u m' ps U q'→∃ n,Goes QQ N ip il is ib jh ps q' n)
  (ihu:∀ u' m' ps' U' q',u'<u→Nxt one two N ip il is ib jh u' m' ps' U' q'→∃ n,Goes QQ N ip il is ib jh ps' q' n):∃ n,Goes QQ N ip il is ib jh ps q n:=by
 cases q with
 | nil=>exact⟨1,KD E X⟩
 | cons x q =>
  obtain⟨a,b⟩:=x
  have Xs:Nxt one two N ip il is ib jh u m ps U ((b,a)::q):=by
   have h1:=X.hm
   have h2:=X.hl
   rw[DG] at h1
   rw[BW] at h2
   exact⟨X.hu,by rw[DG];lia,X.few,by rw[BW];lia,X.R.swap⟩
  by_cases e:ap ps a=ap ps b
  ·have h1:=X.hm
   have h2:=X.hl
   have p1:=BG (ap ps a)
   rw[DG] at h1
   rw[BW] at h2
   obtain⟨n,g⟩:=ihm (wn ps q) q (by lia) ⟨X.hu,Nat.le_refl _,X.few,Tt Lf h2,X.R.same e⟩
   exact⟨n+1,Cp X ⟨fun z=>g,fun k=>(k e).elim⟩⟩
  ·by_cases ha:isV (ap ps a)
   ·obtain⟨i,hi⟩:=Di ha
    obtain⟨n,g⟩:=GJ E X hi (fun k=>e (hi.trans k.symm)) fun U' m' hu X'=>ihu _ m' _ U' _ hu X'
    exact⟨n+1,Cp X ⟨fun k=>(e k).elim,fun z=>⟨fun z=>g,fun k=>(k ha).elim⟩⟩⟩
   ·by_cases hb:isV (ap ps b)
    ·obtain⟨i,hi⟩:=Di hb
     obtain⟨n,g⟩:=GJ E Xs hi (fun k=>e (k.trans hi.symm)) fun U' m' hu X'=>ihu _ m' _ U' _ hu X'
     exact⟨n+1,Cp X ⟨fun k=>(e k).elim,fun z=>⟨fun k=>(ha k).elim,fun z=>g⟩⟩⟩
    ·obtain⟨n,g⟩:=LB E Xs hb ha fun m' q' hm X'=>ihm m' q' hm X'
     exact⟨n+1,Cp X ⟨fun k=>(e k).elim,fun z=>⟨fun k=>(ha k).elim,fun z=>g⟩⟩⟩
theorem Kj(E:Ends QQ one two N ip il is):∀ (u m:Nat) (ps:List Pr) (U:List (Fin 3)) (q:List (Tm×Tm)),Nxt one two N ip il is ib jh u m ps U q→∃ n,Goes QQ N ip il is ib jh ps q n:=by
 intro u
 induction u using Nat.strongRecOn with
 | _ u ihu =>
  intro m
  induction m using Nat.strongRecOn with
  | _ m ihm=>exact fun ps U q X=>HV E X (fun m' q' hm X'=>ihm m' hm _ _ _ X') (fun u' m' ps' U' q' hu X'=>ihu u' hu m' _ _ _ X')
end
end
section
variable{N:Int}{ip il is:Nat}{hp:List O}{Q:V→List O→Prop}{one two:Tm}
theorem Lx.take{n:Int}{l:List Nat}{k:Nat}(L:Lx ip hp il is n l)(h1:il<k)(h2:is<k):Lx ip (hp.take k) il is n l:=by
 obtain⟨ne,⟨fs,a,b⟩,c,d⟩:=L
 exact⟨ne,⟨fs,by rw[List.getElem?_take,if_pos h1];exact a,b⟩,by rw[List.getElem?_take,if_pos h2];exact c,d⟩
theorem Lo(h1:len one≤15)(h2:len two≤15){n:Int}{l:List Nat}(L:Lx ip hp il is n l)(e:n+nls l=N)(r:Rd l [])(tk:hp[ip]?=some (.lst [dS (enc one),dS (enc two)]))(o:is<ip∧ip<il)
  (q0:(∀ f,sub f one≠sub f two)→∀ hp',hp'≠[]→Q (.d .none) hp') (q1:∀ ps U hp',Rob one two ps U []→ps.length≤3→Lx ip hp' il is N []→Q (.d (.list (flatD (prL ps)))) hp'):BL [.r il] Q hp:=by
 refine CV (vs0:=[some (.r il),none,none,none,none,none,none]) rfl rfl ?_
 rw[HW]
 have hil:il<hp.length:=by obtain⟨fs,a,_⟩:=L.ob;exact(List.getElem?_eq_some_iff.mp a).1
 have S:StA N ip il is (hp.length+1) hp.length [] (tokD [(one,two)]) (hp++[.lst [],.inst 231 [(0,.r hp.length)]]):=by
  obtain⟨ne,⟨fs,a,b⟩,c,d⟩:=L
  exact⟨⟨n,l,⟨ne,⟨fs,A8 a _,b⟩,A8 c _,d⟩,e,r⟩,A8 tk _,⟨⟨_,Fs,rfl⟩,HN⟩,o.1,o.2,hil,Nat.lt_succ_self _⟩
 have E:Ends (qC sNil (qR hp.length Q)) one two N ip il is:=⟨fun h vs hp' ne=>q0 h _ (fun e=>ne (by rcases List.take_eq_nil_iff.mp e with e | e;exact absurd hil (by lia);exact e)),fun ps U vs hp' R few L'=>q1 ps U _ R few (L'.take hil (Nat.lt_trans (Nat.lt_trans o.1 o.2) hil))⟩
 have v1:=Jy one
 have v2:=Jy two
 obtain⟨n,g⟩:=Kj (jh:=hp.length) (ib:=hp.length+1) E 3 _ [] [0,1,2] [(one,two)] ⟨Nat.le_refl _,Nat.le_refl _,Nat.le_refl _,by rw[BW];show lv one+lv two+0≤16;lia,Rob.start h1 h2⟩
 exact AY (Cf ⟨rfl,AY ⟨Nat.zero_le _,Cn ⟨n,g _ _ _ _ _ S⟩⟩⟩)
end
end Mine
namespace Mine
open PySem
noncomputable abbrev dI(c:Nat):PyData:=.int (c:Int)
theorem Hj(n:Nat):Builtin.Range.rangeSize 0 (n:Int) 1=n:=by
 unfold Builtin.Range.rangeSize
 rw[if_pos (by decide)]
 by_cases h:n=0
 ·rw[h];rfl
 ·rw[if_pos (by lia),Int.ediv_one];lia
theorem En(n:Nat):Builtin.Range.rangeSize ((n:Int)-1) (-1) (-1)=n:=by
 unfold Builtin.Range.rangeSize
 rw[if_neg (by decide)]
 by_cases h:n=0
 ·rw[h];rfl
 ·rw[if_pos (by lia)]
  show((n:Int)-1 - -1-1) / 1+1=n
  rw[Int.ediv_one];lia
theorem EL(n:Nat):rangeL 0 (n:Int) 1=(List.range n).map dI:=by
 unfold rangeL
 rw[Hj,Int.toNat_natCast]
 exact List.map_congr_left fun k z=>congrArg PyData.int (by rw[Int.one_mul,Int.zero_add])
theorem H7(n:Nat):rangeL ((n:Int)-1) (-1) (-1)=((List.range n).reverse).map dI:=by
 unfold rangeL
 rw[En,Int.toNat_natCast]
 apply List.ext_getElem
 ·simp
 ·intro i h1 h2
  simp at h1 h2
  simp
  lia
theorem fits{x:Int}(h1 : -500000≤x)(h2:x≤500000):Builtin.Range.rangeFitsLong x=true:=by
 unfold Builtin.Range.rangeFitsLong
 simp;lia
theorem EK(n:Nat)(h:n≤100000):Builtin.Range.small 0 n 1=true:=by
 unfold Builtin.Range.small
 rw[Hj,fits (x:=0) (by decide) (by decide),fits (x:=(n:Int)) (by lia) (by lia),fits (x:=1) (by decide) (by decide),if_pos (by decide),fits (x:=(n:Int)+(1-1)) (by lia) (by lia),Bool.or_true];rfl
theorem JM(n:Nat)(h:n≤100000):Builtin.Range.small ((n:Int)-1) (-1) (-1)=true:=by
 unfold Builtin.Range.small
 rw[En,fits (x:=(n:Int)-1) (by lia) (by lia),fits (x:=(n:Int)) (by lia) (by lia),fits (x := -1) (by decide) (by decide),if_neg (by decide),fits (x := -1+(-1+1)) (by decide) (by decide),Bool.or_true];rfl
end Mine
namespace Mine
open PySem PySem.StrLaws
structure Nod(tms:List Tm)(pts:List (List Nat)):Prop where
 ln:pts.length=tms.length
 v3:∀ i:Fin 3,tms[i.val]?=some (.v i)
 nv:∀ (c:Nat) (t:Tm),3≤c→tms[c]?=some t→¬ isV t
 kd:∀ (c:Nat) (t:Tm),tms[c]?=some t→∃ l,pts[c]?=some l∧l.map (tms[·]?)=(kids t).map some
 sz:∀ t∈tms,len t≤15
theorem Nod.start:Nod [.v 0,.v 1,.v 2] [[],[],[]]:=by
 refine⟨rfl,fun i=>?_,fun c t hc e=>?_,fun c t e=>?_,fun t h=>?_⟩
 ·have:i=0∨i=1∨i=2:=by revert i;decide
  rcases this with rfl | rfl | rfl<;>rfl
 ·rw[List.getElem?_eq_none (by exact hc)] at e;cases e
 ·match c,e with
  | 0,e=>cases e;exact⟨[],rfl,rfl⟩
  | 1,e=>cases e;exact⟨[],rfl,rfl⟩
  | 2,e=>cases e;exact⟨[],rfl,rfl⟩
  | _+3,e=>cases e
 ·simp only[List.mem_cons,List.not_mem_nil,or_false] at h
  rcases h with rfl | rfl | rfl<;>exact(by decide:1≤15)
theorem Gs{tms:List Tm}{t s:Tm}{k:Nat}(h:tms[k]?=some s):(tms++[t])[k]?=some s:=by
 rw[List.getElem?_append_left (List.getElem?_eq_some_iff.mp h).1];exact h
theorem Gr{tms:List Tm}{t:Tm}:∀ {l:List Nat} {ks:List Tm},l.map (tms[·]?)=ks.map some→l.map ((tms++[t])[·]?)=ks.map some
 | [],[],_=>rfl
 | [],_::_,h=>nomatch h
 | _::_,[],h=>nomatch h
 | a::l,b::ks,h=>by
  obtain⟨p,q⟩:=List.cons.inj h
  rw[List.map_cons,List.map_cons,Gr q,Gs p]
theorem DT{α:Type}(l:List α)(a:α):(l++[a])[l.length]?=some a:=by simp
theorem Nod.more{tms:List Tm}{pts:List (List Nat)}(N:Nod tms pts){t:Tm}{l:List Nat}(hv:¬ isV t)(hs:len t≤15)(hk:l.map (tms[·]?)=(kids t).map some):Nod (tms++[t]) (pts++[l]):=by
 refine⟨by rw[List.length_append,List.length_append,N.ln];rfl,fun i=>Gs (N.v3 i),fun c s hc e=>?_,fun c s e=>?_,fun s h=>?_⟩
 ·rcases Nat.lt_trichotomy c tms.length with h | h | h
  ·rw[List.getElem?_append_left h] at e;exact N.nv c s hc e
  ·rw[h,DT] at e;cases e;exact hv
  ·rw[List.getElem?_eq_none (by rw[List.length_append];exact h)] at e;cases e
 ·rcases Nat.lt_trichotomy c tms.length with h | h | h
  ·rw[List.getElem?_append_left h] at e
   obtain⟨m,e1,e2⟩:=N.kd c s e
   exact⟨m,by rw[List.getElem?_append_left (by rw[N.ln];exact h)];exact e1,Gr e2⟩
  ·rw[h,DT] at e
   cases e
   exact⟨l,by rw[h,← N.ln];exact DT _ _,Gr hk⟩
  ·rw[List.getElem?_eq_none (by rw[List.length_append];exact h)] at e;cases e
 ·rcases List.mem_append.mp h with h | h
  ·exact N.sz s h
  ·rw[List.mem_singleton.mp h];exact hs
noncomputable abbrev sgT(t:Tm):PyData:=sgD (hdc t)
noncomputable abbrev dL(l:List Nat):PyData:=.list (l.map dI)
structure Bld(i0:Nat)(x0:O)(a b c p L:Nat)(tms:List Tm)(pts:List (List Nat))(P:List Nat)(tops:List Nat)(hp:List O):Prop where
 N:Nod tms pts
 k0:hp[i0]?=some x0
 sg:hp[a]?=some (.lst (tms.map sgT))
 pt:hp[b]?=some (.lst (pts.map dL))
 tp:hp[c]?=some (.lst (tops.map dI))
 pl:hp[p]?=some (.lst (P.map dI))
 ln:hp.length=L
 od:i0<a∧a<b∧b<c∧c<p∧p<L
section
variable{a b c p L:Nat}{tms:List Tm}{pts:List (List Nat)}{P tops:List Nat}{hp:List O}{Q:V→List O→Prop}{QQ:QS}{K:Bool→List O→Prop}{vs:List (Option V)}
theorem Jl{i:Nat}{l:List PyData}{x:PyData}(h:hp[i]?=some (.lst (l++[x])))(hl:(l++[x]).length≤sizeLine)(q:Q (.d x) (hp.set i (.lst l))):(lget (.r i) hp).isSome=true∧mPop (.r i) [] Q hp:=by
 refine⟨B8 h,?_⟩
 unfold mPop
 dsimp only
 refine DD h ?_
 rw[List.getLast?_concat]
 exact⟨hl,by rw[List.dropLast_concat];exact q⟩
theorem KZ{i p:Nat}(hip:p≠i)(hv:vs[5]?=some (some (.r p))):∀ (cs:List Nat) (xs:List PyData) (acc:List PyData) (P:List PyData) (hp:List O) (o:Option V) (F:List PyData→List O→Prop),xs.length=cs.length→hp[i]?=some (.lst acc)→hp[p]?=some (.lst (P++(cs.map dI).reverse)) →
    acc.length+cs.length≤1000→P.length+cs.length≤1000→F (acc++cs.map dI) ((hp.set p (.lst P)).set i (.lst (acc++cs.map dI)))→compL none i (tName 0) iNil (xMethL mPop (xVar 6) lNil) F xs (o::vs) hp:=by
  intro cs
  induction cs with
  | nil =>
   intro xs acc P hp o F h h1 h2 z1 z2 q
   cases xs with
   | cons _ _=>cases h
   | nil =>
    have e1:hp.set p (.lst P)=hp:=by
      rw[List.map_nil,List.reverse_nil,List.append_nil] at h2
      obtain⟨hl,e⟩:=List.getElem?_eq_some_iff.mp h2
      rw[← e];exact List.set_getElem_self hl
    have e2:hp.set i (.lst acc)=hp:=by
      obtain⟨hl,e⟩:=List.getElem?_eq_some_iff.mp h1
      rw[← e];exact List.set_getElem_self hl
    rw[e1,List.map_nil,List.append_nil,e2] at q
    exact⟨trivial,DD h1 q⟩
  | cons c cs ih =>
   intro xs acc P hp o F h h1 h2 z1 z2 q
   cases xs with
   | nil=>cases h
   | cons x xs =>
    rw[List.length_cons] at z1 z2
    refine⟨trivial,?_⟩
    rw[List.map_cons,List.reverse_cons,← List.append_assoc] at h2
    refine Aq (A2 (k:=6) (v:=.r p) hv ⟨B8 h2,Aw (Jl h2 ?_ ?_)⟩)
    · rw[sizeLine_eq,List.length_append,List.length_append,List.length_reverse,List.length_map,List.length_singleton];exact Lb z2
    · have g1:(hp.set p (.lst (P++(cs.map dI).reverse)))[i]?=some (.lst acc):=by rw[List.getElem?_set_ne hip];exact h1
      refine Cd g1 (by rw[sizeLine_eq];exact Lb (Tt Lr z1)) ?_
      refine ih xs (acc++[dI c]) P _ _ F (Nat.succ.inj h) (AT g1) ?_ (by rw[List.length_append,List.length_singleton];lia) (Ll z2) ?_
      · rw[List.getElem?_set_ne hip.symm];exact AT h2
      · rw[List.append_assoc]
        have:(((hp.set p (.lst (P++(cs.map dI).reverse))).set i (.lst (acc++[dI c]))).set p (.lst P)).set i (.lst (acc++([dI c]++cs.map dI)))=(hp.set p (.lst P)).set i (.lst (acc++(dI c::cs.map dI))):=by
          rw[List.set_comm _ _ hip.symm,List.set_set,List.set_set];rfl
        rw[this];exact q
end
theorem KL:∀ i:Fin 3,Txt.find "xyz" (ch (vc i))=(i.val:Int):=by decide +kernel
def bPop:XE:=xComp false 1 (tName 0) (xCall fRange (lCons (xCall AQ (lCons (xBin opItem (xVar 4) (xVar 6)) lNil)) lNil)) iNil (xMethL mPop (xVar 6) lNil)
def bK:XS:=sCons (sIf (bCmp opIn (xBin opItem (xVar 4) (xVar 6)) (cS "xyz")) (sCons (sExpr (xMethL mAppend (xVar 5) (lCons (xMethS mFind (cS "xyz") (lCons (xBin opItem (xVar 4) (xVar 6)) lNil)) lNil))) sNil)
 (sCons (sExpr (xMethL mAppend (xVar 2) (lCons bPop lNil))) (sCons (sExpr (xMethL mAppend (xVar 1) (lCons (xBin opItem (xVar 4) (xVar 6)) lNil))) (sCons (sExpr (xMethL mAppend (xVar 5) (lCons (xBin opSub (xCall fLen (lCons (xVar 1) lNil)) (cI 1)) lNil))) sNil)))) sNil
theorem Mm{c:Nat}(h:c<120):vcB c=false:=by unfold vcB;simp;lia
section
variable{i0:Nat}{x0:O}{a b c p L:Nat}{tms:List Tm}{pts:List (List Nat)}{P tops cs:List Nat}{hp:List O}{Q:V→List O→Prop}{QQ:QS}{T:Option V}{tl:List (Option V)}{w:Str}{k:Int}{t:Tm}
noncomputable abbrev fr(T:Option V)(a b c p:Nat)(w:Str)(o6:Option V)(tl:List (Option V)):List (Option V):=T::some (.r a)::some (.r b)::some (.r c)::some (.d (.str w))::some (.r p)::o6::tl
theorem Nk(hp5:hp[p]?=some (.lst (P.map dI++(cs.map dI).reverse)))(z:P.length+cs.length≤500)(hr : -2 ^ 63≤k∧k<2 ^ 63)(hc:Txt.charAt w k=some (hdc t))(hk:cs.length=ar (hdc t))(q:Q (.d (dL cs)) (hp.set p (.lst (P.map dI)))) :
  bPop (fr T a b c p w (some (.d (.int k))) tl) Q hp:=by
 have hpl:p<hp.length:=(List.getElem?_eq_some_iff.mp hp5).1
 refine Bp (Bp (AB (A2 rfl (A2 rfl (Bm hr hc (IF ?_))))))
 rw[← hk]
 refine⟨EK _ (Lb (Tt Lf z)),?_⟩
 rw[EL]
 refine KZ (i:=hp.length) (p:=p) (Nat.ne_of_lt hpl) rfl cs _ [] (P.map dI) _ none (compEnd false hp.length Q) (by rw[List.length_map,List.length_range]) (by simp) (A8 hp5 _) (by rw[List.length_nil];lia) (by rw[List.length_map];exact Lb z) ?_
 show Q (.d (dL cs)) (List.take _ _)
 rw[List.set_append_left _ _ hpl,List.set_append_right _ _ (by rw[List.length_set];exact Nat.le_refl _),List.take_left' (by rw[List.length_set])]
 exact q
theorem AD{i j:Nat}{o o':O}(h:i≠j)(e:hp[j]?=some o):(hp.set i o')[j]?=some o:=by rw[List.getElem?_set_ne h];exact e
theorem MJ(B:Bld i0 x0 a b c p L tms pts (P++cs.reverse) tops hp)(hk:cs.map (tms[·]?)=(kids t).map some)(hs:len t≤15)(z1:tms.length≤300)(z2:P.length≤300)(hr : -2 ^ 63≤k∧k<2 ^ 63)(hc:Txt.charAt w k=some (hdc t))
  (q:∀ (tms':List Tm) (pts':List (List Nat)) (x:Nat) (hp':List O),(∀ (j:Nat) (s:Tm),tms[j]?=some s→tms'[j]?=some s)→tms'[x]?=some t→tms'.length≤tms.length+1→Bld i0 x0 a b c p L tms' pts' (P++[x]) tops hp'→QQ .next (fr T a b c p w (some (.d (.int k))) tl) hp') :
  bK (fr T a b c p w (some (.d (.int k))) tl) QQ hp:=by
 obtain⟨o0,o1,o2,o3,o4⟩:=B.od
 have hcl:cs.length=ar (hdc t):=by have:=congrArg List.length hk;rwa[List.length_map,List.length_map,AX] at this
 have hca:=F9 (c:=hdc t)
 have h128:hdc t<128:=(c128 (hdc t) (by rw[Ae];exact List.mem_cons_self))
 have hpl:=B.pl
 rw[List.map_append,List.map_reverse] at hpl
 have zP:(P.map dI).length≤sizeLine:=by rw[List.length_map,sizeLine_eq];exact Lb z2
 refine Az (x:=vcB (hdc t)) (fun K h=>AR (AB (A2 rfl (A2 rfl (Bm hr hc (Cw ?_)))))) (fun hv=>?_) (fun hv=>?_)
 ·show K (Txt.contains "xyz" (ch (hdc t))) hp
  rw[K6 ⟨hdc t,h128⟩];exact h
 ·have iv:isV t:=Classical.byContradiction fun h=>by rw[Mm (Jp h)] at hv;cases hv
  obtain⟨i,rfl⟩:=Di iv
  have:cs=[]:=List.eq_nil_of_length_eq_zero (hcl.trans (Ly i))
  subst this
  rw[List.map_nil,List.reverse_nil,List.append_nil] at hpl
  refine EV (Aq (A2 rfl ⟨B8 hpl,AW (Co (fun K k=>Cw k) (AW (AB (A2 rfl (A2 rfl (Bm hr hc (Aw (Jn ?_))))))))⟩))
  rw[show Txt.find "xyz" (ch (hdc (.v i)))=(i.val:Int) from KL i]
  refine Aw (Cd hpl zP (Ad (q tms pts i.val _ (fun j s h=>h) (B.N.v3 i) (Nat.le_succ _) ⟨B.N,AD (Ng (T4 o0 o1 o2 o3)) B.k0,AD (Ng (T3 o1 o2 o3)) B.sg,AD (Ng (Tl o2 o3)) B.pt,AD (Ng o3) B.tp,?_,by rw[List.length_set];exact B.ln,B.od⟩)))
  rw[List.map_append];exact AT hpl
 ·have iv:¬ isV t:=fun h=>by obtain⟨i,rfl⟩:=Di h;rw[show hdc (.v i)=vc i from rfl,Gq] at hv;cases hv
  have N':=B.N.more iv hs hk
  have zT:(tms.map sgT).length≤sizeLine:=by rw[List.length_map,sizeLine_eq];exact Lb z1
  have zB:(pts.map dL).length≤sizeLine:=by rw[List.length_map,B.N.ln,sizeLine_eq];exact Lb z1
  refine GW (Aq (A2 rfl ⟨B8 B.pt,AW (Nk (t:=t) hpl (by lia) hr hc hcl (Aw ?_))⟩))
  have b1:(hp.set p (.lst (P.map dI)))[b]?=some (.lst (pts.map dL)):=AD (Ng (Tl o2 o3)) B.pt
  have a1:(hp.set p (.lst (P.map dI)))[a]?=some (.lst (tms.map sgT)):=AD (Ng (T3 o1 o2 o3)) B.sg
  have c1:(hp.set p (.lst (P.map dI)))[c]?=some (.lst (tops.map dI)):=AD (Ng o3) B.tp
  have k1:(hp.set p (.lst (P.map dI)))[i0]?=some x0:=AD (Ng (T4 o0 o1 o2 o3)) B.k0
  have p1:(hp.set p (.lst (P.map dI)))[p]?=some (.lst (P.map dI)):=AT hpl
  have l1:(hp.set p (.lst (P.map dI))).length=L:=by rw[List.length_set];exact B.ln
  generalize hp.set p (.lst (P.map dI))=h1 at b1 a1 c1 p1 k1 l1 ⊢
  refine Cd b1 zB ?_
  have b2:(h1.set b (.lst (pts.map dL++[dL cs])))[b]?=some (.lst (pts.map dL++[dL cs])):=AT b1
  have a2:(h1.set b (.lst (pts.map dL++[dL cs])))[a]?=some (.lst (tms.map sgT)):=AD (Ng o1) a1
  have c2:(h1.set b (.lst (pts.map dL++[dL cs])))[c]?=some (.lst (tops.map dI)):=AD (Nl o2) c1
  have k2:(h1.set b (.lst (pts.map dL++[dL cs])))[i0]?=some x0:=AD (Ng (Tl o0 o1)) k1
  have p2:(h1.set b (.lst (pts.map dL++[dL cs])))[p]?=some (.lst (P.map dI)):=AD (Nl (Tl o2 o3)) p1
  have l2:(h1.set b (.lst (pts.map dL++[dL cs]))).length=L:=by rw[List.length_set];exact l1
  generalize h1.set b (.lst (pts.map dL++[dL cs]))=h2 at b2 a2 c2 p2 k2 l2 ⊢
  refine GW (Aq (A2 rfl ⟨B8 a2,AW (AB (A2 rfl (A2 rfl (Bm hr hc (Aw (Cd a2 zT ?_))))))⟩))
  have a3:(h2.set a (.lst (tms.map sgT++[sgT t])))[a]?=some (.lst (tms.map sgT++[sgT t])):=AT a2
  have b3:(h2.set a (.lst (tms.map sgT++[sgT t])))[b]?=some (.lst (pts.map dL++[dL cs])):=AD (Nl o1) b2
  have c3:(h2.set a (.lst (tms.map sgT++[sgT t])))[c]?=some (.lst (tops.map dI)):=AD (Nl (Tl o1 o2)) c2
  have k3:(h2.set a (.lst (tms.map sgT++[sgT t])))[i0]?=some x0:=AD (Ng o0) k2
  have p3:(h2.set a (.lst (tms.map sgT++[sgT t])))[p]?=some (.lst (P.map dI)):=AD (Nl (T3 o1 o2 o3)) p2
  have l3:(h2.set a (.lst (tms.map sgT++[sgT t]))).length=L:=by rw[List.length_set];exact l2
  generalize h2.set a (.lst (tms.map sgT++[sgT t]))=h3 at a3 b3 c3 p3 k3 l3 ⊢
  refine EV (Aq (A2 rfl ⟨B8 p3,AW (AB (Bp (A2 rfl ?_)))⟩))
  unfold fLen
  dsimp only
  rw[BY a3]
  dsimp only
  refine⟨by rw[List.length_append,List.length_map,List.length_singleton];lia,?_⟩
  have e:((tms.map sgT++[sgT t]).length:Int)-1=(tms.length:Int):=by rw[List.length_append,List.length_map,List.length_singleton];lia
  refine BN (M2 (Aw ?_))
  show(lget (.r p) h3).isSome=true∧mAppend (.r p) [.d (.int (((tms.map sgT++[sgT t]).length:Int)-1))] _ h3
  rw[e]
  refine Cd p3 zP (Ad (q (tms++[t]) (pts++[cs]) tms.length _ (fun j s h=>Gs h) (DT _ _) (by rw[List.length_append];exact Nat.le_refl _) ⟨N',AD (Ng (T4 o0 o1 o2 o3)) k3,?_,?_,AD (Ng o3) c3,?_,by rw[List.length_set];exact l3,B.od⟩))
  ·rw[List.map_append];exact AD (Ng (T3 o1 o2 o3)) a3
  ·rw[List.map_append];exact AD (Ng (Tl o2 o3)) b3
  ·rw[List.map_append];exact AT p3
end
def Keeps(tms tms':List Tm):Prop:=∀ (j:Nat) (s:Tm),tms[j]?=some s→tms'[j]?=some s
section
variable{i0:Nat}{x0:O}{a b c p L:Nat}{tops:List Nat}{Q:V→List O→Prop}{QQ:QS}{T:Option V}{tl:List (Option V)}{w:Str}
theorem Gf(ts:List Tm)(t:Tm):((ts++[t]).flatMap enc).reverse=((kids t).flatMap enc).reverse++hdc t::(ts.flatMap enc).reverse:=by
 rw[List.flatMap_append,List.reverse_append,List.flatMap_singleton,Ae,List.reverse_cons,List.append_assoc];rfl
theorem Na:∀ (n:Nat) (ts:List Tm) (xs:List (Int×Nat)) (rest:List PyData) (tms:List Tm) (pts:List (List Nat)) (P:List Nat) (hp:List O) (o6:Option V),xs.length≤n→xs.map (·.2)=(ts.flatMap enc).reverse →
  (∀ x∈xs,(-2 ^ 63≤x.1∧x.1<2 ^ 63)∧Txt.charAt w x.1=some x.2)→(∀ t∈ts,len t≤15)→tms.length+xs.length≤300→P.length+xs.length≤300→Bld i0 x0 a b c p L tms pts P tops hp →
  (∀ (tms':List Tm) (pts':List (List Nat)) (cs:List Nat) (hp':List O) (o6':Option V),Keeps tms tms'→cs.map (tms'[·]?)=ts.map some→tms'.length≤tms.length+xs.length→Bld i0 x0 a b c p L tms' pts' (P++cs.reverse) tops hp' →
   forL none (tName 6) bK QQ rest (fr T a b c p w o6' tl) hp') →
  forL none (tName 6) bK QQ (xs.map (fun x=>PyData.int x.1)++rest) (fr T a b c p w o6 tl) hp:=by
 intro n
 induction n with
 | zero =>
  intro ts xs rest tms pts P hp o6 hn hx hc hs z1 z2 B q
  have e:xs=[]:=List.eq_nil_of_length_eq_zero (Nat.le_zero.mp hn)
  subst e
  rcases List.eq_nil_or_concat ts with rfl | ⟨ts',t,rfl⟩
  ·exact q tms pts [] hp o6 (fun j s h=>h) rfl (Nat.le_refl _) (by rw[List.reverse_nil,List.append_nil];exact B)
  ·rw[List.concat_eq_append,Gf] at hx
   exact absurd (congrArg List.length hx) (by rw[List.length_append,List.length_cons];show 0≠_;lia)
 | succ n ih =>
  intro ts xs rest tms pts P hp o6 hn hx hc hs z1 z2 B q
  rcases List.eq_nil_or_concat ts with rfl | ⟨ts',t,rfl⟩
  ·have e:xs=[]:=List.map_eq_nil_iff.mp hx
   subst e
   exact q tms pts [] hp o6 (fun j s h=>h) rfl (Nat.le_refl _) (by rw[List.reverse_nil,List.append_nil];exact B)
  ·rw[List.concat_eq_append] at hx hs q
   rw[Gf] at hx
   obtain⟨x1,x2,rfl,e1,e2⟩:=List.map_eq_append_iff.mp hx
   obtain⟨y,x2,rfl,e3,e4⟩:=List.map_eq_cons_iff.mp e2
   rw[List.length_append,List.length_cons] at hn z1 z2
   have ht:len t≤15:=hs t (List.mem_append_right _ List.mem_cons_self)
   obtain⟨y1,y2⟩:=hc y (List.mem_append_right _ List.mem_cons_self)
   rw[List.map_append,List.map_cons,List.append_assoc,List.cons_append]
   refine ih (kids t) x1 _ tms pts P hp o6 (by lia) e1 (fun x h=>hc x (List.mem_append_left _ h)) (fun s h=>Nat.le_trans (Nat.le_of_lt (CS h)) ht) (by lia) (by lia) B fun tms1 pts1 cs1 hp1 o1 k1 m1 l1 B1=>?_
   refine Bh trivial (MJ B1 m1 ht (by lia) (Tt Lr z2) y1 (by rw[y2,e3]) fun tms2 pts2 x hp2 k2 m2 l2 B2=>?_)
   refine ih ts' x2 rest tms2 pts2 (P++[x]) hp2 _ (by lia) e4 (fun z h=>hc z (List.mem_append_right _ (List.mem_cons_of_mem _ h))) (fun s h=>hs s (List.mem_append_left _ h)) (by lia) (by rw[List.length_append,List.length_singleton];lia) B2 fun tms3 pts3 cs3 hp3 o3 k3 m3 l3 B3=>?_
   refine q tms3 pts3 (cs3++[x]) hp3 o3 (fun j s h=>k3 j s (k2 j s (k1 j s h))) ?_ (by rw[List.length_append,List.length_cons];lia) ?_
   ·rw[List.map_append,List.map_append,m3,List.map_singleton,List.map_singleton,k3 x t m2]
   ·rw[List.reverse_append,← List.append_assoc];exact B3
theorem IE{l:List Nat}{k:Nat}(h:k<l.length):Txt.charAt (mkS l) (k:Int)=some l[k]:=by
 unfold Txt.charAt
 have:seqIndex? (k:Int) (mkS l).length=some k:=by rw[AH];unfold seqIndex?;simp;lia
 rw[this]
 show l.toArray[k]?=_
 rw[List.getElem?_toArray,List.getElem?_eq_getElem h]
theorem Kg{t:Tm}{tms:List Tm}{pts:List (List Nat)}{hp:List O}{o6:Option V}(hs:len t≤15)(z:tms.length≤100)(B:Bld i0 x0 a b c p L tms pts [] tops hp)
  (q:∀ (tms':List Tm) (pts':List (List Nat)) (x:Nat) (hp':List O) (o6':Option V),Keeps tms tms'→tms'[x]?=some t→tms'.length≤tms.length+15→Bld i0 x0 a b c p L tms' pts' [x] tops hp'→QQ .next (fr T a b c p (mkS (enc t)) o6' tl) hp') :
  forL none (tName 6) bK QQ (((List.range (enc t).length).reverse).map dI) (fr T a b c p (mkS (enc t)) o6 tl) hp:=by
 have hlen:(enc t).length≤15:=hs
 have e:((List.range (enc t).length).reverse).map dI=(((List.range (enc t).length).reverse).map fun k:Nat=>((k:Int),(enc t).getD k 0)).map (fun x=>PyData.int x.1)++[]:=by rw[List.map_map,List.append_nil];rfl
 rw[e]
 refine Na (enc t).length [t] _ [] tms pts [] hp o6 (by rw[List.length_map,List.length_reverse,List.length_range];exact Nat.le_refl _) ?_ ?_ (fun s h=>by rw[List.mem_singleton.mp h];exact hs) (by rw[List.length_map,List.length_reverse,List.length_range];lia) (by rw[List.length_map,List.length_reverse,List.length_range];show 0+_≤_;lia) B fun tms' pts' cs hp' o6' k m l B'=>?_
 ·rw[List.flatMap_singleton,List.map_map,List.map_reverse]
  congr 1
  apply List.ext_getElem
  ·rw[List.length_map,List.length_range]
  ·intro i h1 h2
   rw[List.getElem_map,List.getElem_range]
   show(enc t).getD i 0=_
   rw[List.getD_eq_getElem?_getD,List.getElem?_eq_getElem h2];rfl
 ·intro x hx
  obtain⟨k,hk,rfl⟩:=List.mem_map.mp hx
  have hk:k<(enc t).length:=List.mem_range.mp (List.mem_reverse.mp hk)
  refine⟨by show -2 ^ 63≤(k:Int)∧(k:Int)<2 ^ 63;lia,?_⟩
  rw[IE hk,List.getD_eq_getElem?_getD,List.getElem?_eq_getElem hk];rfl
 ·rw[List.length_map,List.length_reverse,List.length_range] at l
  obtain⟨x,rfl⟩:=len1 (l:=cs) (by have:=congrArg List.length m;rwa[List.length_map,List.length_map] at this)
  exact⟨trivial,q tms' pts' x hp' o6' k (List.cons.inj m).1 (by lia) B'⟩
end
structure Bl0(i0:Nat)(x0:O)(a b c L:Nat)(tms:List Tm)(pts:List (List Nat))(tops:List Nat)(hp:List O):Prop where
 N:Nod tms pts
 k0:hp[i0]?=some x0
 sg:hp[a]?=some (.lst (tms.map sgT))
 pt:hp[b]?=some (.lst (pts.map dL))
 tp:hp[c]?=some (.lst (tops.map dI))
 ln:hp.length=L
 od:i0<a∧a<b∧b<c∧c<L
def bTop:XS:=sCons (sAssign 5 (xList true lNil)) (sCons (sFor (tName 6) (xCall fRange (lCons (xBin opSub (xCall fLen (lCons (xVar 4) lNil)) (cI 1)) (lCons (xNeg (cI 1)) (lCons (xNeg (cI 1)) lNil)))) bK)
 (sCons (sExpr (xMethL mAppend (xVar 3) (lCons (xMethL mPop (xVar 5) lNil) lNil))) sNil))
section
variable{i0:Nat}{x0:O}{a b c L:Nat}{tops:List Nat}{tms:List Tm}{pts:List (List Nat)}{Q:V→List O→Prop}{QQ:QS}{T o5 o6:Option V}{tl:List (Option V)}{hp:List O}{t:Tm}
theorem K9{vs:List (Option V)}(q:Q (.d (.int (-1))) hp):xNeg (cI 1) vs Q hp:=q
theorem J6(hs:len t≤15)(z:tms.length≤100)(zt:tops.length≤100)(B:Bl0 i0 x0 a b c L tms pts tops hp)
  (q:∀ (tms':List Tm) (pts':List (List Nat)) (x:Nat) (hp':List O) (o5 o6:Option V),Keeps tms tms'→tms'[x]?=some t→tms'.length≤tms.length+15→Bl0 i0 x0 a b c (L+1) tms' pts' (tops++[x]) hp'→QQ .next (T::some (.r a)::some (.r b)::some (.r c)::some (.d (dS (enc t)))::o5::o6::tl) hp') :
  bTop (T::some (.r a)::some (.r b)::some (.r c)::some (.d (dS (enc t)))::o5::o6::tl) QQ hp:=by
 obtain⟨N,k0,sg,pt,tp,ln,d0,d1,d2,d3⟩:=B
 refine AY ⟨Nat.zero_le _,?_⟩
 unfold mkL
 dsimp only
 rw[ln]
 have hl:(enc t).length≤15:=hs
 have B1:Bld i0 x0 a b c L (L+1) tms pts [] tops (hp++[.lst []]):=⟨N,A8 k0 _,A8 sg _,A8 pt _,A8 tp _,by rw[← ln];simp,by rw[List.length_append,ln];rfl,d0,d1,d2,d3,Nat.lt_succ_self _⟩
 refine E0 (Cf (AW (AB (Bp (A2 rfl ⟨by rw[AH];lia,BN (M2 (AW (K9 (AW (K9 (Aw ⟨by decide,by decide,?_⟩))))))⟩)))))
 rw[AH]
 refine⟨JM _ (Lb hs),?_⟩
 rw[H7]
 refine Kg (T:=T) (p:=L) hs z B1 fun tms' pts' x hp' o6' k m l B'=>Ad ?_
 have pl:=B'.pl
 refine EV (Aq (A2 rfl ⟨B8 B'.tp,AW (Aq (A2 rfl ⟨B8 pl,Aw (Jl (l:=[]) pl (by rw[sizeLine_eq];exact(by decide:1≤16777216)) (Aw ?_))⟩))⟩))
 have tp2:(hp'.set L (.lst []))[c]?=some (.lst (tops.map dI)):=AD (Ng d3) B'.tp
 refine Cd tp2 (by rw[List.length_map,sizeLine_eq];exact Lb zt) (q tms' pts' x _ _ _ k m l ⟨B'.N,AD (Ng (T3 d0 d1 d2)) (AD (Ng (T4 d0 d1 d2 d3)) B'.k0),AD (Ng (Tl d1 d2)) (AD (Ng (T3 d1 d2 d3)) B'.sg),AD (Ng d2) (AD (Ng (Tl d2 d3)) B'.pt),?_,by rw[List.length_set,List.length_set];exact B'.ln,d0,d1,d2,Nat.lt_succ_of_lt d3⟩)
 rw[List.map_append];exact AT tp2
theorem Kk{one two:Tm}(h1:len one≤15)(h2:len two≤15)(B:Bl0 i0 x0 a b c L [.v 0,.v 1,.v 2] [[],[],[]] [] hp){o4:Option V}
  (q:∀ (tms:List Tm) (pts:List (List Nat)) (x y:Nat) (hp':List O) (o4 o5 o6:Option V),tms[x]?=some one→tms[y]?=some two→tms.length≤33→Bl0 i0 x0 a b c (L+2) tms pts [x,y] hp'→QQ .next (T::some (.r a)::some (.r b)::some (.r c)::o4::o5::o6::tl) hp') :
  forL none (tName 4) bTop QQ [dS (enc one),dS (enc two)] (T::some (.r a)::some (.r b)::some (.r c)::o4::o5::o6::tl) hp:=by
 refine Bh trivial (J6 (t:=one) h1 (by decide) (by decide) B fun tms1 pts1 x hp1 z z k1 m1 l1 B1=>?_)
 have l1:tms1.length≤18:=l1
 refine NK trivial (J6 (t:=two) h2 (Lb ‹_›) (by rw[List.length_append];exact(by decide:1≤100)) B1 fun tms2 pts2 y hp2 z z k2 m2 l2 B2=>?_)
 exact KO trivial (q tms2 pts2 x y hp2 _ _ _ (k2 x _ m1) m2 (by lia) B2)
end
noncomputable def tab{α:Type}(n:Nat)(f:Nat→α):List α:=(List.range n).map f
theorem BX{α:Type}(n:Nat)(f:Nat→α):(tab n f).length=n:=by unfold tab;rw[List.length_map,List.length_range]
theorem E5{α:Type}{n c:Nat}(f:Nat→α)(h:c<n):(tab n f)[c]?=some (f c):=by unfold tab;rw[List.getElem?_map,List.getElem?_range h];rfl
theorem L7{α β:Type}(n:Nat)(f:Nat→α)(g:α→β):(tab n f).map g=tab n fun c=>g (f c):=List.map_map
theorem IN{α:Type}{n:Nat}{f g:Nat→α}(h:∀ c,c<n→f c=g c):tab n f=tab n g:=List.map_congr_left fun c hc=>h c (List.mem_range.mp hc)
noncomputable def upd{α:Type}(f:Nat→α)(c:Nat)(x:α)(d:Nat):α:=if d=c then x else f d
theorem L6{α:Type}{n c:Nat}(f:Nat→α)(x:α):(tab n f).set c x=tab n (upd f c x):=by
 apply List.ext_getElem?
 intro i
 rw[List.getElem?_set,BX]
 by_cases hi:i<n
 ·rw[E5 _ hi,E5 _ hi]
  by_cases e:c=i
  ·rw[if_pos e,if_pos (e ▸ hi),e];exact congrArg some (if_pos rfl).symm
  ·rw[if_neg e];exact congrArg some (if_neg fun k=>e k.symm).symm
 ·rw[List.getElem?_eq_none (by rw[BX];exact Nat.le_of_not_lt hi),List.getElem?_eq_none (by rw[BX];exact Nat.le_of_not_lt hi)]
  by_cases e:c=i
  ·rw[if_pos e,if_neg (e ▸ hi)]
  ·rw[if_neg e]
theorem Hw{α β:Type}(l:List α)(d:α)(f:α→β):l.map f=tab l.length fun c=>f (l.getD c d):=by
 apply List.ext_getElem?
 intro i
 by_cases hi:i<l.length
 ·rw[E5 _ hi,List.getElem?_map,List.getElem?_eq_getElem hi,List.getD_eq_getElem?_getD,List.getElem?_eq_getElem hi];rfl
 ·rw[List.getElem?_eq_none (by rw[List.length_map];exact Nat.le_of_not_lt hi),List.getElem?_eq_none (by rw[BX];exact Nat.le_of_not_lt hi)]
theorem DX{α:Type}{l:List α}{c:Nat}{x d:α}(h:l[c]?=some x):l.getD c d=x:=by rw[List.getD_eq_getElem?_getD,h];rfl
theorem Nod.nds{tms:List Tm}{pts:List (List Nat)}(N:Nod tms pts):Nds tms.length (fun c=>tms.getD c (.k false)) fun c=>pts.getD c []:=by
 have at':∀ c,c<tms.length→tms[c]?=some (tms.getD c (.k false)):=fun c hc=>by rw[List.getD_eq_getElem?_getD,List.getElem?_eq_getElem hc];rfl
 refine⟨(List.getElem?_eq_some_iff.mp (N.v3 2)).1,fun i=>DX (N.v3 i),fun c hc h3=>N.nv c _ h3 (at' c hc),fun c hc=>?_,fun c hc=>N.sz _ (List.mem_of_getElem? (at' c hc))⟩
 obtain⟨l,e1,e2⟩:=N.kd c _ (at' c hc)
 rw[show pts.getD c []=l from DX e1]
 clear e1
 revert e2
 generalize kids (tms.getD c (.k false))=ks
 induction l generalizing ks with
 | nil=>intro e;cases ks with
  | nil=>exact⟨rfl,fun k h=>nomatch h⟩
  | cons=>cases e
 | cons x l ih =>
  intro e
  cases ks with
  | nil=>cases e
  | cons s ks =>
   obtain⟨p,q⟩:=List.cons.inj e
   obtain⟨i1,i2⟩:=ih ks q
   refine⟨by rw[List.map_cons,i1,show tms.getD x (.k false)=s from DX p],fun k hk=>?_⟩
   rcases List.mem_cons.mp hk with rfl | hk
   ·exact(List.getElem?_eq_some_iff.mp p).1
   ·exact i2 k hk
section
variable{hp:List O}{Q:V→List O→Prop}{QQ:QS}{QL:List O→Prop}{n c i:Nat}{f:Nat→PyData}
theorem FL{c n:Nat}(h:c<n):seqIndex? (c:Int) n=some c:=by unfold seqIndex?;simp;lia
theorem M1{va:V}(h:lget va hp=some (tab n f))(hc:c<n)(hn:n≤1000)(q:Q (.d (f c)) hp):opItem va (.d (dI c)) Q hp:=by
 have k:match (seqIndex? (c:Int) (tab n f).length).bind ((tab n f)[·]?) with | some y=>Q (.d y) hp | none=>False:=by
  rw[BX,FL hc,Option.bind_some,E5 f hc];exact q
 refine⟨by lia,?_⟩
 cases va with
 | d x=>cases x<;>first | exact⟨_,h,k⟩ | cases h
 | r i=>exact⟨_,h,k⟩
 | rng=>cases h
 | g=>cases h
theorem Ai(h:hp[i]?=some (.lst (tab n f)))(hc:c<n)(hn:n≤1000)(q:Q (.d (f c)) hp):opItem (.r i) (.d (dI c)) Q hp:=M1 (BY h) hc hn q
theorem ER(hc:c<n)(hn:n≤1000)(q:Q (.d (f c)) hp):opItem (.d (.list (tab n f))) (.d (dI c)) Q hp:=M1 rfl hc hn q
theorem M3{x:PyData}(h:hp[i]?=some (.lst (tab n f)))(hc:c<n)(hn:n≤1000)(q:QL (hp.set i (.lst (tab n (upd f c x))))):putItem (.r i) (.d (dI c)) x QL hp:=by
 refine⟨by lia,DD h ⟨c,by rw[BX];exact FL hc,?_⟩⟩
 rw[L6];exact q
theorem M7{a b c:XE}{s:XS}{vs:List (Option V)}(q:c vs (fun v=>a vs fun vo=>b vs fun vi hp=>isD v fun x=>putItem vo vi x (fun hp'=>s vs QQ hp') hp) hp):sCons (sPut a b c) s vs QQ hp:=q
theorem OK{t:XT}{a:XE}{s:XS}{vs:List (Option V)}(q:a vs (fun v=>t v vs fun vs' hp=>s vs' QQ hp) hp):sCons (sAssignT t a) s vs QQ hp:=q
end
noncomputable abbrev dP(x:Nat×Nat):PyData:=.tuple [dI x.1,dI x.2]
structure MgH(i0:Nat)(x0:O)(a b c3 h8 h9 n:Nat)(tm:Nat→Tm)(pt:Nat→List Nat)(tp:List PyData)(hd:Nat→Int)(todo:List (Nat×Nat))(hp:List O):Prop where
 k0:hp[i0]?=some x0
 sg:hp[a]?=some (.lst (tab n fun c=>sgT (tm c)))
 pt:hp[b]?=some (.lst (tab n fun c=>dL (pt c)))
 tp:hp[c3]?=some (.lst tp)
 hd:hp[h8]?=some (.lst (tab n fun c=>PyData.int (hd c)))
 td:hp[h9]?=some (.lst (todo.map dP))
 od:i0<a∧a<b∧b<c3∧c3<h8∧h8<h9
noncomputable abbrev fm(T:Option V)(a b h8 h9 n:Nat)(of:Nat→Nat)(o3 o4 o5 o6 o10 o11:Option V)(tl:List (Option V)):List (Option V) :=
 T::some (.r a)::some (.r b)::o3::o4::o5::o6::some (.d (.list (tab n fun c=>dI (of c))))::some (.r h8)::some (.r h9)::o10::o11::tl
def bJ:XS:=sCons (sAssign 7 (xComp false 1 (tName 0) (xVar 7) iNil (xIte (bCmp opEq (xVar 0) (xVar 12)) (xVar 11) (xVar 0))))
 (sCons (sIf (bCmp opLt (xBin opItem (xVar 8) (xVar 10)) (cI 0)) (sCons (sPut (xVar 8) (xVar 10) (xBin opItem (xVar 8) (xVar 11))) sNil)
  (sCons (sIf (bCmp opGe (xBin opItem (xVar 8) (xVar 11)) (cI 0)) (sCons (sIf (bCmp opNe (xBin opItem (xVar 1) (xBin opItem (xVar 8) (xVar 10))) (xBin opItem (xVar 1) (xBin opItem (xVar 8) (xVar 11)))) (sCons (sRet cNone) sNil) sNil)
   (sCons (sAug opIAdd 9 (xListZip (lCons (xBin opItem (xVar 2) (xBin opItem (xVar 8) (xVar 10))) (lCons (xBin opItem (xVar 2) (xBin opItem (xVar 8) (xVar 11))) lNil)))) sNil)) sNil) sNil)) sNil)
def bM:XS:=sCons (sAssignT (tTuple 2 (tsCons (tName 10) (tsCons (tName 11) tsNil))) (xMethL mPop (xVar 9) lNil)) (sCons (sAssign 10 (xBin opItem (xVar 7) (xVar 10))) (sCons (sAssign 11 (xBin opItem (xVar 7) (xVar 11)))
 (sCons (sIf (bCmp opNe (xVar 10) (xVar 11)) bJ sNil) sNil)))
section
variable{one two:Tm}{n:Nat}{tm:Nat→Tm}{pt:Nat→List Nat}{t0 t1:Nat}{of:Nat→Nat}{hd:Nat→Int}{todo:List (Nat×Nat)}{R:List Nat}{i0:Nat}{x0:O}{a b c3 h8 h9 x y:Nat}{tp:List PyData}{hp:List O}{QQ:QS}{T o3 o4 o5 o6 o10 o11:Option V}{tl:List (Option V)}{Q:V→List O→Prop}
theorem Oi(hn:n≤100){vs:List (Option V)}(h7:vs[7]?=some (some (.d (.list (tab n fun c=>dI (of c))))))(h10:vs[10]?=some (some (.d (dI x))))(h11:vs[11]?=some (some (.d (dI y))))(q:Q (.d (.list (tab n fun c=>dI (ofM of x y c)))) hp) :
  xComp false 1 (tName 0) (xVar 7) iNil (xIte (bCmp opEq (xVar 0) (xVar 12)) (xVar 11) (xVar 0)) vs Q hp:=by
 refine comp1 (v:=.d (.list (tab n fun c=>dI (of c)))) (xs:=tab n fun c=>dI (of c)) (fun w=>true) (fun d=>match d with | .int i=>if i=(y:Int) then dI x else d | _=>d) (fun K k=>A2 h7 k) rfl (fun z hz l K k=>k) (fun z hz w l K k=>?_) (by rw[BX,sizeLine_eq];exact Lb hn) ?_
 ·obtain⟨c,_,rfl⟩:=List.mem_map.mp hz
  refine Ez (x:=decide (((of c:Nat):Int)=(y:Int))) (fun K k=>AR (A2 rfl (A2 h11 ?_))) (fun e=>A2 h10 ?_) (fun e=>A2 rfl ?_)
  ·show K (((of c:Nat):Int) == (y:Int)) _
   rw[show(((of c:Nat):Int) == (y:Int))=decide (((of c:Nat):Int)=(y:Int)) from rfl];exact k
  ·have:(if ((of c:Nat):Int)=(y:Int) then dI x else dI (of c))=dI x:=if_pos (of_decide_eq_true e)
   exact this ▸ k
  ·have:(if ((of c:Nat):Int)=(y:Int) then dI x else dI (of c))=dI (of c):=if_neg (of_decide_eq_false e)
   exact this ▸ k
 ·rw[List.filter_eq_self.mpr (fun w w=>rfl),L7]
  have:(tab n fun c=>(if ((of c:Nat):Int)=(y:Int) then dI x else dI (of c)))=tab n fun c=>dI (ofM of x y c):=IN fun c w=>by
   by_cases e:of c=y
   ·rw[if_pos (by rw[e]),Bv e]
   ·rw[if_neg fun k:((of c:Nat):Int)=(y:Int)=>e (Int.ofNat.inj k),B4 e]
  exact this ▸ q
structure MgN(one two:Tm)(n:Nat)(tm:Nat→Tm)(pt:Nat→List Nat)(t0 t1 m:Nat)(of:Nat→Nat)(hd:Nat→Int)(todo:List (Nat×Nat))(R:List Nat):Prop where
 M:Mrg one two n tm pt t0 t1 of hd todo R
 m:3*R.length+todo.length≤m
theorem N4{i:Nat}{l1 l2:List PyData}(h:hp[i]?=some (.lst l1))(hl:l1.length+l2.length≤sizeLine)(q:Q (.r i) (hp.set i (.lst (l1++l2)))):opIAdd (.r i) (.d (.list l2)) Q hp:=by
 unfold opIAdd
 dsimp only
 refine DD h ?_
 exact⟨l2,rfl,hl,q⟩
theorem J5:∀ x y:List Nat,zipD (x.map dI) (y.map dI)=(x.zip y).map dP
 | [],_=>rfl
 | _::_,[]=>rfl
 | a::x,b::y=>congrArg (dP (a,b) :: ·) (J5 x y)
theorem MV{m:Nat}(N:Nds n tm pt)(hn:n≤100)(X:MgN one two n tm pt t0 t1 (m+1) of hd (todo++[(x,y)]) R)(hm:m≤400)(ne:of x≠of y)(S:MgH i0 x0 a b c3 h8 h9 n tm pt tp hd todo hp)
  (q0:(∀ f,sub f one≠sub f two)→∀ vs hp,QQ (.ret (.d .none)) vs hp)
  (q1:∀ of' hd' todo' R' hp',MgN one two n tm pt t0 t1 m of' hd' todo' R'→MgH i0 x0 a b c3 h8 h9 n tm pt tp hd' todo' hp'→QQ .next (fm T a b h8 h9 n of' o3 o4 o5 o6 (some (.d (dI (of x)))) (some (.d (dI (of y)))) tl) hp') :
  bJ (fm T a b h8 h9 n of o3 o4 o5 o6 (some (.d (dI (of x)))) (some (.d (dI (of y)))) tl) QQ hp:=by
 have M:=X.M
 refine viaP fun z zf=>?_
 obtain⟨hx,hy⟩:=M.td (x,y) (List.mem_append_right _ List.mem_cons_self)
 obtain⟨lx,lx2,lx3⟩:=M.lt x hx
 obtain⟨ly,ly2,ly3⟩:=M.lt y hy
 have hR:(R.erase (of y)).length+1=R.length:=by rw[List.length_erase_of_mem ly3];have:=List.length_pos_of_mem ly3;lia
 have hm0:=X.m
 rw[List.length_append,List.length_singleton] at hm0
 obtain⟨d0,d1,d2,d3,d4⟩:=S.od
 refine zf ?_
 refine AY (Oi hn rfl rfl rfl ?_)
 refine Az (x:=decide (hd (of x)<0)) (fun K h=>AR (AB (A2 rfl (A2 rfl (Ai S.hd lx (Lb hn) (BN h)))))) (fun h=>?_) (fun h=>?_)
 ·refine M7 (AB (A2 rfl (A2 rfl (Ai S.hd ly (Lb hn) (A2 rfl (A2 rfl (M3 S.hd lx (Lb hn) (Ad ?_))))))))
  have e:upd (fun c=>PyData.int (hd c)) (of x) (.int (hd (of y)))=fun c=>PyData.int (upd hd (of x) (hd (of y)) c):=by
   funext d;unfold upd;split<;>rfl
  rw[e]
  have M':=M.merge N ne (hd':=upd hd (of x) (hd (of y))) (.free (of_decide_eq_true h) (if_pos rfl)) fun c hc=>if_neg hc
  rw[List.append_nil] at M'
  exact q1 _ _ _ _ _ ⟨M',by lia⟩ ⟨AD (Ng (T4 d0 d1 d2 d3)) S.k0,AD (Ng (T3 d1 d2 d3)) S.sg,AD (Ng (Tl d2 d3)) S.pt,AD (Ng d3) S.tp,AT S.hd,AD (Nl d4) S.td,S.od⟩
 ·have hx0:0≤hd (of x):=Int.not_lt.mp (of_decide_eq_false h)
  refine Az (x:=decide (0≤hd (of y))) (fun K h=>AR (AB (A2 rfl (A2 rfl (Ai S.hd ly (Lb hn) (BN h)))))) (fun h=>?_) (fun h=>?_)
  ·obtain⟨p,e1,pn,po,pv,_⟩:=M.head hx hx0
   obtain⟨p',e2,pn',po',pv',_⟩:=M.head hy (of_decide_eq_true h)
   rw[lx2] at e1
   rw[ly2] at e2
   have at1:∀ {K:V→List O→Prop},K (.d (dI p)) hp→xBin opItem (xVar 8) (xVar 10) (fm T a b h8 h9 n (ofM of (of x) (of y)) o3 o4 o5 o6 (some (.d (dI (of x)))) (some (.d (dI (of y)))) tl) K hp:=fun k=>AB (A2 rfl (A2 rfl (Ai S.hd lx (Lb hn) (by rw[e1];exact k))))
   have at2:∀ {K:V→List O→Prop},K (.d (dI p')) hp→xBin opItem (xVar 8) (xVar 11) (fm T a b h8 h9 n (ofM of (of x) (of y)) o3 o4 o5 o6 (some (.d (dI (of x)))) (some (.d (dI (of y)))) tl) K hp:=fun k=>AB (A2 rfl (A2 rfl (Ai S.hd ly (Lb hn) (by rw[e2];exact k))))
   refine Az (x:=hdc (tm p) != hdc (tm p')) (fun K h=>AR (AB (A2 rfl (at1 (Ai S.sg pn (Lb hn) (AB (A2 rfl (at2 (Ai S.sg pn' (Lb hn) ?_))))))))) (fun h=>i_retC' (q0 (M.clash e1 e2 (bne_iff_ne.mp h)) _ _)) (fun h=>Ad ?_)
   ·show K (!(ch (hdc (tm p)) == ch (hdc (tm p')))) hp
    rw[Du];exact h
   ·have hs:hdc (tm p)=hdc (tm p'):=by simpa using h
    have hl:=Ja N pn pn' hs
    refine DW rfl (AW (AB (A2 rfl (at1 (Ai S.pt pn (Lb hn) (AW (AB (A2 rfl (at2 (Ai S.pt pn' (Lb hn) (Aw ?_)))))))))))
    have hp2:(pt p).length≤2:=by
     have:=congrArg List.length (N.kd p pn).1
     rw[List.length_map,AX] at this
     rw[this];exact F9
    refine⟨by rw[List.length_map,List.length_map];exact hl,by rw[List.length_map];exact Lb hp2,?_⟩
    rw[J5]
    have hz:((pt p).zip (pt p')).length≤2:=by rw[List.length_zip];exact Nat.le_trans (Nat.min_le_left _ _) hp2
    have M':=M.merge N ne (hd':=hd) (.both p p' e1 e2 pn pn' hs rfl) fun c hc=>rfl
    refine N4 S.td (by rw[List.length_map,List.length_map,sizeLine_eq];lia) ?_
    rw[← List.map_append]
    exact q1 _ _ _ _ _ ⟨M',by rw[List.length_append];lia⟩ ⟨AD (Ng (Tl d0 (Tl d1 (Tl d2 (Tl d3 d4))))) S.k0,AD (Ng (T4 d1 d2 d3 d4)) S.sg,AD (Ng (T3 d2 d3 d4)) S.pt,AD (Ng (Tl d3 d4)) S.tp,AD (Ng d4) S.hd,AT S.td,S.od⟩
  ·have M':=M.merge N ne (hd':=hd) (.one hx0 (Int.not_le.mp (of_decide_eq_false h)) rfl) fun c hc=>rfl
   rw[List.append_nil] at M'
   exact q1 _ _ _ _ _ ⟨M',by lia⟩ S
end
def tM:XB:=bCmp opNe (xVar 9) (xList false lNil)
theorem Fh{l:List PyData}(h:∀ x∈l,x.canLay0=true∧x.depth≤5):okD (.list l)=true:=by
 have k:PyData.canLayAll0 l=true∧PyData.depthAll l≤5:=by
  induction l with
  | nil=>exact⟨rfl,Nat.zero_le _⟩
  | cons x xs ih =>
   obtain⟨a,b⟩:=ih fun z hz=>h z (List.mem_cons_of_mem _ hz)
   obtain⟨c,d⟩:=h x List.mem_cons_self
   refine⟨?_,?_⟩
   ·show(x.canLay0 && PyData.canLayAll0 xs)=true
    rw[a,c];rfl
   ·show max x.depth (PyData.depthAll xs)≤5
    exact Nat.max_le.mpr ⟨d,b⟩
 unfold okD
 show(PyData.canLayAll0 l && decide (PyData.depthAll l+1≤50))=true
 rw[k.1,decide_eq_true (by lia)];rfl
theorem Ld(l:List PyData):(PyData.list l).eqv (.list [])=l.isEmpty:=by cases l<;>rfl
section
variable{one two:Tm}{n:Nat}{tm:Nat→Tm}{pt:Nat→List Nat}{t0 t1:Nat}{of:Nat→Nat}{hd:Nat→Int}{todo:List (Nat×Nat)}{R:List Nat}{i0:Nat}{x0:O}{a b c3 h8 h9 x y:Nat}{tp:List PyData}{hp:List O}{QQ:QS}{T o3 o4 o5 o6 o10 o11:Option V}{tl:List (Option V)}{Q:V→List O→Prop}{K:Bool→List O→Prop}{vs:List (Option V)}
theorem Hi{k:Nat}{v:V}{l:List PyData}(h:vs[k]?=some (some v))(hd:dget v hp=some (.list l))(hv:∀ i,v≠.d (.int i))(hv':∀ i,v≠.d (.str i))(ok:okD (.list l)=true)(q:K (!l.isEmpty) hp):bCmp opNe (xVar k) (xList false lNil) vs K hp:=by
 refine AR (A2 h ⟨Nat.zero_le _,?_⟩)
 unfold opNe
 have k:∃ x y,dget v hp=some x∧dget (.d (.list [])) hp=some y∧okD x=true∧okD y=true∧truthV (.d (.bool (!x.eqv y))) K hp:=⟨_,_,hd,rfl,ok,by decide,by rw[Ld];exact q⟩
 cases v with
 | d x=>cases x<;>first | exact(hv _ rfl).elim | exact(hv' _ rfl).elim | exact k
 | r i=>exact k
 | rng=>exact k
 | g=>exact k
theorem Gv(S:MgH i0 x0 a b c3 h8 h9 n tm pt tp hd todo hp)(h:vs[9]?=some (some (.r h9)))(q:K (!todo.isEmpty) hp):tM vs K hp:=by
 refine Hi h (by unfold dget;dsimp only;rw[S.td]) (fun i=>by intro e;cases e) (fun i=>by intro e;cases e) (Fh fun z hz=>?_) (by rw[List.isEmpty_map];exact q)
 obtain⟨p,_,rfl⟩:=List.mem_map.mp hz
 exact⟨rfl,by show 1≤5;decide⟩
theorem Kl{m:Nat}(N:Nds n tm pt)(hn:n≤100)(X:MgN one two n tm pt t0 t1 (m+1) of hd (todo++[(x,y)]) R)(hm:m≤400)(S:MgH i0 x0 a b c3 h8 h9 n tm pt tp hd (todo++[(x,y)]) hp)
  (q0:(∀ f,sub f one≠sub f two)→∀ vs hp,QQ (.ret (.d .none)) vs hp)
  (q1:∀ of' hd' todo' R' hp' o10 o11,MgN one two n tm pt t0 t1 m of' hd' todo' R'→MgH i0 x0 a b c3 h8 h9 n tm pt tp hd' todo' hp'→QQ .next (fm T a b h8 h9 n of' o3 o4 o5 o6 o10 o11 tl) hp') :
  bM (fm T a b h8 h9 n of o3 o4 o5 o6 o10 o11 tl) QQ hp:=by
 refine viaP fun z zf=>?_
 obtain⟨hx,hy⟩:=X.M.td (x,y) (List.mem_append_right _ List.mem_cons_self)
 obtain⟨d0,d1,d2,d3,d4⟩:=S.od
 have hl:=X.m
 rw[List.length_append,List.length_singleton] at hl
 have td:hp[h9]?=some (.lst (todo.map dP++[dP (x,y)])):=by have:=S.td;rwa[List.map_append] at this
 refine zf ?_
 refine OK (Aq (A2 rfl ⟨B8 td,Aw (Jl td (by rw[List.length_append,List.length_map,List.length_singleton,sizeLine_eq];lia) ?_)⟩))
 have S':MgH i0 x0 a b c3 h8 h9 n tm pt tp hd todo (hp.set h9 (.lst (todo.map dP))):=⟨AD (Ng (Tl d0 (Tl d1 (Tl d2 (Tl d3 d4))))) S.k0,AD (Ng (T4 d1 d2 d3 d4)) S.sg,AD (Ng (T3 d2 d3 d4)) S.pt,AD (Ng (Tl d3 d4)) S.tp,AD (Ng d4) S.hd,AT td,S.od⟩
 generalize hp.set h9 (.lst (todo.map dP))=h1 at S' ⊢
 refine⟨rfl,?_⟩
 show sCons (sAssign 10 (xBin opItem (xVar 7) (xVar 10))) (sCons (sAssign 11 (xBin opItem (xVar 7) (xVar 11))) (sCons (sIf (bCmp opNe (xVar 10) (xVar 11)) bJ sNil) sNil)) (fm T a b h8 h9 n of o3 o4 o5 o6 (some (.d (dI x))) (some (.d (dI y))) tl) QQ h1
 refine AY (AB (A2 rfl (A2 rfl (ER hx (Lb hn) ?_))))
 refine AY (AB (A2 rfl (A2 rfl (ER hy (Lb hn) ?_))))
 refine Az (x := !decide (((of x:Nat):Int)=((of y:Nat):Int))) (fun K h=>AR (A2 rfl (A2 rfl h))) (fun h=>?_) (fun h=>?_)
 ·have ne:of x≠of y:=fun e=>by rw[e] at h;simp at h
  exact MV N hn X hm ne S' q0 fun of' hd' todo' R' hp' X' S2=>q1 _ _ _ _ _ _ _ X' S2
 ·have eq:of x=of y:=Int.ofNat.inj (by simpa using h)
  exact q1 _ _ _ _ _ _ _ ⟨X.M.skip eq,Ls hl⟩ S'
theorem Jw(N:Nds n tm pt)(hn:n≤100)(q0:(∀ f,sub f one≠sub f two)→∀ vs hp,QQ (.ret (.d .none)) vs hp)
  (q1:∀ of hd R hp' o10 o11,Mrg one two n tm pt t0 t1 of hd [] R→MgH i0 x0 a b c3 h8 h9 n tm pt tp hd [] hp'→QQ .next (fm T a b h8 h9 n of o3 o4 o5 o6 o10 o11 tl) hp'):∀ (m:Nat) (of:Nat→Nat) (hd:Nat→Int) (todo:List (Nat×Nat)) (R:List Nat) (hp:List O) (o10 o11:Option V),m≤400 →
  MgN one two n tm pt t0 t1 m of hd todo R→MgH i0 x0 a b c3 h8 h9 n tm pt tp hd todo hp→whileN tM bM QQ (m+1) (fm T a b h8 h9 n of o3 o4 o5 o6 o10 o11 tl) hp:=by
 intro m
 induction m with
 | zero =>
  intro of hd todo R hp o10 o11 hm X S
  have e:todo=[]:=List.eq_nil_of_length_eq_zero (by have:=X.m;lia)
  subst e
  exact BS (b:=false) (fun K h=>Gv S rfl h) (fun e=>nomatch e) (fun z=>q1 _ _ _ _ _ _ X.M S)
 | succ m ih =>
  intro of hd todo R hp o10 o11 hm X S
  rcases List.eq_nil_or_concat todo with rfl | ⟨todo',⟨x,y⟩,rfl⟩
  ·exact BS (b:=false) (fun K h=>Gv S rfl h) (fun e=>nomatch e) (fun z=>q1 _ _ _ _ _ _ X.M S)
  ·rw[List.concat_eq_append] at X S
   refine BS (b:=true) (fun K h=>Gv S rfl (by rw[show(todo'++[(x,y)]).isEmpty=false from by cases todo'<;>rfl];exact h)) (fun z=>?_) (fun e=>nomatch e)
   exact Kl N hn X (Ll hm) S q0 fun of' hd' todo' R' hp' o10 o11 X' S'=>Gn (ih of' hd' todo' R' hp' o10 o11 (Ll hm) X' S')
end
theorem compN{m:Bool}{it:XE}{ifs:XB}{elt:XE}{vs:List (Option V)}{Q:V→List O→Prop}{hp:List O}(c:Nat→Bool)(f:Nat→PyData){v:V}{l:List Nat}
  (hit:∀ K,K v hp→it vs K hp) (hx:iterV v hp fun z ys=>ys=l.map dI)
  (hi:∀ x∈l,∀ e K,K (c x) (hp++e)→ifs (some (.d (dI x))::vs) K (hp++e))
  (he:∀ x∈l,c x=true→∀ e K,K (.d (f x)) (hp++e)→elt (some (.d (dI x))::vs) K (hp++e))
  (hl:l.length≤1000) (q:match m with | false=>Q (.d (.list ((l.filter c).map f))) hp | true=>Q (.r hp.length) (hp++[.lst ((l.filter c).map f)])) :
  xComp m 1 (tName 0) it ifs elt vs Q hp:=by
 have e:((l.map dI).filter fun d=>match d with | .int i=>c i.toNat | _=>false).map (fun d=>match d with | .int i=>f i.toNat | _=>d)=(l.filter c).map f:=by
  rw[List.filter_map,List.map_map];rfl
 refine comp1 _ _ hit hx (fun x hx=>?_) (fun x hx hc=>?_) (by rw[List.length_map,sizeLine_eq];exact Lb hl) (by rw[e];exact q)
 ·obtain⟨k,hk,rfl⟩:=List.mem_map.mp hx
  exact hi k hk
 ·obtain⟨k,hk,rfl⟩:=List.mem_map.mp hx
  exact he k hk hc
noncomputable def tx:Option Tm→List Nat
 | none=>[]
 | some t=>enc t
structure TdH(i0:Nat)(x0:O)(a b c3 h8 h9 h12 n:Nat)(tm:Nat→Tm)(pt:Nat→List Nat)(tp:List PyData)(of:Nat→Nat)(hd:Nat→Int)(tl:Nat→Option Tm)(hp:List O):Prop where
 S:MgH i0 x0 a b c3 h8 h9 n tm pt tp hd [] hp
 h:h9<h12
 tw:∃ tw:Nat→List Nat,hp[h12]?=some (.lst (tab n fun c=>dS (tw c)))∧∀ c,c<n→of c=c→tw c=tx (tl c)
noncomputable abbrev ft(T:Option V)(a b c3 h8 h9 h12 n:Nat)(of:Nat→Nat)(o4 o5 o6 o10 o11:Option V)(L Rd:List Nat)(o15:Option V):List (Option V) :=
 fm T a b h8 h9 n of (some (.r c3)) o4 o5 o6 o10 o11 [some (.r h12),some (.d (dL L)),some (.d (dL Rd)),o15]
section
variable{one two:Tm}{n:Nat}{tm:Nat→Tm}{pt:Nat→List Nat}{t0 t1:Nat}{of:Nat→Nat}{hd:Nat→Int}{R:List Nat}{tl:Nat→Option Tm}{i0:Nat}{x0:O}{a b c3 h8 h9 h12 c h:Nat}{tp:List PyData}{hp:List O}{QQ:QS}{T o4 o5 o6 o10 o11 o15:Option V}{L:List Nat}{Q:V→List O→Prop}{K:Bool→List O→Prop}{vs:List (Option V)}
theorem MgH.app{todo:List (Nat×Nat)}(S:MgH i0 x0 a b c3 h8 h9 n tm pt tp hd todo hp)(l:List O):MgH i0 x0 a b c3 h8 h9 n tm pt tp hd todo (hp++l) :=
 ⟨A8 S.k0 l,A8 S.sg l,A8 S.pt l,A8 S.tp l,A8 S.hd l,A8 S.td l,S.od⟩
theorem TdH.app(H:TdH i0 x0 a b c3 h8 h9 h12 n tm pt tp of hd tl hp)(l:List O):TdH i0 x0 a b c3 h8 h9 h12 n tm pt tp of hd tl (hp++l):=by
 obtain⟨S,h,tw,e,k⟩:=H
 exact⟨S.app l,h,tw,A8 e l,k⟩
theorem Jk(H:TdH i0 x0 a b c3 h8 h9 h12 n tm pt tp of hd tl hp)(hn:n≤100){c:Nat}(hc:c<n)(oc:of c=c)(q:Q (.d (dS (tx (tl c)))) hp):opItem (.r h12) (.d (dI c)) Q hp:=by
 obtain⟨S,h,tw,e,k⟩:=H
 exact Ai e hc (Lb hn) (by rw[k c hc oc];exact q)
theorem J9(N:Nds n tm pt)(M:Mrg one two n tm pt t0 t1 of hd [] R)(hn:n≤100)(H:TdH i0 x0 a b c3 h8 h9 h12 n tm pt tp of hd tl hp){kp kh kc kt ko:Nat}(vp:vs[kp]?=some (some (.r b)))(vh:vs[kh]?=some (some (.r h8)))
  (vc:vs[kc]?=some (some (.d (dI c)))) (vt:vs[kt]?=some (some (.r h12))) (vo:vs[ko]?=some (some (.d (.list (tab n fun c=>dI (of c)))))) (hc:c<n) (hh:h<n) (e:hd c=h) (q:Q (.d (.list ((pt h).map fun k=>dS (tx (tl (of k)))))) hp) :
  xComp false 1 (tName 0) (xBin opItem (xVar kp) (xBin opItem (xVar kh) (xVar kc))) iNil (xBin opItem (xVar (kt+1)) (xBin opItem (xVar (ko+1)) (xVar 0))) vs Q hp:=by
 refine compN (fun z=>true) (fun k=>dS (tx (tl (of k)))) (v:=.d (dL (pt h))) (fun K k=>AB (A2 vp (AB (A2 vh (A2 vc (Ai H.S.hd hc (Lb hn) (by rw[e];exact Ai H.S.pt hh (Lb hn) k))))))) rfl (fun x z e K k=>k) (fun x hx z e K k=>?_) ?_ ?_
 ·have hx:=(N.kd h hh).2 x hx
  obtain⟨l1,l2,_⟩:=M.lt x hx
  exact AB (A2 vt (AB (A2 vo (A2 rfl (ER hx (Lb hn) (Jk (H.app e) hn l1 l2 k))))))
 ·have:=congrArg List.length (N.kd h hh).1
  rw[List.length_map,AX] at this
  rw[this];have:=F9 (c:=hdc (tm h));lia
 ·rw[List.filter_eq_self.mpr fun z z=>rfl];exact q
theorem Nd(l:List Nat)(g:Nat→Option Tm):((l.map fun k=>dS (tx (g k))).any fun y=>y.eqv (.str ""))=l.any fun k=>(g k).isNone:=by
 rw[List.any_map]
 congr 1
 funext k
 show(mkS (tx (g k)) == mkS [])=_
 cases g k with
 | none=>rfl
 | some t =>
  refine beq_eq_false_iff_ne.mpr fun e=>?_
  have:enc t=[]:=EC e
  rw[Ae] at this;cases this
theorem tx128{t:Option Tm}{d:Nat}(h:d∈tx t):d<128:=by
 cases t with
 | none=>cases h
 | some t=>exact c128 d h
theorem HE{l:List Nat}(h:∀ d∈l,d<128):(dS l).canLay0=true∧(dS l).depth≤5:=by
 refine⟨?_,Nat.zero_le _⟩
 show PyData.strOk (mkS l)=true
 unfold PyData.strOk
 rw[List.all_toArray,List.all_eq_true]
 intro c hc
 have:=h c hc
 exact decide_eq_true (Lb this)
abbrev bRd:XB:=bCmp opNotIn (cS "") (xComp false 1 (tName 0) (xBin opItem (xVar 3) (xBin opItem (xVar 9) (xVar 0))) iNil (xBin opItem (xVar 14) (xBin opItem (xVar 9) (xVar 0))))
noncomputable def rdy(pt:Nat→List Nat)(of:Nat→Nat)(hd:Nat→Int)(tl:Nat→Option Tm)(c:Nat):Bool := !(pt (hd c).toNat).any fun k=>(tl (of k)).isNone
theorem Nw(N:Nds n tm pt)(M:Mrg one two n tm pt t0 t1 of hd [] R)(hn:n≤100)(H:TdH i0 x0 a b c3 h8 h9 h12 n tm pt tp of hd tl hp){L Rd:List Nat}(hc:c<n)(oc:of c=c)(h0:0≤hd c)(q:K (rdy pt of hd tl c) hp) :
  bRd (some (.d (dI c))::ft T a b c3 h8 h9 h12 n of o4 o5 o6 o10 o11 L Rd o15) K hp:=by
 obtain⟨m,e,hm,_⟩:=M.hs c hc (by rw[oc];exact h0)
 rw[oc] at e
 refine AR (Cw (J9 (kt:=13) (ko:=8) N M hn H rfl rfl rfl rfl rfl hc hm e ?_))
 refine⟨.str "", _,rfl,rfl,Ji (l:=[]) (fun y h=>nomatch h),Fh fun z hz=>?_,?_⟩
 ·obtain⟨k,_,rfl⟩:=List.mem_map.mp hz
  exact HE fun d=>tx128
 ·rw[Nd]
  have:rdy pt of hd tl c = !(pt m).any fun k=>(tl (of k)).isNone:=by unfold rdy;rw[e];rfl
  rw[this] at q;exact q
end
theorem K4:∀ ls:List (List Nat),Txt.join "" (ls.map mkS)=mkS ls.flatten:=by
 intro ls
 unfold Txt.join
 rw[glued_eq_join]
 induction ls with
 | nil=>rfl
 | cons a ls ih =>
  cases ls with
  | nil=>show mkS a=mkS (a++[]);rw[List.append_nil]
  | cons b ls =>
   show mkS a++mkS []++Str.join "" ((b::ls).map mkS)=_
   rw[ih]
   show(⟨_++_++_⟩:Str)=_
   simp[mkS]
def bTo:XS:=sCons (sPut (xVar 12) (xVar 15) (xBin opAdd (xBin opItem (xVar 1) (xBin opItem (xVar 8) (xVar 15))) (xMethS mJoin (cS "") (lCons (xComp false 1 (tName 0) (xBin opItem (xVar 2) (xBin opItem (xVar 8) (xVar 15))) iNil (xBin opItem (xVar 13) (xBin opItem (xVar 8) (xVar 0)))) lNil)))) sNil
theorem LM{s:Tm}(hv:¬ isV s){ts:List Tm}(h:ts.length=ar (hdc s)):∃ t,hdc t=hdc s∧kids t=ts:=by
 cases s with
 | v i=>exact(hv trivial).elim
 | k b=>exact⟨.k b,rfl,(List.eq_nil_of_length_eq_zero (by cases b<;>exact h)).symm⟩
 | u t=>obtain⟨a,rfl⟩:=len1 h;exact⟨.u a,rfl,rfl⟩
 | p s t=>obtain⟨a,b,rfl⟩:=len2 h;exact⟨.p a b,rfl,rfl⟩
section
variable{one two:Tm}{n:Nat}{tm:Nat→Tm}{pt:Nat→List Nat}{t0 t1:Nat}{of:Nat→Nat}{hd:Nat→Int}{R:List Nat}{tl:Nat→Option Tm}{i0:Nat}{x0:O}{a b c3 h8 h9 h12 c h:Nat}{tp:List PyData}{hp:List O}{QQ:QS}{T o4 o5 o6 o10 o11 o15:Option V}{L:List Nat}{Q:V→List O→Prop}{K:Bool→List O→Prop}{vs:List (Option V)}
theorem Ok{todo:List (Nat×Nat)}(S:MgH i0 x0 a b c3 h8 h9 n tm pt tp hd todo hp)(hc:c<n)(hn:n≤100)(e:hd c=h)(q:Q (.d (dI h)) hp):opItem (.r h8) (.d (dI c)) Q hp:=Ai S.hd hc (Lb hn) (by rw[e];exact q)
noncomputable abbrev tlU(tl:Nat→Option Tm)(c:Nat)(t:Tm)(d:Nat):Option Tm:=if d=c then some t else tl d
theorem JY(N:Nds n tm pt)(hh:h<n)(e:hd c=h)(r:rdy pt of hd tl c=true):∃ ts:List Tm,(pt h).map (fun k=>tl (of k))=ts.map some∧ts.length=ar (hdc (tm h)):=by
 have hl:(pt h).length=ar (hdc (tm h)):=by have:=congrArg List.length (N.kd h hh).1;rwa[List.length_map,AX] at this
 have r:(!(pt h).any fun k=>(tl (of k)).isNone)=true:=by unfold rdy at r;rw[e] at r;exact r
 refine⟨(pt h).map fun k=>(tl (of k)).getD (.k false),?_,by rw[List.length_map];exact hl⟩
 rw[List.map_map]
 refine List.map_congr_left fun k hk=>?_
 cases g:tl (of k) with
 | some t=>exact congrArg some (by dsimp only;rw[g];rfl)
 | none =>
  have:((pt h).any fun k=>(tl (of k)).isNone)=true:=List.any_eq_true.mpr ⟨k,hk,by rw[g];rfl⟩
  rw[this] at r;cases r
theorem MK(N:Nds n tm pt)(M:Mrg one two n tm pt t0 t1 of hd [] R)(hn:n≤100)(TT:Tld n tm pt of hd tl)(H:TdH i0 x0 a b c3 h8 h9 h12 n tm pt tp of hd tl hp){L Rd:List Nat}(hc:c<n)(oc:of c=c)(h0:0≤hd c)(ht:tl c=none)(r:rdy pt of hd tl c=true)
  (q:∀ t hp',Tld n tm pt of hd (tlU tl c t)→TdH i0 x0 a b c3 h8 h9 h12 n tm pt tp of hd (tlU tl c t) hp'→QQ .next (ft T a b c3 h8 h9 h12 n of o4 o5 o6 o10 o11 L Rd (some (.d (dI c)))) hp') :
  bTo (ft T a b c3 h8 h9 h12 n of o4 o5 o6 o10 o11 L Rd (some (.d (dI c)))) QQ hp:=by
 refine viaP fun z zf=>?_
 obtain⟨m,e,hm,hom,hvm,_⟩:=M.hs c hc (by rw[oc];exact h0)
 rw[oc] at e
 obtain⟨ts,k1,k2⟩:=JY N hm e r
 obtain⟨t,s1,s2⟩:=LM hvm k2
 have D:Td tm pt of hd tl c t:=⟨m,e,s1,by rw[s2];exact k1⟩
 have T2:=TT.tell ht h0 D
 have small:len t≤50625:=T2.len_le N M hc (c:=c) (by rw[oc];exact if_pos rfl)
 have ek:((pt m).map fun k=>dS (tx (tl (of k))))=ts.map fun t=>dS (enc t):=by
  have:=congrArg (List.map fun o=>dS (tx o)) k1
  rwa[List.map_map,List.map_map] at this
 have ej:Txt.join "" (ts.map fun t=>mkS (enc t))=mkS (ts.flatMap enc):=by
  have:=K4 (ts.map enc)
  rw[List.map_map] at this
  exact this
 have et:enc t=hdc (tm m)::ts.flatMap enc:=by rw[Ae,s1,s2]
 have hl:(ts.flatMap enc).length+1≤50625:=by have:(enc t).length≤50625:=small;rwa[et] at this
 have S:=H.S
 refine zf ?_
 refine M7 (AB (AB (A2 rfl (AB (A2 rfl (A2 rfl (Ok S hc hn e (Ai S.sg hm (Lb hn) (Co (fun K k=>Cw k) (AW (J9 (kt:=12) (ko:=7) N M hn H rfl rfl rfl rfl rfl hc hm e (Aw ?_))))))))))))
 rw[ek]
 refine⟨_,ts.map fun t=>mkS (enc t),rfl,?_,joinOk (by rw[ej,AH];exact Lb (Ll hl)) (by decide),?_⟩
 ·exact D4 _ ts
 ·rw[ej]
  refine⟨?_,?_⟩
  ·show(1:Nat)+(mkS (ts.flatMap enc)).length≤_
   rw[AH,sizeLine_eq];lia
  ·obtain⟨tw,e1,e2⟩:=H.tw
   refine viaP fun z zf=>?_
   obtain⟨d0,d1,d2,d3,d4⟩:=S.od
   have hh:=H.h
   have ec:ch (hdc (tm m))++mkS (ts.flatMap enc)=mkS (enc t):=by rw[et];show(⟨_++_⟩:Str)=_;simp[mkS]
   refine zf ?_
   rw[ec]
   refine A2 rfl (A2 rfl (M3 e1 hc (Lb hn) ?_))
   refine q t _ T2 ⟨⟨AD (Ng (Tl d0 (Tl d1 (Tl d2 (Tl d3 (Tl d4 hh)))))) S.k0,AD (Ng (Tl d1 (Tl d2 (Tl d3 (Tl d4 hh))))) S.sg,AD (Ng (T4 d2 d3 d4 hh)) S.pt,AD (Ng (T3 d3 d4 hh)) S.tp,AD (Ng (Tl d4 hh)) S.hd,AD (Ng hh) S.td,S.od⟩,hh,upd tw c (enc t),?_,fun d hd od=>?_⟩
   ·rw[show(fun d=>dS (upd tw c (enc t) d))=upd (fun d=>dS (tw d)) c (dS (enc t)) from by funext d;unfold upd;split<;>rfl]
    exact AT e1
   ·by_cases q:d=c
    ·rw[q];exact(if_pos rfl).trans (congrArg tx (if_pos rfl:tlU tl c t c=some t)).symm
    ·exact(if_neg q).trans ((e2 d hd od).trans (congrArg tx (if_neg q:tlU tl c t d=tl d)).symm)
end
def tR:XB:=bCmp opNe (xVar 14) (xList false lNil)
def bR:XS:=sCons (sAssign 14 (xComp false 1 (tName 0) (xVar 13) bRd (xVar 0))) (sCons (sFor (tName 15) (xVar 14) bTo) (sCons (sAssign 13 (xComp false 1 (tName 0) (xVar 13) (bCmp opNotIn (xVar 0) (xVar 15)) (xVar 0))) sNil))
section
variable{one two:Tm}{n:Nat}{tm:Nat→Tm}{pt:Nat→List Nat}{t0 t1:Nat}{of:Nat→Nat}{hd:Nat→Int}{R:List Nat}{tl:Nat→Option Tm}{i0:Nat}{x0:O}{a b c3 h8 h9 h12 c h:Nat}{tp:List PyData}{hp:List O}{QQ:QS}{T o4 o5 o6 o10 o11 o15:Option V}{L Rd:List Nat}{Q:V→List O→Prop}{K:Bool→List O→Prop}{vs:List (Option V)}
theorem JX{tl tl':Nat→Option Tm}(h:∀ d,tl' d=none→tl d=none){d:Nat}(r:rdy pt of hd tl d=true):rdy pt of hd tl' d=true:=by
 unfold rdy at r ⊢
 rw[Bool.not_eq_true',List.any_eq_false] at r ⊢
 intro k hk e
 exact r k hk (by rw[h _ (Option.isNone_iff_eq_none.mp e)];rfl)
theorem L0(N:Nds n tm pt)(M:Mrg one two n tm pt t0 t1 of hd [] R)(hn:n≤100):∀ (cs:List Nat) (tl:Nat→Option Tm) (hp:List O) (o15:Option V),cs.Nodup→(∀ c∈cs,c<n∧of c=c∧tl c=none∧rdy pt of hd tl c=true) →
  Tld n tm pt of hd tl→TdH i0 x0 a b c3 h8 h9 h12 n tm pt tp of hd tl hp →
  (∀ tl' hp' o15,Tld n tm pt of hd tl'→TdH i0 x0 a b c3 h8 h9 h12 n tm pt tp of hd tl' hp'→(∀ d,tl' d=none↔tl d=none∧d ∉ cs)→QQ .next (ft T a b c3 h8 h9 h12 n of o4 o5 o6 o10 o11 L Rd o15) hp') →
  forL none (tName 15) bTo QQ (cs.map dI) (ft T a b c3 h8 h9 h12 n of o4 o5 o6 o10 o11 L Rd o15) hp:=by
 intro cs
 induction cs with
 | nil=>exact fun tl hp o15 z z TT H q=>⟨trivial,q tl hp o15 TT H fun d=>⟨fun h=>⟨h,nofun⟩,fun h=>h.1⟩⟩
 | cons c cs ih =>
  intro tl hp o15 nd hc TT H q
  obtain⟨nc,nd⟩:=List.nodup_cons.mp nd
  obtain⟨c1,c2,c3,c4⟩:=hc c List.mem_cons_self
  have h0:0≤hd c:=Int.not_lt.mp fun h=>by rw[TT.vr c c1 c2 h] at c3;cases c3
  refine Bh trivial (MK N M hn TT H c1 c2 h0 c3 c4 fun t hp' TT' H'=>?_)
  have ne:∀ d,d≠c→tlU tl c t d=tl d:=fun d h=>if_neg h
  have eq:tlU tl c t c=some t:=if_pos rfl
  refine ih (tlU tl c t) hp' _ nd (fun d hd=>?_) TT' H' fun tl' hp2 o15 T2 H2 k=>q tl' hp2 o15 T2 H2 fun d=>?_
  ·obtain⟨d1,d2,d3,d4⟩:=hc d (List.mem_cons_of_mem _ hd)
   refine⟨d1,d2,(ne d fun e=>nc (e ▸ hd)).trans d3,JX (fun x hx=>?_) d4⟩
   by_cases e:x=c
   ·rw[e,eq] at hx;cases hx
   ·rwa[ne x e] at hx
  ·rw[k d,List.mem_cons,not_or]
   by_cases e:d=c
   ·rw[e,eq];exact⟨fun h=>(nomatch h.1),fun h=>(h.2.1 rfl).elim⟩
   ·rw[ne d e];exact⟨fun h=>⟨h.1,e,h.2⟩,fun h=>⟨h.1,h.2.2⟩⟩
structure TI(n:Nat)(tm:Nat→Tm)(pt:Nat→List Nat)(of:Nat→Nat)(hd:Nat→Int)(tl:Nat→Option Tm)(L Rd:List Nat):Prop where
 T:Tld n tm pt of hd tl
 mem:∀ c,c∈L↔c<n∧of c=c∧tl c=none
 nd:L.Nodup
 ln:L.length≤n
 st:Rd=[]→∀ c∈L,rdy pt of hd tl c=false
 rl:Rd.length≤n
theorem NT(l:List Nat)(c:Nat):((l.map dI).any fun y=>y.eqv (dI c))=decide (c∈l):=by
 rw[List.any_map,Bool.eq_iff_iff,List.any_eq_true,decide_eq_true_iff]
 constructor
 ·rintro⟨x,hx,e⟩
  have e:((x:Int) == (c:Int))=true:=e
  rw[← Int.ofNat.inj (beq_iff_eq.mp e)];exact hx
 ·intro h
  exact⟨c,h,(beq_iff_eq.mpr rfl:((c:Int) == (c:Int))=true)⟩
theorem Fi(l:List Nat):okD (dL l)=true:=Fh fun z hz=>by
 obtain⟨k,_,rfl⟩:=List.mem_map.mp hz
 exact⟨rfl,Nat.zero_le _⟩
theorem Kx(N:Nds n tm pt)(M:Mrg one two n tm pt t0 t1 of hd [] R)(hn:n≤100)
  (q:∀ tl L hp' o15,TI n tm pt of hd tl L []→TdH i0 x0 a b c3 h8 h9 h12 n tm pt tp of hd tl hp'→QQ .next (ft T a b c3 h8 h9 h12 n of o4 o5 o6 o10 o11 L [] o15) hp') :
  ∀ (m:Nat) (tl:Nat→Option Tm) (L Rd:List Nat) (hp:List O) (o15:Option V),(Rd≠[]→L.length+1≤m)→TI n tm pt of hd tl L Rd→TdH i0 x0 a b c3 h8 h9 h12 n tm pt tp of hd tl hp→whileN tR bR QQ (m+1) (ft T a b c3 h8 h9 h12 n of o4 o5 o6 o10 o11 L Rd o15) hp:=by
 intro m
 induction m with
 | zero =>
  intro tl L Rd hp o15 hm I H
  have e:Rd=[]:=Classical.byContradiction fun h=>by have:=hm h;lia
  subst e
  exact BS (b:=false) (fun K h=>Hi rfl rfl nofun nofun (Fi _) h) nofun fun z=>q _ _ _ _ I H
 | succ m ih =>
  intro tl L Rd hp o15 hm I H
  by_cases e:Rd=[]
  ·subst e
   exact BS (b:=false) (fun K h=>Hi rfl rfl nofun nofun (Fi _) h) nofun fun z=>q _ _ _ _ I H
  ·refine BS (b:=true) (fun K h=>Hi rfl rfl nofun nofun (Fi _) ?_) (fun z=>?_) nofun
   ·cases Rd with
    | nil=>exact(e rfl).elim
    | cons=>exact h
   ·have hm:=hm e
    have ln:=I.ln
    refine AY (compN (rdy pt of hd tl) dI (v:=.d (dL L)) (l:=L) (fun K k=>A2 rfl k) rfl (fun c hc e K k=>?_) (fun c hc z e K k=>A2 rfl k) (Lb (Tt ln hn)) ?_)
    ·obtain⟨c1,c2,c3⟩:=(I.mem c).mp hc
     exact Nw N M hn (H.app e) c1 c2 (Int.not_lt.mp fun h=>by rw[I.T.vr c c1 c2 h] at c3;cases c3) k
    ·have fl:=List.length_filter_le (rdy pt of hd tl) L
     have nd:=I.nd.filter (rdy pt of hd tl)
     have mm:∀ c∈L.filter (rdy pt of hd tl),c<n∧of c=c∧tl c=none∧rdy pt of hd tl c=true:=fun c hc=>by
      obtain⟨h1,h2⟩:=List.mem_filter.mp hc
      obtain⟨c1,c2,c3⟩:=(I.mem c).mp h1
      exact⟨c1,c2,c3,h2⟩
     have em:L.filter (rdy pt of hd tl)=[]→∀ c∈L,rdy pt of hd tl c=false:=fun h c hc=>by
      have:=List.filter_eq_nil_iff.mp h c hc
      simpa using this
     have sub:∀ c∈L.filter (rdy pt of hd tl),c∈L:=fun c hc=>(List.mem_filter.mp hc).1
     generalize L.filter (rdy pt of hd tl)=cs at fl nd mm em sub ⊢
     refine E0 (A2 rfl (L0 (L:=L) (Rd:=cs) N M hn cs tl hp o15 nd mm I.T H fun tl' hp' o15' T' H' k=>Ad ?_))
     refine EW (compN (fun c => !decide (c∈cs)) dI (v:=.d (dL L)) (l:=L) (fun K k=>A2 rfl k) rfl (fun c hc e K k=>?_) (fun c hc z e K k=>A2 rfl k) (Lb (Tt ln hn)) ?_)
     ·refine AR (A2 rfl (A2 rfl ⟨dI c,cs.map dI,rfl,rfl,rfl,Fi _,?_⟩))
      rw[NT];exact k
     ·refine Gn (ih tl' (L.filter fun c => !decide (c∈cs)) cs hp' o15' (fun h=>?_) ⟨T',fun c=>?_,I.nd.filter _,Nat.le_trans (List.length_filter_le ..) ln,fun h c hc=>?_,Nat.le_trans fl ln⟩ H')
      ·obtain⟨x,hx⟩:=List.exists_mem_of_ne_nil cs h
       have:(L.filter fun c => !decide (c∈cs)).length<L.length:=List.length_filter_lt_length_iff_exists.mpr ⟨x,sub x hx,by simp[hx]⟩
       lia
      ·rw[List.mem_filter,I.mem c,k c]
       simp only[Bool.not_eq_true',decide_eq_false_iff_not]
       exact⟨fun h=>⟨h.1.1,h.1.2.1,h.1.2.2,h.2⟩,fun h=>⟨⟨h.1,h.2.1,h.2.2.1⟩,h.2.2.2⟩⟩
      ·have hc:=(List.mem_filter.mp hc).1
       refine Bool.eq_false_iff.mpr fun r=>?_
       have:=em h c hc
       rw[JX (fun d hd=>(k d).mpr ⟨hd,by rw[h];exact nofun⟩) r] at this
       cases this
end
abbrev xRl:XE:=xCall fRange (lCons (xCall fLen (lCons (xVar 1) lNil)) lNil)
abbrev xTop:XE:=xBin opItem (xVar 12) (xBin opItem (xVar 7) (xBin opItem (xVar 3) (cI 0)))
abbrev xTo:XE:=xComp true 1 (tName 0) xRl iNil (xIte (bCmp opLt (xBin opItem (xVar 9) (xVar 0)) (cI 0)) (xBin opItem (xVar 2) (xVar 0)) (cS ""))
abbrev xLe:XE:=xComp false 1 (tName 0) xRl (bAnd (bCmp opEq (xBin opItem (xVar 8) (xVar 0)) (xVar 0)) (bCmp opGe (xBin opItem (xVar 9) (xVar 0)) (cI 0))) (xVar 0)
def bE:XS:=sCons (sAssign 12 xTo) (sCons (sAssign 13 xLe) (sCons (sAssign 14 (xVar 13)) (sCons (sWhile tR bR) (sCons (sIf (bCmp opEq xTop (cS "")) (sCons (sRet cNone) sNil) sNil) (sCons (sRet (xCall BK (lCons xTop lNil))) sNil)))))
section
variable{one two:Tm}{n:Nat}{tm:Nat→Tm}{pt:Nat→List Nat}{t0 t1:Nat}{of:Nat→Nat}{hd:Nat→Int}{R:List Nat}{tl:Nat→Option Tm}{i0:Nat}{x0:O}{a b c3 h8 h9 h12 c h:Nat}{tp:List PyData}{hp:List O}{QQ:QS}{T o4 o5 o6 o10 o11 o15:Option V}{L Rd:List Nat}{Q:V→List O→Prop}{K:Bool→List O→Prop}{vs:List (Option V)}
theorem HK{i n:Nat}{l:List PyData}(h:vs[1]?=some (some (.r i)))(e:hp[i]?=some (.lst l))(hl:l.length=n)(hn:n≤1000)(q:Q (.rng 0 n 1) hp):xRl vs Q hp:=by
 refine Bp (Bp (A2 h ?_))
 unfold fLen
 dsimp only
 rw[BY e]
 dsimp only
 rw[hl]
 exact⟨by lia,q⟩
theorem H6{n:Nat}(hn:n≤1000):iterV (.rng 0 n 1) hp fun z ys=>ys=(List.range n).map dI:=⟨EK n (Lb hn),EL n⟩
theorem Nh(M:Mrg one two n tm pt t0 t1 of hd [] R)(hn:n≤100)(h0:t0<n){x y:Nat}(e:tp=[x,y].map dI)(ex:x=t0)(H:TdH i0 x0 a b c3 h8 h9 h12 n tm pt tp of hd tl hp)(q:Q (.d (dS (tx (tl (of t0))))) hp) :
  xTop (ft T a b c3 h8 h9 h12 n of o4 o5 o6 o10 o11 L Rd o15) Q hp:=by
 subst e ex
 obtain⟨l1,l2,_⟩:=M.lt x h0
 have tp:hp[c3]?=some (.lst (tab 2 fun c=>dI (if c=0 then x else y))):=H.S.tp
 exact AB (A2 rfl (AB (A2 rfl (AB (A2 rfl (BN (Ai (c:=0) tp (by decide) (by decide) (ER h0 (Lb hn) (Jk H hn l1 l2 q)))))))))
theorem Nn(N:Nds n tm pt)(M:Mrg one two n tm pt t0 t1 of hd [] R)(hn:n≤100)(h0:t0<n)(h1:t1<n)(e0:tm t0=one)(e1:tm t1=two)(S:MgH i0 x0 a b c3 h8 h9 n tm pt ([t0,t1].map dI) hd [] hp)
  (q0:(∀ f,sub f one≠sub f two)→∀ vs hp,QQ (.ret (.d .none)) vs hp) (q1:∀ t vs hp,Due one two (some t)→hp[i0]?=some x0→QQ (.ret (.d (dS (named (enc t))))) vs hp) :
  bE (fm T a b h8 h9 n of (some (.r c3)) o4 o5 o6 o10 o11 [none,none,none,none]) QQ hp:=by
 refine AY (compN (fun z=>true) (fun c=>dS (if hd c<0 then [hdc (tm c)] else [])) (l:=List.range n) (fun K k=>HK rfl S.sg (BX ..) (Lb hn) k) (H6 (Lb hn)) (fun c hc e K k=>k) (fun c hc z e K k=>?_) (by rw[List.length_range];exact Lb hn) ?_)
 ·have hc:=List.mem_range.mp hc
  have S:=S.app e
  refine Ez (x:=decide (hd c<0)) (fun K h=>AR (AB (A2 rfl (A2 rfl (Ai S.hd hc (Lb hn) (BN h)))))) (fun h=>AB (A2 rfl (A2 rfl (Ai S.sg hc (Lb hn) ?_)))) fun h=>Cw ?_
  ·have:(if hd c<0 then [hdc (tm c)] else [])=[hdc (tm c)]:=if_pos (of_decide_eq_true h)
   rw[this] at k;exact k
  ·have:(if hd c<0 then [hdc (tm c)] else [])=[]:=if_neg (of_decide_eq_false h)
   rw[this] at k;exact k
 ·rw[List.filter_eq_self.mpr fun z z=>rfl]
  refine viaP fun z zf=>?_
  obtain⟨d0,d1,d2,d3,d4⟩:=S.od
  have hh:h9<hp.length:=(List.getElem?_eq_some_iff.mp S.td).1
  have H:TdH i0 x0 a b c3 h8 h9 hp.length n tm pt ([t0,t1].map dI) of hd (fun c=>if hd c<0 then some (tm c) else none) (hp++[.lst (tab n fun c=>dS (if hd c<0 then [hdc (tm c)] else []))]):=by
   refine⟨S.app _,hh,fun c=>if hd c<0 then [hdc (tm c)] else [],by simp,fun c hc oc=>?_⟩
   show(if _ then _ else _)=tx (if _ then _ else _)
   by_cases h:hd c<0
   ·rw[if_pos h,if_pos h]
    obtain⟨i,e⟩:=Di (M.hh c hc (by rw[oc];exact h))
    rw[e];rfl
   ·rw[if_neg h,if_neg h];rfl
  have e12:List.map (fun c=>dS (if hd c<0 then [hdc (tm c)] else [])) (List.range n)=tab n fun c=>dS (if hd c<0 then [hdc (tm c)] else []):=rfl
  refine zf ?_
  rw[e12]
  generalize hp++[.lst (tab n fun c=>dS (if hd c<0 then [hdc (tm c)] else []))]=h1' at H ⊢
  refine AY (compN (fun c=>decide (of c=c) && decide (0≤hd c)) dI (l:=List.range n) (fun K k=>HK rfl H.S.sg (BX ..) (Lb hn) k) (H6 (Lb hn)) (fun c hc e K k=>?_) (fun c hc z e K k=>A2 rfl k) (by rw[List.length_range];exact Lb hn) ?_)
  ·have hc:=List.mem_range.mp hc
   have S:=(H.app e).S
   refine AR (AB (A2 rfl (A2 rfl (ER hc (Lb hn) (A2 rfl ?_)))))
   have e1:((of c:Int) == (c:Int))=decide (of c=c):=by
    by_cases h:of c=c
    ·rw[h,decide_eq_true rfl];exact beq_iff_eq.mpr rfl
    ·rw[decide_eq_false h];exact beq_eq_false_iff_ne.mpr fun e=>h (Int.ofNat.inj e)
   show(match ((of c:Int) == (c:Int)) with | true=>_ | false=>_)
   rw[e1]
   cases hq:decide (of c=c) with
   | false=>rw[hq] at k;exact k
   | true =>
    rw[hq,Bool.true_and] at k
    exact AR (AB (A2 rfl (A2 rfl (Ai S.hd hc (Lb hn) (BN k)))))
  ·have hL:∀ c,c∈((List.range n).filter fun c=>decide (of c=c) && decide (0≤hd c))↔c<n∧of c=c∧(if hd c<0 then some (tm c) else none)=none:=by
    intro c
    rw[List.mem_filter,List.mem_range,Bool.and_eq_true,decide_eq_true_iff,decide_eq_true_iff]
    refine and_congr_right fun z=>and_congr_right fun z=>?_
    by_cases h:hd c<0
    ·rw[if_pos h];exact⟨fun k=>by lia,nofun⟩
    ·rw[if_neg h];exact⟨fun z=>rfl,fun z=>by lia⟩
   have nd:((List.range n).filter fun c=>decide (of c=c) && decide (0≤hd c)).Nodup:=List.nodup_range.filter _
   have ln:((List.range n).filter fun c=>decide (of c=c) && decide (0≤hd c)).length≤n:=by have:=List.length_filter_le (fun c=>decide (of c=c) && decide (0≤hd c)) (List.range n);rwa[List.length_range] at this
   generalize ((List.range n).filter fun c=>decide (of c=c) && decide (0≤hd c))=L at hL nd ln ⊢
   refine AY (A2 rfl (Cn ⟨L.length+1+1,Kx N M hn (fun tl L' hp' o15 I H=>Ad ?_) (L.length+1) _ L L h1' none (fun z=>Nat.le_refl _) ⟨⟨fun c hc oc h=>if_pos h,fun c hc oc h t e=>?_⟩,hL,nd,ln,fun h c hc=>?_,ln⟩ H⟩))
   ·have D:=I.T.due N M (fun c hc oc e h eh=>?_) h0 h1 e0 e1
    ·have top:∀ {K:V→List O→Prop},K (.d (dS (tx (tl (of t0))))) hp'→xTop (ft T a b c3 h8 h9 hp.length n of o4 o5 o6 o10 o11 L' [] o15) K hp':=fun k=>Nh M hn h0 rfl rfl H k
     refine Az (x:=(tl (of t0)).isNone) (fun K h=>AR (top (Cw ?_))) (fun h=>i_retC' ?_) (fun h=>Ad (i_retC' (Bp (top ?_))))
     ·show K (mkS (tx (tl (of t0))) == mkS []) hp'
      cases e:tl (of t0) with
      | none=>rw[e] at h;exact h
      | some t =>
       rw[e] at h
       rw[beq_eq_false_iff_ne.mpr (fun k=>by have:enc t=[]:=EC k;rw[Ae] at this;cases this)]
       exact h
     ·rw[Option.isNone_iff_eq_none.mp h] at D
      cases D with | none h=>exact q0 h _ _
     ·cases e:tl (of t0) with
      | none=>rw[e] at h;cases h
      | some t =>
       rw[e] at D
       exact IG ⟨Nat.le_trans (I.T.len_le N M h0 e) (by decide),c128⟩ (q1 t _ _ D H.S.k0)
    ·have:=I.st rfl c ((I.mem c).mpr ⟨hc,oc,e⟩)
     unfold rdy at this
     rw[eh,Bool.not_eq_false',List.any_eq_true] at this
     obtain⟨k,k1,k2⟩:=this
     exact⟨k,k1,Option.isNone_iff_eq_none.mp k2⟩
   ·rw[if_neg (by lia)] at e;cases e
   ·rw[h] at hc;cases hc
end
def bDu:XS:=sCons (sAssign 7 (xComp false 1 (tName 0) xRl iNil (xVar 0))) (sCons (sAssign 8 (xComp true 1 (tName 0) (xVar 7) iNil (xIte (bCmp opGt (xVar 0) (cI 2)) (xVar 0) (xNeg (cI 1)))))
 (sCons (sAssign 9 (xList true (lCons (xTuple (lCons (xBin opItem (xVar 3) (cI 0)) (lCons (xBin opItem (xVar 3) (cI 1)) lNil))) lNil))) (sCons (sWhile tM bM) bE)))
theorem KS:D7=sCons (sAssign 1 (xList true (lStrs ["x", "y", "z"]))) (sCons (sAssign 2 (xList true (lCons (xList false lNil) (lCons (xList false lNil) (lCons (xList false lNil) lNil))))) (sCons (sAssign 3 (xList true lNil)) (sCons (sFor (tName 4) (xVar 0) bTop) bDu))):=rfl
section
variable{one two:Tm}{i0:Nat}{x0:O}{hp:List O}{Q:V→List O→Prop}{QQ:QS}{T o4 o5 o6:Option V}{a b c3 x y n:Nat}{tm:Nat→Tm}{pt:Nat→List Nat}
theorem KA{xs:List PyData}(q:Q (.d (.list xs)) hp):mkL false xs Q hp:=q
theorem No(N:Nds n tm pt)(hn:n≤33)(hx:x<n)(hy:y<n)(e0:tm x=one)(e1:tm y=two)(k0:hp[i0]?=some x0)(sg:hp[a]?=some (.lst (tab n fun c=>sgT (tm c))))(pt':hp[b]?=some (.lst (tab n fun c=>dL (pt c))))
  (tp:hp[c3]?=some (.lst ([x,y].map dI))) (od:i0<a∧a<b∧b<c3)
  (q0:(∀ f,sub f one≠sub f two)→∀ vs hp,QQ (.ret (.d .none)) vs hp) (q1:∀ t vs hp,Due one two (some t)→hp[i0]?=some x0→QQ (.ret (.d (dS (named (enc t))))) vs hp) :
  bDu [T,some (.r a),some (.r b),some (.r c3),o4,o5,o6,none,none,none,none,none,none,none,none,none] QQ hp:=by
 have hc:c3<hp.length:=(List.getElem?_eq_some_iff.mp tp).1
 refine AY (compN (fun z=>true) dI (l:=List.range n) (fun K k=>HK rfl sg (BX ..) (Lb hn) k) (H6 (Lb hn)) (fun c hc e K k=>k) (fun c hc z e K k=>A2 rfl k) (by rw[List.length_range];exact Lb hn) ?_)
 rw[List.filter_eq_self.mpr fun z z=>rfl]
 refine AY (compN (fun z=>true) (fun c=>.int (if 2<c then (c:Int) else -1)) (v:=.d (dL (List.range n))) (l:=List.range n) (fun K k=>A2 rfl k) rfl (fun c hc e K k=>k) (fun c hc z e K k=>?_) (by rw[List.length_range];exact Lb hn) ?_)
 ·refine Ez (x:=decide (2<c)) (fun K h=>AR (A2 rfl (BN ?_))) (fun h=>A2 rfl ?_) fun h=>K9 ?_
  ·show K (decide ((2:Int)<(c:Int))) _
   rw[show decide ((2:Int)<(c:Int))=decide (2<c) from by rw[Bool.eq_iff_iff];simp;lia];exact h
  ·rw[if_pos (of_decide_eq_true h)] at k;exact k
  ·rw[if_neg (of_decide_eq_false h)] at k;exact k
 ·rw[List.filter_eq_self.mpr fun z z=>rfl]
  have k0:=A8 k0 [O.lst (tab n fun c=>PyData.int (if 2<c then (c:Int) else -1))]
  have sg:=A8 sg [O.lst (tab n fun c=>PyData.int (if 2<c then (c:Int) else -1))]
  have pt':=A8 pt' [O.lst (tab n fun c=>PyData.int (if 2<c then (c:Int) else -1))]
  have tp:=A8 tp [O.lst (tab n fun c=>PyData.int (if 2<c then (c:Int) else -1))]
  have hd:(hp++[O.lst (tab n fun c=>PyData.int (if 2<c then (c:Int) else -1))])[hp.length]?=some (.lst (tab n fun c=>PyData.int (if 2<c then (c:Int) else -1))):=by simp
  rw[show List.map (fun c:Nat=>PyData.int (if 2<c then (c:Int) else -1)) (List.range n)=tab n fun c=>PyData.int (if 2<c then (c:Int) else -1) from rfl]
  have hl:(hp++[O.lst (tab n fun c=>PyData.int (if 2<c then (c:Int) else -1))]).length=hp.length+1:=by simp
  generalize hp++[O.lst (tab n fun c=>PyData.int (if 2<c then (c:Int) else -1))]=h1 at k0 sg pt' tp hd hl ⊢
  have tp2:h1[c3]?=some (.lst (tab 2 fun c=>dI (if c=0 then x else y))):=tp
  refine AY (AW (AW (AB (A2 rfl (BN (Ai (c:=0) tp2 (by decide) (by decide) ?_))))))
  refine AW (AB (A2 rfl (BN (Ai (c:=1) tp2 (by decide) (by decide) ?_))))
  refine Aw ⟨(by decide:2≤sizeLine),Aw ⟨(by decide:1≤sizeLine),?_⟩⟩
  unfold mkL
  dsimp only
  have S:MgH i0 x0 a b c3 hp.length h1.length n tm pt ([x,y].map dI) (fun c=>if 2<c then (c:Int) else -1) [(x,y)] (h1++[.lst [dP (x,y)]]) :=
   ⟨A8 k0 _,A8 sg _,A8 pt' _,A8 tp _,A8 hd _,by simp,od.1,od.2.1,od.2.2,hc,Qr hl⟩
  refine Cn (t:=tM) (s:=bM) ⟨200+1,Jw (QQ:=qC bE QQ) (tl:=[none,none,none,none]) N (Lb hn) (fun h vs hp=>q0 h vs hp) (fun of hd R hp' o10 o11 M S'=>Ad (Nn N M (Lb hn) hx hy e0 e1 S' q0 q1)) 200 _ _ _ _ _ none none (by decide) ⟨Mrg.start N hx hy e0 e1,?_⟩ S⟩
  rw[List.length_range];show 3*n+1≤200;lia
theorem MF(h1:len one≤15)(h2:len two≤15)(k0:hp[i0]?=some x0)(q0:(∀ f,sub f one≠sub f two)→∀ hp',Q (.d .none) hp')(q1:∀ t hp',Due one two (some t)→hp'[i0]?=some x0→Q (.d (dS (named (enc t)))) hp') :
  DE [.d (.list [dS (enc one),dS (enc two)])] Q hp:=by
 have hi:i0<hp.length:=(List.getElem?_eq_some_iff.mp k0).1
 refine CV (vs0:=[_,none,none,none,none,none,none,none,none,none,none,none,none,none,none,none]) rfl rfl ?_
 rw[KS]
 refine AY ⟨(by decide:3≤sizeLine),?_⟩
 unfold mkL
 dsimp only
 refine AY (AW ⟨Nat.zero_le _,KA (AW ⟨Nat.zero_le _,KA (AW ⟨Nat.zero_le _,KA (Aw ⟨(by decide:3≤sizeLine),?_⟩)⟩)⟩)⟩)
 unfold mkL
 dsimp only
 refine AY ⟨Nat.zero_le _,?_⟩
 unfold mkL
 dsimp only
 have B:Bl0 i0 x0 hp.length (hp.length+1) (hp.length+2) (hp.length+3) [.v 0,.v 1,.v 2] [[],[],[]] [] (hp++[.lst ([Tm.v 0,.v 1,.v 2].map sgT)]++[.lst [dL [],dL [],dL []]]++[.lst []]) :=
  ⟨Nod.start,A8 (A8 (A8 k0 _) _) _,by simp,by simp,by simp,by simp,hi,Nat.lt_succ_self _,Nat.lt_succ_self _,Nat.lt_succ_self _⟩
 rw[show(hp++[O.lst [.str "x", .str "y", .str "z"]]).length=hp.length+1 from by simp,show(hp++[O.lst [.str "x", .str "y", .str "z"]]++[O.lst [.list [],.list [],.list []]]).length=hp.length+2 from by simp]
 refine E0 (A2 rfl (Kk h1 h2 B fun tms pts x y hp' o4 o5 o6 hx hy hn B'=>Ad ?_))
 refine viaP fun w zf=>?_
 obtain⟨N,k0,sg,pt,tp,ln,d0,d1,d2,d3⟩:=B'
 refine zf ?_
 refine No N.nds hn (List.getElem?_eq_some_iff.mp hx).1 (List.getElem?_eq_some_iff.mp hy).1 (DX hx) (DX hy) k0 (by rw[sg,Hw tms (.k false) sgT]) (by rw[pt,Hw pts [] dL,N.ln]) tp ⟨d0,d1,d2⟩ (fun h vs hp'=>q0 h _) fun t vs hp' D k=>q1 t _ D ?_
 rw[List.getElem?_take,if_pos hi];exact k
end
end Mine
namespace Mine
open PySem
noncomputable def wrS(c w:Nat):List Nat:=(if w % 2=0 then 34::((if c=34∨c=92 then [92,c] else [c])++[34]) else [92,c])++[if w / 2=0 then 32 else 10]
noncomputable def txt(l:List (Nat×Nat)):List Nat:=l.flatMap fun x=>wrS x.1 x.2
def Gap(p:List Nat):Prop:=p=[]∨p=[32]∨p=[10]
theorem LX{p:List Nat}(h:Gap p)(l:List Nat):(gTok (p++l)).1=(gTok l).1∧(gTok (p++l)).2.1=(gTok l).2.1:=by
 rcases h with rfl | rfl | rfl<;>exact⟨rfl,rfl⟩
theorem MY{c w:Nat}(h:c=34∨c=92∨c=35∨c=32∨∃ i,c=vc i)(l:List Nat):∃ p,Gap p∧(gTok (wrS c w++l)).1=[c]∧(gTok (wrS c w++l)).2.1=p++l:=by
 unfold wrS
 by_cases h1:w % 2=0
 ·rw[if_pos h1]
  refine⟨[if w / 2=0 then 32 else 10],?_,?_⟩
  ·by_cases h2:w / 2=0
   ·rw[if_pos h2];exact .inr (.inl rfl)
   ·rw[if_neg h2];exact .inr (.inr rfl)
  ·generalize (if w / 2=0 then 32 else 10)=s
   rcases h with rfl | rfl | rfl | rfl | ⟨i,rfl⟩
   ·exact⟨rfl,rfl⟩
   ·exact⟨rfl,rfl⟩
   ·exact⟨rfl,rfl⟩
   ·exact⟨rfl,rfl⟩
   ·have:i=0∨i=1∨i=2:=by revert i;decide
    rcases this with rfl | rfl | rfl<;>exact⟨rfl,rfl⟩
 ·rw[if_neg h1]
  refine⟨[],.inl rfl,?_⟩
  by_cases h2:w / 2=0
  ·rw[if_pos h2];exact⟨rfl,rfl⟩
  ·rw[if_neg h2];exact⟨rfl,rfl⟩
theorem JZ:∀ (x:List (Nat×Nat)) (p:List Nat),Gap p→(∀ y∈x,y.1=34∨y.1=92∨y.1=35∨y.1=32∨∃ i,y.1=vc i)→Rd (p++txt x) (x.map (·.1))
 | [],p,hp,_=>by rw[show txt []=[] from rfl,List.append_nil];exact hp
 | (c,w)::x,p,hp,h=>by
  have e:p++txt ((c,w)::x)=p++(wrS c w++txt x):=rfl
  obtain⟨g1,g2⟩:=LX hp (wrS c w++txt x)
  obtain⟨p',hp',k1,k2⟩:=MY (w:=w) (h (c,w) List.mem_cons_self) (txt x)
  refine⟨?_,?_⟩
  ·rw[e,g1,k1]
  ·rw[e,g2,k2];exact JZ x p' hp' fun y hy=>h y (List.mem_cons_of_mem _ hy)
noncomputable abbrev iI(l:List Int):List PyData:=l.map .int
structure Nums(ns:List Int):Prop where
 l:ns.length=6
 h:∀ x∈ns,0≤x∧x<256
noncomputable abbrev way(ns:List Int)(k:Nat):Nat:=(ns.getD (k % 6) 0).toNat / 64
theorem FW{α β:Type}(f:α→β)(l:List α)(lo hi:Option Int):psl (l.map f) lo hi=(psl l lo hi).map f:=by
 unfold psl;rw[List.length_map,← List.map_drop,← List.map_take]
noncomputable abbrev own6:List Int:=[1,16,34,2,0,37]
theorem LI(n:Nat):6≤n+(psl own6 (some (n:Int)) none).length:=by
 have:clipAt 6 (n:Int)≤n:=by unfold clipAt;lia
 unfold psl
 rw[List.length_take,List.length_drop]
 show 6≤n+min (6-clipAt 6 n) (6-clipAt 6 n)
 lia
section
variable{vs:List (Option V)}{hp:List O}{Q:V→List O→Prop}{K:Bool→List O→Prop}{QQ:QS}{o0 o1 o2 o3 o4 o5 o6 o7 o8 o9:Option V}{tl:List (Option V)}{ns:List Int}{a b:List Nat}
theorem Bn{l:List PyData}{k:Nat}{x:PyData}(hk:k<2 ^ 20)(h:l[k]?=some x)(q:Q (.d x) hp):opItem (.d (.list l)) (.d (.int (k:Int))) Q hp:=by
 refine⟨by lia,l,rfl,?_⟩
 rw[FL (List.getElem?_eq_some_iff.mp h).1,Option.bind_some,h];exact q
theorem Ev(h:a.length+b.length≤2 ^ 20)(q:Q (.d (dS (a++b))) hp):opAdd (.d (dS a)) (.d (dS b)) Q hp:=by
 refine⟨by rw[AH,AH,sizeLine_eq];exact Lb h,?_⟩
 have:mkS a++mkS b=mkS (a++b):=by show(⟨_++_⟩:Str)=_;simp[mkS]
 rw[this];exact q
theorem i_cS'{x:Str}(e:x=mkS a)(q:Q (.d (dS a)) hp):cS x vs Q hp:=by rw[e];exact q
theorem Jm{x y:Nat}(hy:y≠0)(q:Q (.d (dI (x % y))) hp):opMod (.d (dI x)) (.d (.int (y:Int))) Q hp:=by
 refine⟨by lia,?_⟩
 have:(x:Int).fmod (y:Int)=((x % y:Nat):Int):=by rw[Int.fmod_eq_emod_of_nonneg _ (Int.natCast_nonneg y)];rfl
 rw[this];exact q
theorem Jo{x y:Nat}(hy:y≠0)(hy':y<1000)(q:Q (.d (dI (x / y))) hp):opDiv (.d (dI x)) (.d (.int (y:Int))) Q hp:=by
 refine⟨by lia,Lb hy',?_⟩
 have:(x:Int).fdiv (y:Int)=((x / y:Nat):Int):=by rw[Int.fdiv_eq_ediv_of_nonneg _ (Int.natCast_nonneg y)];rfl
 rw[this];exact q
theorem Kn{script:List Int}{s:XS}(hz:script.length≤2 ^ 20)(q:∀ o1 ns,Nums ns→s (some (.d (.list (iI script)))::o1::some (.d (.list (iI ns)))::tl) QQ hp) :
  sCons Fg (sCons EO s) (some (.d (.list (iI script)))::none::none::tl) QQ hp:=by
 refine AY ⟨(by decide:6≤sizeLine),?_⟩
 show sCons EO s (some (.d (.list (iI script)))::some (.d (.list (iI own6)))::none::tl) QQ hp
 have e:iI script++psl (iI own6) (some (script.length:Int)) none=iI (script++psl own6 (some (script.length:Int)) none):=by
  rw[FW];exact List.map_append.symm
 have ln:=LI script.length
 have lp:(psl own6 (some (script.length:Int)) none).length≤6:=by unfold psl;rw[List.length_take,List.length_drop];exact Nat.le_trans (Nat.min_le_right _ _) (Nat.sub_le _ _)
 generalize psl own6 (some (script.length:Int)) none=z at e ln lp
 have h6:((script++z).take 6).length=6:=by rw[List.length_take,List.length_append];lia
 have e2:psl (iI (script++z)) none (some (6:Int))=iI ((script++z).take 6):=by
  rw[FW,show((6:Int))=((6:Nat):Int) from rfl,GP (by rw[List.length_append];exact ln)]
 refine AY (comp1 (v:=.d (.list (iI ((script++z).take 6)))) (xs:=iI ((script++z).take 6)) (fun w=>true) (fun d=>match d with | .int i=>.int (i.fmod 256) | _=>d) (fun K k=>?_) rfl (fun x w l K k=>k) (fun x hx w l K k=>?_) (by rw[List.length_map,h6,sizeLine_eq];decide) ?_)
 ·refine AB (A2 rfl (A2 (k:=1) rfl (Bp (A2 (k:=0) rfl ⟨by rw[List.length_map];lia,iI own6,rfl,(by decide:6≤sizeLine),?_⟩))))
  rw[List.length_map]
  refine⟨_,_,rfl,rfl,?_,?_⟩
  ·rw[FW,List.length_map]
   have lp':(psl own6 (some (script.length:Int)) none).length≤6:=by unfold psl;rw[List.length_take,List.length_drop];exact Nat.le_trans (Nat.min_le_right _ _) (Nat.sub_le _ _)
   rw[List.length_map,sizeLine_eq];lia
  ·rw[e]
   show sliceV (.d (.list (iI (script++z)))) none (some 6) K hp
   refine⟨_,rfl,?_,?_⟩
   ·rw[List.length_map,List.length_append,sizeLine_eq];lia
   ·rw[e2];exact k
 ·obtain⟨i,_,rfl⟩:=List.mem_map.mp hx
  exact AB (A2 rfl (BN ⟨by decide,k⟩))
 ·rw[List.filter_eq_self.mpr fun w w=>rfl,List.map_map]
  have:List.map ((fun d=>match d with | .int i=>.int (i.fmod 256) | _=>d) ∘ PyData.int) ((script++z).take 6)=iI (((script++z).take 6).map (·.fmod 256)):=by rw[iI,List.map_map];rfl
  rw[this]
  refine q _ _ ⟨by rw[List.length_map,h6],fun x hx=>?_⟩
  obtain⟨y,_,rfl⟩:=List.mem_map.mp hx
  have:=Int.fmod_eq_emod_of_nonneg y (show(0:Int)≤256 by decide)
  lia
theorem Nums.six(N:Nums ns):∃ a b c d e f:Int,ns=[a,b,c,d,e,f]:=by
 have h:=N.l
 clear N
 refine viaP fun z zf=>?_
 obtain⟨a,l,rfl,h1⟩:=Ex h
 obtain⟨b,l,rfl,h2⟩:=Ex h1
 obtain⟨c,d,e,f,rfl⟩:=len4 h2
 refine zf ?_
 exact⟨a,b,c,d,e,f,rfl⟩
theorem MU(N:Nums ns)(h2:vs[2]?=some (some (.d (.list (iI ns)))))(q:∀ t,len t≤15→QQ .next (vs.set 3 (some (.d (dS (enc t))))) hp):Fb vs QQ hp:=by
 obtain⟨a,b,c,d,e,f,rfl⟩:=N.six
 exact Bp (AW (AB (A2 h2 (BN (Bn (k:=0) (by decide) rfl (AW (AB (A2 h2 (BN (Bn (k:=2) (by decide) rfl (AW (AB (A2 h2 (BN (Bn (k:=4) (by decide) rfl (Aw ⟨(by decide:3≤sizeLine),II q⟩))))))))))))))))
theorem MT(N:Nums ns)(h2:vs[2]?=some (some (.d (.list (iI ns)))))(q:∀ t,len t≤15→QQ .next (vs.set 4 (some (.d (dS (enc t))))) hp):Fa vs QQ hp:=by
 obtain⟨a,b,c,d,e,f,rfl⟩:=N.six
 exact Bp (AW (AB (A2 h2 (BN (Bn (k:=1) (by decide) rfl (AW (AB (A2 h2 (BN (Bn (k:=3) (by decide) rfl (AW (AB (A2 h2 (BN (Bn (k:=5) (by decide) rfl (Aw ⟨(by decide:3≤sizeLine),II q⟩))))))))))))))))
end
theorem LG:∀ c:Fin 128,Txt.contains "\"\\" (ch c.val)=decide (c.val=34∨c.val=92):=by decide +kernel
theorem O0:∀ i:Fin 2,Txt.charAt " \n" (i.val:Int)=some (if i.val=0 then 32 else 10):=by decide +kernel
noncomputable def its(ns:List Int):Nat→List Nat→List (Nat×Nat)
 | _,[]=>[]
 | k,c::l=>(c,way ns k)::its ns (k+1) l
theorem I4(ns:List Int):∀ (l:List Nat) (k:Nat),(its ns k l).map (·.1)=l
 | [],_=>rfl
 | c::l,k=>congrArg (c :: ·) (I4 ns l (k+1))
theorem FA(c w:Nat):(wrS c w).length≤5:=by
 unfold wrS
 rw[List.length_append]
 split
 ·split
  ·exact Nat.le_refl 5
  ·exact(by decide:4≤5)
 ·exact(by decide:3≤5)
theorem Mn{x:List (Nat×Nat)}(h:∀ y∈x,y.1<128):∀ c∈txt x,c<128:=by
 intro c hc
 obtain⟨y,hy,hc⟩:=List.mem_flatMap.mp hc
 have hl:=h y hy
 unfold wrS at hc
 simp only[List.mem_append,List.mem_singleton] at hc
 rcases hc with hc | hc
 ·split at hc
  ·split at hc
   ·simp only[List.mem_cons,List.mem_append,List.not_mem_nil,or_false] at hc;lia
   ·simp only[List.mem_cons,List.mem_append,List.not_mem_nil,or_false] at hc;lia
  ·simp only[List.mem_cons,List.not_mem_nil,or_false] at hc;lia
 ·split at hc<;>lia
theorem He:∀ x:List (Nat×Nat),(txt x).length≤5*x.length
 | []=>Nat.le_refl _
 | y::x=>by
  have:=FA y.1 y.2
  have:=He x
  show(wrS y.1 y.2++txt x).length≤_
  rw[List.length_append,List.length_cons];lia
abbrev Sgn(c:Nat):Prop:=c=34∨c=92∨c=35∨c=32∨∃ i,c=vc i
theorem Sgn.lt{c:Nat}(h:Sgn c):c<128:=by
 rcases h with rfl | rfl | rfl | rfl | ⟨i,rfl⟩
 ·decide
 ·decide
 ·decide
 ·decide
 ·unfold vc;have:=i.isLt;lia
def bW:XS:=sCons (sAssign 7 (xBin opItem (xBin opAdd (xVar 3) (xVar 4)) (xVar 6))) (sCons (sAssign 8 (xBin opDiv (xBin opItem (xVar 2) (xBin opMod (xVar 6) (cI 6))) (cI 64))) (sCons (sAssign 9 (xBin opAdd (cS "\\") (xVar 7)))
 (sCons (sIf (bCmp opEq (xBin opMod (xVar 8) (cI 2)) (cI 0)) (sCons (sAssign 9 (xBin opAdd (xBin opAdd (cS "\"") (xIte (bCmp opIn (xVar 7) (cS "\"\\")) (xVar 9) (xVar 7))) (cS "\""))) sNil) sNil)
 (sCons (sAug opIAdd 5 (xBin opAdd (xVar 9) (xBin opItem (cS " \n") (xBin opDiv (xVar 8) (cI 2))))) sNil))))
section
variable{hp:List O}{Q:V→List O→Prop}{QQ:QS}{o0 o1 o6 o7 o8 o9:Option V}{ns:List Int}{one two w:List Nat}{c k:Nat}
noncomputable abbrev fw(o0 o1:Option V)(ns:List Int)(one two w:List Nat)(o6 o7 o8 o9:Option V):List (Option V):=[o0,o1,some (.d (.list (iI ns))),some (.d (dS one)),some (.d (dS two)),some (.d (dS w)),o6,o7,o8,o9,none,none,none,none]
theorem MI(N:Nums ns)(hk:k<1000)(h:(one++two)[k]?=some c)(hl:(one++two).length≤1000)(hs:Sgn c)(hz:w.length≤100000)(q:∀ o7 o8 o9,QQ .next (fw o0 o1 ns one two (w++wrS c (way ns k)) (some (.d (dI k))) o7 o8 o9) hp) :
  bW (fw o0 o1 ns one two w (some (.d (dI k))) o7 o8 o9) QQ hp:=by
 obtain⟨kl,kc⟩:=List.getElem?_eq_some_iff.mp h
 rw[List.length_append] at hl
 refine AY (AB (AB (A2 rfl (A2 rfl (Ev (Lb hl) (A2 rfl (Bm (c:=c) (by lia) (by rw[IE kl,kc]) ?_)))))))
 have h6:k % 6<ns.length:=by rw[N.l];lia
 have e6:(iI ns)[k % 6]?=some (.int (ns.getD (k % 6) 0)):=by rw[List.getElem?_map,List.getD_eq_getElem?_getD,List.getElem?_eq_getElem h6];rfl
 have hx:=N.h (ns.getD (k % 6) 0) (by rw[List.getD_eq_getElem?_getD,List.getElem?_eq_getElem h6];exact List.getElem_mem h6)
 have hn:way ns k≤3:=by show(ns.getD (k % 6) 0).toNat / 64≤3;lia
 have ex:ns.getD (k % 6) 0=(((ns.getD (k % 6) 0).toNat:Nat):Int):=by lia
 rw[ex] at e6
 refine AY (AB (AB (A2 rfl (AB (A2 rfl (BN (Jm (y:=6) (by decide) (Bn (by lia) e6 (BN (Jo (y:=64) (by decide) (by decide) ?_))))))))) )
 refine AY (AB (i_cS' (a:=[92]) (by decide) (A2 rfl (Ev (a:=[92]) (b:=[c]) (by decide:1+1≤2 ^ 20) ?_))))
 have fin:∀ (v:List Nat) (o7:Option V),v.length≤10→v++[if way ns k / 2=0 then 32 else 10]=wrS c (way ns k)→sCons (sAug opIAdd 5 (xBin opAdd (xVar 9) (xBin opItem (cS " \n") (xBin opDiv (xVar 8) (cI 2))))) sNil (fw o0 o1 ns one two w (some (.d (dI k))) o7 (some (.d (dI (way ns k)))) (some (.d (dS v)))) QQ hp:=by
  intro v o7 hv e
  refine DW rfl (AB (A2 rfl (AB (Cw (AB (A2 rfl (BN (Jo (y:=2) (by decide) (by decide) (Bm (by lia) (O0 ⟨way ns k / 2,by lia⟩) (Ev (b:=[if way ns k / 2=0 then 32 else 10]) (by rw[List.length_singleton];lia) ?_))))))))) )
  rw[e]
  refine⟨by rw[AH,AH,sizeLine_eq];have:=FA c (way ns k);lia,?_⟩
  have:mkS w++mkS (wrS c (way ns k))=mkS (w++wrS c (way ns k)):=by show(⟨_++_⟩:Str)=_;simp[mkS]
  rw[this];exact q _ _ _
 refine Az (x:=decide (way ns k % 2=0)) (fun K hh=>AR (AB (A2 rfl (BN (Jm (y:=2) (by decide) (BN ?_)))))) (fun hh=>?_) (fun hh=>?_)
 ·show K (((way ns k % 2:Nat):Int) == 0) hp
  rw[show(((way ns k % 2:Nat):Int) == 0)=decide (way ns k % 2=0) from by rw[Bool.eq_iff_iff,beq_iff_eq,decide_eq_true_iff];lia];exact hh
 ·have hh:=of_decide_eq_true hh
  have body:∀ u:List Nat,u.length≤2→u=(if c=34∨c=92 then [92,c] else [c])→opAdd (.d (dS [34])) (.d (dS u)) (fun va=>cS "\"" (fw o0 o1 ns one two w (some (.d (dI k))) (some (.d (dS [c]))) (some (.d (dI (way ns k)))) (some (.d (dS [92,c])))) fun vb=>opAdd va vb fun v hp=>qC (sCons (sAug opIAdd 5 (xBin opAdd (xVar 9) (xBin opItem (cS " \n") (xBin opDiv (xVar 8) (cI 2))))) sNil) QQ .next (fw o0 o1 ns one two w (some (.d (dI k))) (some (.d (dS [c]))) (some (.d (dI (way ns k)))) (some v)) hp) hp:=by
   intro u hu eu
   refine Ev (a:=[34]) (by rw[List.length_singleton];lia) (i_cS' (a:=[34]) (by decide) (Ev (b:=[34]) (by rw[List.length_append,List.length_singleton];lia) (Ad (fin _ _ (by rw[List.length_append,List.length_append,List.length_singleton];lia) ?_))))
   unfold wrS
   rw[if_pos hh,eu];rfl
  refine EW (AB (AB (i_cS' (a:=[34]) (by decide) (Ez (x:=decide (c=34∨c=92)) (fun K hk'=>AR (A2 rfl (Cw ?_))) (fun h'=>A2 rfl ?_) (fun h'=>A2 rfl ?_)))))
  ·show K (Txt.contains "\"\\" (ch c)) hp
   rw[show Txt.contains "\"\\" (ch c)=_ from LG ⟨c,hs.lt⟩];exact hk'
  ·exact body [92,c] (Nat.le_refl 2) (if_pos (of_decide_eq_true h')).symm
  ·exact body [c] (by decide:1≤2) (if_neg (of_decide_eq_false h')).symm
 ·refine Fr (Ad (fin [92,c] _ (by decide:2≤10) ?_))
  unfold wrS
  rw[if_neg (of_decide_eq_false hh)]
theorem JD(N:Nums ns)(hl:(one++two).length≤1000):∀ (l:List Nat) (k:Nat) (w:List Nat) (o6 o7 o8 o9:Option V),(one++two).drop k=l→(∀ c∈l,Sgn c)→w.length+5*l.length≤100000 →
  (∀ o6 o7 o8 o9,QQ .next (fw o0 o1 ns one two (w++txt (its ns k l)) o6 o7 o8 o9) hp)→forL none (tName 6) bW QQ ((List.range' k l.length).map dI) (fw o0 o1 ns one two w o6 o7 o8 o9) hp:=by
 intro l
 induction l with
 | nil =>
  intro k w o6 o7 o8 o9 _ _ _ q
  have:=q o6 o7 o8 o9
  rw[show txt (its ns k [])=[] from rfl,List.append_nil] at this
  exact⟨trivial,this⟩
 | cons c l ih =>
  intro k w o6 o7 o8 o9 hd hs hz q
  have hc:(one++two)[k]?=some c:=by have:=congrArg (·[0]?) hd;simpa using this
  have hk:=(List.getElem?_eq_some_iff.mp hc).1
  have hd':(one++two).drop (k+1)=l:=by rw[← List.drop_drop,hd];rfl
  rw[List.length_cons] at hz
  have:=FA c (way ns k)
  refine Bh trivial (MI N (Tt hk hl) hc hl (hs c List.mem_cons_self) (Tt Lr hz) fun o7 o8 o9=>ih (k+1) _ _ _ _ _ hd' (fun d h=>hs d (List.mem_cons_of_mem _ h)) (by rw[List.length_append];lia) fun o6 o7 o8 o9=>?_)
  rw[List.append_assoc];exact q o6 o7 o8 o9
theorem MR{s:XS}(N:Nums ns)(hl:(one++two).length≤1000)(hs:∀ c∈one++two,Sgn c)(q:∀ o6 o7 o8 o9,s (fw o0 o1 ns one two (txt (its ns 0 (one++two))) o6 o7 o8 o9) QQ hp):sCons FZ (sCons FY s) [o0,o1,some (.d (.list (iI ns))),some (.d (dS one)),some (.d (dS two)),none,none,none,none,none,none,none,none,none] QQ hp:=by
 refine AY (i_cS' (a:=[]) (by decide) (E0 (s:=bW) (Bp (Bp (AB (A2 rfl (A2 rfl (Ev (by rw[List.length_append] at hl;exact Lb hl) ⟨by rw[AH];lia,?_⟩))))))))
 rw[AH]
 refine⟨EK _ (Lb hl),?_⟩
 rw[EL,List.range_eq_range']
 exact JD N hl (one++two) 0 [] _ _ _ _ rfl hs (by rw[List.length_nil];lia) fun o6 o7 o8 o9=>Ad (q o6 o7 o8 o9)
end
end Mine
namespace Mine
open PySem PySem.StrLaws
theorem FM:∀ (l:List Nat) (i:Nat),((scan [10] 0 l i).length:Int)=nls l
 | [],i=>rfl
 | c::l,i=>by
  rw[Bw]
  by_cases h:c=10
  ·subst h
   have e:scan [10] 0 (10::l) i=i::scan [10] 0 l (i+1):=by simp[scan,List.isPrefixOf]
   rw[e,List.length_cons,← FM l (i+1)]
   show _=(1:Int)+_
   lia
  ·have e:scan [10] 0 (c::l) i=scan [10] 0 l (i+1):=by
    have:([10]:List Nat).isPrefixOf (c::l)=false:=by simp[List.isPrefixOf,Ne.symm h]
    simp[scan,this]
   rw[e,FM l (i+1)]
   simp[nl,h]
theorem KY(l:List Nat):Txt.count (mkS l) "\n" = nls l:=by
 have h10:("\n" : Str)=⟨([10]:List Nat).toArray⟩:=by decide
 unfold Txt.count
 rw[h10,AH,Fj l [10] (by simp)]
 exact FM l 0
def My:XS:=sCons HD (sCons HC (sCons HB (sCons Ff (sCons Ho (sCons Hn (sCons EB (sCons Fe (sCons Fd sNil))))))))
section
variable{one two:Tm}{ip il is:Nat}{l:List Nat}{hp:List O}{QQ:QS}{o0 o1 o2 o6 o7 o8 o9:Option V}{K:Bool→List O→Prop}
noncomputable abbrev fl(o0 o1 o2:Option V)(one two:Tm)(l:List Nat)(o6 o7 o8 o9:Option V)(il:Nat)(o11 o12 o13:Option V):List (Option V):=[o0,o1,o2,some (.d (dS (enc one))),some (.d (dS (enc two))),some (.d (dS l)),o6,o7,o8,o9,some (.r il),o11,o12,o13]
theorem Lc(x y:Str):(PyData.list [.str x,.str y]).eqv (.list [.str x,.str y])=true:=by
 show((x == x) && ((y == y) && true))=true
 rw[beq_self_eq_true,beq_self_eq_true];rfl
theorem Hu(h1:∀ c∈enc one,c<128)(h2:∀ c∈enc two,c<128):okD (.list [dS (enc one),dS (enc two)])=true:=Fh fun z hz=>by
 simp only[List.mem_cons,List.not_mem_nil,or_false] at hz
 rcases hz with rfl | rfl
 ·exact HE h1
 ·exact HE h2
noncomputable abbrev tmD(one two:Tm):PyData:=.list [dS (enc one),dS (enc two)]
theorem Km{s:XS}(h1:len one≤15)(h2:len two≤15){N:Int}(R:Rdy ip il is N (enc one++enc two) hp)(q:∀ hp',Rdy ip il is N [] hp'→s (fl o0 o1 o2 one two l o6 o7 o8 o9 il (some (.d (tmD one two))) none none) QQ hp') :
  sCons HD (sCons HC s) (fl o0 o1 o2 one two l o6 o7 o8 o9 il none none none) QQ hp:=by
 refine AY (AW (Bp (A2 rfl (Kb R (Nat.le_trans h1 (by decide)) fun hp1 z R1=>AW (Bp (A2 rfl (Kb (u:=[]) (t:=two) (by rw[List.append_nil];exact R1) (Nat.le_trans h2 (by decide)) fun hp2 z R2=>Aw ⟨(by decide:2≤sizeLine),?_⟩)))))))
 refine Az (x:=false) (fun K h=>AR (A2 rfl (AW (A2 rfl (AW (A2 rfl (Aw ⟨(by decide:2≤sizeLine),?_⟩))))))) nofun fun z=>Fr (Ad (q hp2 R2))
 refine⟨_,_,rfl,rfl,Hu c128 c128,Hu c128 c128,?_⟩
 rw[Lc];exact h
theorem MP{s:XS}(h1:len one≤15)(h2:len two≤15){N:Int}(R:Rdy ip il is N [] hp)(q:∀ hp' n m,Lx ip hp' il is n m→n+nls m=N→Rd m []→hp'[ip]?=some (.lst [dS (enc one),dS (enc two)])→s (fl o0 o1 o2 one two l o6 o7 o8 o9 il (some (.d (tmD one two))) none none) QQ hp') :
  sCons HB (sCons Ff s) (fl o0 o1 o2 one two l o6 o7 o8 o9 il (some (.d (tmD one two))) none none) QQ hp:=by
 obtain⟨n,m,L,e,r,n1,n2,b⟩:=R
 have up:∀ {hp':List O} (tk:List PyData),Lx ip hp' il is n m→Lx ip (hp'.set ip (.lst tk)) il is n m:=fun tk L=>L.kp (Kp.set (S:=[ip]) List.mem_cons_self) (fun h=>n1 (List.mem_singleton.mp h).symm) (fun h=>n2 (List.mem_singleton.mp h).symm)
 have L1:=up [dS (enc one)] L
 have b1:=AT (o':=.lst [dS (enc one)]) b
 refine GW (DV rfl (L.at fun z=>trivial) (AB (A2 rfl (BN (Bn (k:=0) (by decide) rfl (HT L b (by decide) ?_))))))
 refine GW (DV rfl (L1.at fun z=>trivial) (AB (A2 rfl (BN (Bn (k:=1) (by decide) rfl (HT L1 b1 (by decide:1<2 ^ 20) ?_))))))
 exact q _ n m (up _ L1) e r (AT b1)
theorem J8{ps:List Pr}{U:List (Fin 3)}(R:Rob one two ps U [])(few:ps.length≤3){a:Tm}(ha:len a≤15){k:Nat}{vs:List (Option V)}{Q:V→List O→Prop}(h:vs[k]?=some (some (.d (dS (enc a)))))(h':vs[12]?=some (some (.d (.list (flatD (prL ps))))))
  (q:Q (.d (dS (enc (ap ps a)))) hp):xCall AU (lCons (xVar k) (lStar (xVar 12))) vs Q hp :=
 Cf (AW (A2 h (A2 h' ⟨_,rfl,DY few,Kc (Nat.le_trans few (by decide)) (fun x hx=>Nat.le_trans (R.len_org (R.told x hx).2) (by decide)) (Nat.le_trans (R.len_ap ⟨a,ha,rfl⟩) (by decide)) q⟩)))
theorem Mp{k:Nat}{v:V}{b:Bool}{vs:List (Option V)}(h:vs[k]?=some (some v))(e:isNoneV v=b)(q:K b hp):bCmp opIs (xVar k) cNone vs K hp:=by
 refine AR (A2 h ?_)
 show K (isNoneV v) hp
 rw[e];exact q
theorem OA{k:Nat}{v:V}{b:Bool}{vs:List (Option V)}{Q:V→List O→Prop}(h:vs[k]?=some (some v))(e:isNoneV v=b)(q:Q (.d (.bool b)) hp):xBin opIs (xVar k) cNone vs Q hp:=by
 refine AB (A2 h ?_)
 show Q (.d (.bool (isNoneV v))) hp
 rw[e];exact q
theorem M8{a c:XE}{b:Bool}{vs:List (Option V)}{Q:V→List O→Prop}(h:∀ K':V→List O→Prop,K' (.d (.bool b)) hp→a vs K' hp)(q1:b=true→c vs Q hp)(q2:b=false→Q (.d (.bool false)) hp):xAnd a c vs Q hp:=by
 refine h _ ?_
 cases b with
 | true=>exact q1 rfl
 | false=>exact q2 rfl
theorem MQ{s:XS}{o11:Option V}(k:∀ vs hp,QQ (.ret (.d (.bool true))) vs hp):sCons EB s (fl o0 o1 o2 one two l o6 o7 o8 o9 il o11 (some (.d .none)) (some (.d .none))) QQ hp:=by
 exact Az (x:=true) (fun K h=>Mp rfl rfl h) (fun z=>i_retC' (M8 (b:=true) (fun K h=>OA rfl rfl h) (fun z=>OA rfl rfl (k _ _)) nofun)) nofun
theorem MO{ps:List Pr}{U:List (Fin 3)}{t:Tm}{o11:Option V}{fs:List (Nat×V)}(h1:len one≤15)(h2:len two≤15)(R:Rob one two ps U [])(few:ps.length≤3)(e1:ap ps one=ap ps two)(e2:named (enc (ap ps one))=named (enc t))
  (hb:hp[il]?=some (.inst 76 fs)) (hf:fs.lookup 1=some (.d (.int (1+nls l)))) (k:∀ vs hp,QQ (.ret (.d (.bool true))) vs hp) :
  sCons EB (sCons Fe (sCons Fd sNil)) (fl o0 o1 o2 one two l o6 o7 o8 o9 il o11 (some (.d (.list (flatD (prL ps))))) (some (.d (dS (named (enc t)))))) QQ hp:=by
 refine Az (x:=false) (fun K h=>?_) nofun fun z=>Fr (Ad ?_)
 ·exact Mp rfl rfl (Mp rfl rfl h)
 refine Az (x:=false) (fun K h=>AR (K8 (A2 rfl (Ba hb hf (AB (BN (Co (x:=mkS l) (fun K k=>A2 rfl k) (AW (Cw (Aw ?_)))))))))) nofun fun z=>Fr (Ad ?_)
 ·show K (!decide (1+nls l=1+Txt.count (mkS l) "\n")) hp
  rw[KY,decide_eq_true rfl];exact h
 refine i_retC' (M8 (b:=true) (fun K h=>AB (J8 R few h1 rfl rfl (J8 R few h2 rfl rfl ?_))) (fun z=>?_) nofun)
 ·show K (.d (.bool (mkS (enc (ap ps one)) == mkS (enc (ap ps two))))) hp
  rw[← e1,beq_self_eq_true];exact h
 refine AB (Bp (J8 R few h1 rfl rfl (IG ⟨Nat.le_trans (R.len_ap ⟨one,h1,rfl⟩) (by decide),c128⟩ (A2 rfl ?_))))
 show QQ (.ret (.d (.bool (mkS (named (enc (ap ps one))) == mkS (named (enc t)))))) _ _
 rw[e2,beq_self_eq_true];exact k _ _
theorem MN(h1:len one≤15)(h2:len two≤15)(R:Rdy ip il is (1+nls l) (enc one++enc two) hp)(o:is<ip∧ip<il)(k:∀ vs hp,QQ (.ret (.d (.bool true))) vs hp):My (fl o0 o1 o2 one two l o6 o7 o8 o9 il none none none) QQ hp:=by
 refine Km h1 h2 R fun hp1 R1=>MP h1 h2 R1 fun hp2 n m L e r tk=>?_
 refine AY (Bp (A2 rfl (Lo h1 h2 L e r tk o (fun hn hp3 ne=>?_) fun ps U hp3 R few L3=>?_)))
 ·obtain⟨x,hp3,rfl⟩:=List.exists_cons_of_ne_nil ne
  refine AY (Bp (A2 rfl (MF (i0:=0) (x0:=x) h1 h2 rfl (fun z hp4=>MQ k) fun t hp4 D z=>?_)))
  cases D with | some f t h3 h4 _=>exact(hn f (h3.symm.trans h4)).elim
 ·obtain⟨fs,e1,e2,_⟩:=L3.ob
  refine AY (Bp (A2 rfl (MF h1 h2 e1 (fun hn hp4=>(hn _ R.done.1).elim) fun t hp4 D k4=>?_)))
  cases both (.some ps U R) D with | some ps t b1 b2=>exact MO h1 h2 R few b1 b2 k4 e2 k
end
end Mine
namespace Mine
open PySem PySem.Spec PySem.Calls PyProof.Rows
section
variable{K:KX}{Kf:W.Frag}{mg mb:Str→Option Value}{c2 c3:Addr}{o2 o3:Obj}{ps:Array Value}{n2:K.New c2}{n3:K.New c3}
theorem FnOk.codes{a:Addr}{st:Stmt}(h:FnOk K a st):FnOk (K.codes c2 c3 o2 o3 ps n2 n3) a st:=let ⟨fd,X,d,k⟩:=h;⟨fd,X.codes,d,k⟩
theorem FnOkD.codes{a:Addr}{st:Stmt}{v:Value}(h:FnOkD K a st v):FnOkD (K.codes c2 c3 o2 o3 ps n2 n3) a st v:=let ⟨fd,X,d,k⟩:=h;⟨fd,X.codes,d,k⟩
theorem ReAt.codes{a:Addr}(h:ReAt K a):ReAt (K.codes c2 c3 o2 o3 ps n2 n3) a:=⟨h.ob,h.tb⟩
theorem S3.codes(N:S3 K Kf mg mb):S3 (K.codes c2 c3 o2 o3 ps n2 n3) Kf mg mb :=
 ⟨⟨N.G.g,N.G.g',N.G.b,N.G.b',N.G.lim,N.G.lim'⟩,⟨N.X.inn,N.X.ntb⟩,N.attrs,N.x_Headers__convert_string_type.codes,N.m_Headers__convert_string_type,N.x_Headers_get_all.codes,N.m_Headers_get_all,N.x__netrclex_push_token.codes,N.m__netrclex_push_token,N.x_Headers_add_header.codes,N.m_Headers_add_header,N.x__formatparam.codes,N.bd__formatparam,N.g__formatparam,N.x_Headers___init__.codes,N.bd_Headers___init__,N.m_Headers___init__,N.x__netrclex___init__.codes,N.m__netrclex___init__,N.x__law_stream.codes,N.g__law_stream,N.x__law_parts.codes,N.g__law_parts,N.x__law_drawn.codes,N.g__law_drawn,N.x__netrclex__read_char.codes,N.m__netrclex__read_char,N.x__netrclex_get_token.codes,N.m__netrclex_get_token,N.x__law_term.codes,N.g__law_term,N.x__law_cut.codes,N.g__law_cut,N.x__law_named.codes,N.g__law_named,N.x__law_due.codes,N.g__law_due,N.x_replace.codes,N.g_replace,N.x__law_pairs.codes,N.g__law_pairs,N.x__law_made_alike.codes,N.g__law_made_alike,N.g_Headers,N.c_Headers,N.f_Headers__headers,N.g__netrclex,N.c__netrclex,N.f__netrclex_lineno,N.f__netrclex_instream,N.f__netrclex_whitespace,N.f__netrclex_pushback,N.g__name_disallowed_re,N.g__value_disallowed_re,N.iter0,N.iter1,N.len0,N.len1,N.list0,N.list1,N.range0,N.range1,N.str0,N.str1,N.type0,N.type1,N.zip0,N.zip1,N.k_replace,N.bd0_Headers___init__,N.bd0__formatparam,N.sm,N.rc,N.rcm,N.rc1,N.rc2,N.ah1,N.ah2,⟨N.rt.bd,N.rt.form,N.rt.co,N.rt.gen,N.rt.kd,N.rt.nc,N.rt.lf,N.rt.sz,N.rt.bind⟩,fun p hp=>⟨(N.re p hp).1.codes,(N.re p hp).2⟩⟩
end
noncomputable abbrev lawSt(i:Nat):Stmt:=(fBody (stAt 22)).getD i default
noncomputable abbrev lawNm:List Str:=["script", "own", "numbers", "one", "two", "text", "k", "sign", "way", "word", "lexer", "terms", "pairs", "due"]
theorem Ie:∃ p1 p2 p3 p4 p5 p6 pos,lawSt 6 = .Assign [.Name "lexer" p1] (.Call (.Name "_netrclex" p2) [.Call (.Name "_law_stream" p3) [.Name "text" p4] [] p5] [] p6) pos ∧
  (∀ env,swapsWith (.Call (.Name "_netrclex" p2) [.Call (.Name "_law_stream" p3) [.Name "text" p4] [] p5] [] p6) (some (.Name "lexer" p1)) pos.line env=pure false):=⟨_,_,_,_,_,_,_,rfl,fun z=>rfl⟩
inductive Post6(K:KX)(Kf:W.Frag)(mg mb:Str→Option Value)(env:Env)(vs:List (Option V))(ρ:Rho)(hp:List O)(s:Shared)(l:List Nat)(s':Shared):Prop
 | mk (ps:Array Value) (c2 c3:Addr) (o2 o3:Obj) (n2:K.New c2) (n3:K.New c3) (T:StrT (K.codes c2 c3 o2 o3 ps n2 n3)) (hp':List O) (ρ':Rho) (h':Heap) (t':Tok) (e:s'={ s with heap:=h',toks:=t' })
   (b:hp'[hp.length+1]?=some (.lst [])) (L:Lx (hp.length+1) hp' (hp.length+2) hp.length 1 l) (F:FRel (K.codes c2 c3 o2 o3 ps n2 n3) env (lk lawNm) (vs.set 10 (some (.r (hp.length+2)))) ρ' h') (H:HRel (K.codes c2 c3 o2 o3 ps n2 n3) ρ' hp' h') (S:StepS K env ρ s.heap ρ' h')
theorem Id{K:KX}{Kf:W.Frag}{mg mb:Str→Option Value}(N:S3 K Kf mg mb){fds:FuncData}(SN:StreamNew K mg 240 239 fds)(h3:mainGlobals=3)(hb0:builtinsNs=0)
  {fd:FuncData} {a L:Addr} {A:Around} (ok:OkA 8 A) {ρ:Rho} {hp:List O} {s:Shared} {E:Value→Shared→Prop} {vs:List (Option V)} {l:List Nat} (hv:vs[5]?=some (some (.d (dS l)))) (hl:vs.length=14) (ol:okl l)
  (F:FRel K (callEnvC (fdOf (stAt 22) fd) L a) (lk lawNm) vs ρ s.heap) (H:HRel K ρ hp s.heap) :
  wpAny (model K.prog K.w) A (exec (lawSt 6) (callEnvC (fdOf (stAt 22) fd) L a)) (fun fl s'=>fl = .next∧Post6 K Kf mg mb (callEnvC (fdOf (stAt 22) fd) L a) vs ρ hp s l s') E s:=by
 refine viaP fun z zf=>?_
 obtain⟨p1,p2,p3,p4,p5,p6,pos,f2,sw⟩:=Ie
 refine zf ?_
 rw[f2]
 generalize hE:callEnvC (fdOf (stAt 22) fd) L a=env at *
 have k1:env.kindOf "_netrclex" = some .globalImplicit:=by rw[← hE];rfl
 have k2:env.kindOf "_law_stream" = some .globalImplicit:=by rw[← hE];rfl
 have k3:env.kindOf "text" = some .local:=by rw[← hE];rfl
 have k4:env.kindOf "lexer" = some .local:=by rw[← hE];rfl
 refine wpAny_Assign_Name ?_ (sw env)
 refine wpAny_Call_Name_kw (Calls.Name_function_global F.kd k1 (Calls.loadGlobal_global (mg:=mg) ?_ N.g__netrclex ?_) rfl)
 ·rw[F.gl];exact H.nsOf N.G.g N.G.g'
 refine W.callWith_K N.X.inn (Ka N.c__netrclex) ?_ (E8 rfl) rfl
 refine spliced_more ?_ (E8 rfl)
 refine wpAny_Call_Name_kw (Calls.Name_function_global F.kd k2 (Calls.loadGlobal_global (mg:=mg) ?_ N.g__law_stream ?_) rfl)
 ·rw[F.gl];exact H.nsOf N.G.g N.G.g'
 obtain⟨os,hos,hds⟩:=SN.X.ob
 refine callWith_function_kw (o:=os) (fd:=fdOf (stAt 13) fds) ?_
 have lp:SoundL K 8 env (lk lawNm) [.Name "text" p4] (lCons (xVar 5) lNil):=l_c (A1 (.inl k3) rfl rfl rfl) A6 rfl
 have base:=lp A ok p5 vs (fun vs h=>vs=[.d (dS l)]∧h=hp) hp ρ s E (AW (A2 hv (Aw ⟨rfl,rfl⟩))) F H
 rw[show backTo p5 (starEach [.Name "text" p4] env)=[(false,(backTo p5 (starEach [.Name "text" p4] env)).head!.2)] from rfl] at *
 refine Calls.evalArgs_plain (wpAny_mono base ?_ (fun z z x=>x))
 rintro rvs s1 ⟨vl,hp1,ρ1,h1,t1,rfl,⟨rfl,rfl⟩,H1,S1,R1⟩
 refine⟨⟨H1.keep _ _ hos SN.X.tb,hds⟩,?_⟩
 refine viaP fun z zf=>?_
 cases R1 with | cons ra rb=>cases rb with | nil=>cases ra with | str _ tt =>
 have F1:=F.step H S1
 refine zf ?_
 refine wpAny_call ?_
 refine codeAny_mono (FK (E:=E) N.G SN h3 hb0 (ok.le (by decide)) (s:={ s with heap:=h1,toks:=t1 }) (l:=l) (t:=tt) H1 ol.1) ?_
 intro r s2 h2
 cases r with
 | error e=>exact h2
 | ok fl =>
  cases fl with
  | ret v =>
   obtain⟨ps,c2,c3,o2,o3,vs2,t2,n2,n3,SO,d3,P⟩:=h2
   obtain⟨ρ3,h3',t3,rfl,H3,S3',V3⟩:=P
   dsimp only
   have N1:S3 (K.codes c2 c3 o2 o3 ps n2 n3) Kf mg mb:=N.codes
   have F1':=F1.step H1 S3'.uncodes
   have n3t:c3≠K.tb:=H.newTb n3
   have F3:FRel (K.codes c2 c3 o2 o3 ps n2 n3) env (lk lawNm) vs ρ3 h3':=F1'.codes (H3.keepG _ _ SO.h2 SO.n2) (by
    by_cases q:c3=c2
    ·exact .inl q
    ·refine .inr (H3.keepG _ _ ?_ n3t)
     show(if c3=c2 then _ else if c3=c3 then _ else _)=_
     rw[if_neg q,if_pos rfl]) ⟨_,SO.v2⟩ d3
   refine spliced_none ⟨N1.X.now H3,?_⟩
   refine wpAny_mono ((E3 N1).call A (ok.le (by decide)) ρ3 (hp1++[.stream l]) { s with heap:=h3',toks:=t3 } [.r hp1.length] [v] [] (fun v h=>v = .r (hp1.length+2)∧h[hp1.length+1]?=some (.lst [])∧Lx (hp1.length+1) h (hp1.length+2) hp1.length 1 l) E rfl ?_ H3 (.cons V3 .nil)) ?_ (fun z z x=>x)
   ·have:=IH (j:=hp1.length) (l:=l) (hp:=hp1++[.stream l]) (Q:=fun v h=>v = .r (hp1.length+2)∧h[hp1.length+1]?=some (.lst [])∧Lx (hp1.length+1) h (hp1.length+2) hp1.length 1 l) (by simp) ol
    rw[show(hp1++[O.stream l]).length=hp1.length+1 from by simp] at this
    exact this fun L=>⟨rfl,by simp,L⟩
   rintro rv s4 ⟨v4,hp4,ρ4,h4,t4,rfl,⟨rfl,b4,L4⟩,H4,S4,V4⟩
   have F4:=F3.step H3 S4
   refine wpAny_mono (AV (K:=K.codes c2 c3 o2 o3 ps n2 n3) (k:=10) (s:={ s with heap:=h4,toks:=t4 }) (.inl k4) rfl F4 H4 V4) ?_ (fun z z x=>x)
   rintro _ s5 ⟨h5,t5,rfl,F5,H5,S5⟩
   exact⟨rfl,ps,c2,c3,o2,o3,n2,n3,GD N1.G SO h3 hb0,hp4,ρ4,h5,t5,rfl,b4,L4,F5,H5,((S1.toS.trans S3'.uncodes.toS).trans S4.uncodes.toS).trans ⟨S5.pre,S5.new,S5.keep,S5.dom⟩⟩
  | _=>exact h2
theorem K1:fBody (stAt 22)=[lawSt 0,lawSt 1,lawSt 2,lawSt 3,lawSt 4,lawSt 5]++lawSt 6::[lawSt 7,lawSt 8,lawSt 9,lawSt 10,lawSt 11,lawSt 12,lawSt 13,lawSt 14,lawSt 15]:=rfl
inductive Made(script:List Int)(vs:List (Option V)):Prop
 | mk (one two:Tm) (l:List Nat) (o1 o2 o6 o7 o8 o9:Option V) (h1:len one≤15) (h2:len two≤15) (ol:okl l) (r:Rd l (enc one++enc two)) (e:vs=[some (.d (.list (iI script))),o1,o2,some (.d (dS (enc one))),some (.d (dS (enc two))),some (.d (dS l)),o6,o7,o8,o9,none,none,none,none])
theorem MW{script:List Int}(hz:script.length≤2 ^ 20):seqX [(lawSt 0,Fg),(lawSt 1,EO),(lawSt 2,Fb),(lawSt 3,Fa),(lawSt 4,FZ),(lawSt 5,FY)] [some (.d (.list (iI script))),none,none,none,none,none,none,none,none,none,none,none,none,none]
  (fun fl vs' hp'=>fl = .next∧Made script vs'∧hp'=[]) []:=by
 unfold seqX
 dsimp only[List.foldr_cons,List.foldr_nil]
 refine Kn hz fun o1 ns N=>DB (MU N rfl fun one h1=>Ad (DB (MT N rfl fun two h2=>Ad ?_)))
 have hs:∀ c∈enc one++enc two,Sgn c:=fun c hc=>(List.mem_append.mp hc).elim BC BC
 have l2:(enc one++enc two).length≤30:=by rw[List.length_append];exact Nat.add_le_add h1 h2
 refine MR N (Nat.le_trans l2 (by decide)) hs fun o6 o7 o8 o9=>⟨rfl,?_,rfl⟩
 have ef:=I4 ns (enc one++enc two) 0
 have si:∀ y∈its ns 0 (enc one++enc two),Sgn y.1:=fun y hy=>hs _ (by rw[← ef];exact List.mem_map.mpr ⟨y,hy,rfl⟩)
 have li:(its ns 0 (enc one++enc two)).length≤30:=by have:=congrArg List.length ef;rw[List.length_map] at this;lia
 have tl:=He (its ns 0 (enc one++enc two))
 have rd:=JZ (its ns 0 (enc one++enc two)) [] (.inl rfl) si
 rw[ef] at rd
 exact⟨one,two,_,_,_,_,_,_,_,h1,h2,⟨by lia,Mn fun y hy=>(si y hy).lt⟩,rd,rfl⟩
inductive PostLaw(K:KX)(ρ:Rho)(s:Shared)(rv:Value)(s':Shared):Prop
 | mk (ρ':Rho) (h':Heap) (t':Nat) (e:s'={ s with heap:=h',toks:=t' }) (ev:rv = .bool true) (tab:∃ ps,h'.get? K.tb=some { cls:=.none,data:=.fields ps }) (S:Step K ρ s.heap ρ' h')
set_option tactic.hygienic true in
theorem K0{K:KX}{Kf:W.Frag}{mg mb:Str→Option Value}(N:S3 K Kf mg mb){fds:FuncData}(SN:StreamNew K mg 240 239 fds)(h3:mainGlobals=3)(hb0:builtinsNs=0)(X:FnOk K 299 (stAt 22))
  {A:Around} (ok:OkA 15 A) {s:Shared} {script:List Int} {rv:Value} {E:Value→Shared→Prop} (hz:script.length≤2 ^ 20) (H:HRel K [] [] s.heap) (hv:VR [] s.heap (.d (.list (iI script))) rv) :
  codeAny (model K.prog K.w) A (.call (.ref 299) ⟨[rv],[]⟩) (fun r s'=>match r with | .ok (.ret v)=>PostLaw K [] s v s' | .ok _=>False | .error e=>E e s') s:=by
 refine viaP fun z zf=>?_
 obtain⟨fd,X,hd,hk⟩:=X
 refine zf ?_
 refine OU (r:=14) (ps:=([("script" : Str)]:List Str)) (rest:=(["own", "numbers", "one", "two", "text", "k", "sign", "way", "word", "lexer", "terms", "pairs", "due"]:List Str)) (n:=13) (vas:=[.d (.list (iI script))]) (Post:=PostLaw K [] s) N.G X ?_ (by decide) (kindsOk rfl) (noFree rfl) ok H (.cons hv .nil) rfl ?_
 ·intro ras h
  obtain⟨n1,n2,n3,n4,n5,n6,n7,n8,n9,n10,n11,n12,n13,n14,n15⟩:=fd
  subst hd;subst hk
  obtain⟨a0,rfl⟩:=List.length_eq_one_iff.mp h
  rfl
 intro h₂ t₂ A' E' ok' F H₂ S₂ np
 rw[K1]
 refine Eo (Q:=fun vs hp=>Made script vs∧hp=[]) ok' [(lawSt 0,Fg),(lawSt 1,EO),(lawSt 2,Fb),(lawSt 3,Fa),(lawSt 4,FZ),(lawSt 5,FY)] _ [] [] { s with heap:=h₂,toks:=t₂ } ?_ (MW hz) F H₂ ?_
 ·intro x hx
  simp only[List.mem_cons,List.not_mem_nil,or_false] at hx
  rcases hx with rfl | rfl | rfl | rfl | rfl | rfl
  ·exact Mk N fd
  ·exact Mj N fd
  ·exact Mi N fd
  ·exact Mh N fd
  ·exact Mg N fd
  ·exact Mf N fd
 rintro vs' hp' ρ₃ h₃ t₃ ⟨⟨one,two,l,o1,o2,o6,o7,o8,o9,l1,l2,ol,rd,rfl⟩,rfl⟩ F₃ H₃ S₃
 refine wpAny_execs_cons (wpAny_mono (Id N SN h3 hb0 (ok'.le (by decide)) (s:={ s with heap:=h₃,toks:=t₃ }) rfl rfl ol F₃ H₃) ?_ (fun z z x=>x))
 rintro fl s₄ ⟨rfl,ps,c2,c3,d2,d3,n2,n3,T,hp4,ρ₄,h₄,t₄,rfl,b,L4,F₄,H₄,S₄⟩
 have N1:S3 (K.codes c2 c3 d2 d3 ps n2 n3) Kf mg mb:=N.codes
 have tail:=A0 (Me N1 fd (a:=299) (L:=s.heap.objs.size)) (A0 (Md N1 fd) (A0 (Mc N1 fd) (A0 (Kv N1 fd) (A0 (Ku N1 T fd) (A0 (Kt N1 fd) (A0 (Ks N1 fd) (A0 (Kr N1 fd) (A0 (Kq N1 fd) A3))))))))
 have R:Rdy 1 2 0 (1+nls l) (enc one++enc two) hp4:=⟨1,l,L4,rfl,rd,by decide,by decide,b⟩
 refine wpAny_mono (tail A' ok' _ (fun fl vs hp=>fl = .ret (.d (.bool true))) hp4 ρ₄ { s with heap:=h₄,toks:=t₄ } E' (MN (o0:=some (.d (.list (iI script)))) l1 l2 R ⟨by decide,by decide⟩ fun z z=>rfl) F₄ H₄) ?_ (fun z z x=>x)
 rintro fl s₈ ⟨af,vs8,hp8,ρ₈,g₈,t₈,rfl,rfl,F₈,H₈,S₈,fr⟩
 cases fl<;>first | exact fr.elim | skip
 rename_i rv8
 obtain⟨ps8,_,tab⟩:=H₈.tab
 refine⟨rv8,rfl,ρ₈,g₈,t₈,rfl,by cases fr;rfl,⟨ps8,tab⟩,?_⟩
 have TT:=(S₃.trans S₄).trans ⟨S₈.pre,S₈.new,S₈.keep,S₈.dom⟩
 refine⟨TT.pre,?_,?_,?_⟩
 ·intro q hq
  rcases TT.new q hq with x | x
  ·exact .inl x
  ·exact .inr ⟨AJ S₂.dom x.1,fun b hb=>AJ S₂.dom (x.2 b hb)⟩
 ·intro b o e hb hm
  exact TT.keep b o (S₂.keep b o e hb hm) hb hm (np b o e)
 ·intro b o e
  obtain⟨o',e'⟩:=S₂.dom b o e
  exact TT.dom b o' e'
noncomputable def readFdK:FuncData:={ (default:FuncData) with params:=fArgs (stS 2),body:=.stmts (fBody (stS 2)),scope:=fScope (stS 2) }
noncomputable abbrev KK(prog:Program)(w:World)(h:Heap):KX:={ prog:=prog,w:=w,h0:=h,hg:=h.get?,sub:=fun z z e=>e,tb:=237,tc:=239,ok:=(· = #[]),attrs:=["_headers", "lineno", "instream", "whitespace", "pushback"],readChar:=59,streamFn:=default,readFd:=readFdK }
noncomputable def Kcut(K:W.Frag):W.Frag:=K.filter (fun x=>x.1 != 237)
theorem Gj(K:W.Frag):∀ (a:Addr) (o:Obj),(Kcut K).lookup a=some o→K.lookup a=some o∧a≠237:=by
 induction K with
 | nil=>intro a o h;cases h
 | cons x K ih =>
  intro a o h
  obtain⟨b,ob⟩:=x
  unfold Kcut at h
  rw[List.filter_cons] at h
  split at h
  ·rename_i hb
   rw[List.lookup_cons] at h ⊢
   cases hab:a == b with
   | true =>
    rw[hab] at h
    have:a=b:=beq_iff_eq.mp hab
    exact⟨h,by rw[this];simpa using hb⟩
   | false=>rw[hab] at h;exact ih a o h
  ·rename_i hb
   have hb':b=237:=by simpa using hb
   obtain⟨h1,h2⟩:=ih a o h
   refine⟨?_,h2⟩
   rw[List.lookup_cons]
   have:(a == b)=false:=by rw[beq_eq_false_iff_ne,hb'];exact h2
   rw[this];exact h1
theorem kf_of{prog:Program}{w:World}{h:Heap}{K:W.Frag}(X:K.In h):KF (KK prog w h) (Kcut K) :=
 ⟨fun a o e=>X a o (Gj K a o e).1,fun a o e=>(Gj K a o e).2⟩
set_option tactic.hygienic true in
theorem ns_of{K:W.Frag}{h:Heap}{a:Addr}{m:Str→Option Value}{n:Str}{r:Option Value}(X:K.In h)(G:h.Ns a m)(e:W.nsIn K a n=some r):m n=r:=by
 obtain⟨o,es,ep,ho,hd,_,hf⟩:=G
 unfold W.nsIn at e
 cases q:K.lookup a with
 | none=>rw[q] at e;cases e
 | some o' =>
  have z:=X _ _ q
  rw[ho] at z
  cases z
  obtain⟨c,d,dt,sl⟩:=o
  cases hd
  rw[q] at e
  rw[← hf]
  unfold nsFind findBy
  rw[← Array.find?_toList]
  dsimp only at e
  generalize es.toList.find? _=y at e ⊢
  cases y with
  | some en=>cases e;rfl
  | none =>
   dsimp only at e
   generalize es.toList.any _=b at e
   cases b with
   | true=>cases e
   | false=>cases e;rfl
theorem fnok_of{K:W.Frag}{prog:Program}{w:World}{h:Heap}(X:K.In h){st:Stmt}{a c:Addr}(fd:FuncData){o oc:Obj}{vs:Array Value}{t:Tok}(ea:K.lookup a=some o)(ed:o.data = .func (fdOf st fd))(ec:K.lookup c=some oc)
  (ecd:oc.data = .fields vs) (eq:vs[1]?=some (.str fd.qualname t)) (hc:fd.code = .ref c) (n1:a≠237) (n2:c≠237) (hd:fd.defaults = .none) (hk:fd.kwdefaults = .none)
  (co:(fScope st).isCoroutine=false) (gen:(fScope st).isGenerator=false) (kd:(fScope st).kind = .function):FnOk (KK prog w h) a st :=
 ⟨fd,⟨⟨o,X a o ea,ed⟩,n1,rfl,⟨c,oc,vs,t,hc,X c oc ec,ecd,eq,n2⟩,rfl,rfl,rfl,co,gen,kd⟩,hd,hk⟩
noncomputable def fnOf(K:W.Frag)(a:Addr):FuncData:=match K.lookup a with | some o=>(match o.data with | .func fd=>fd | _=>default) | none=>default
theorem fnokD_of{K:W.Frag}{prog:Program}{w:World}{h:Heap}(X:K.In h){st:Stmt}{a c:Addr}(fd:FuncData){o oc:Obj}{vs:Array Value}{t:Tok}{dv:Value}(ea:K.lookup a=some o)(ed:o.data = .func (fdOf st fd))(ec:K.lookup c=some oc)
  (ecd:oc.data = .fields vs) (eq:vs[1]?=some (.str fd.qualname t)) (hc:fd.code = .ref c) (n1:a≠237) (n2:c≠237) (hd:fd.defaults=dv) (hk:fd.kwdefaults = .none)
  (co:(fScope st).isCoroutine=false) (gen:(fScope st).isGenerator=false) (kd:(fScope st).kind = .function):FnOkD (KK prog w h) a st dv :=
 ⟨fd,⟨⟨o,X a o ea,ed⟩,n1,rfl,⟨c,oc,vs,t,hc,X c oc ec,ecd,eq,n2⟩,rfl,rfl,rfl,co,gen,kd⟩,hd,hk⟩
theorem read_text{prog:Program}{w:World}{h:Heap}:ReadText (KK prog w h) "size" readBody where
 bd:=rfl
 form:=⟨_,_,_,_,_,_,_,_,_,_,_,rfl,rfl⟩
 co:=rfl
 gen:=rfl
 kd:=rfl
 nc:=by
  have h:(fScope (stS 2)).names.all (fun x=>x.2 != .cell)=true:=by decide +kernel
  intro x hx
  have:=List.all_eq_true.mp h x hx
  intro e;rw[e] at this;cases this
 lf:=rfl
 sz:=rfl
 bind:=by
  intro fd h1 h2 h3 v
  obtain⟨n1,n2,n3,n4,n5,n6,n7,n8,n9,n10,n11,n12,n13,n14,n15⟩:=fd
  subst h1;subst h2;subst h3
  rfl
theorem well_vr{P:Params}{h:Heap}{a:Addr}{script:List Int}(W:PySem.W.Well P h (.ref a) (PySem.W.ofPy (.list (script.map PyData.int)))):VR [] h (.d (.list (iI script))) (.ref a):=by
 have key:∀ (xs:List Int) (vs:List Value),PySem.W.WellAll P h vs (PySem.W.ofPys (xs.map PyData.int))→DRs h [] vs (iI xs):=by
  intro xs
  induction xs with
  | nil=>intro vs w;cases w;exact .nil
  | cons x xs ih =>
   intro vs w
   cases w with
   | cons a b =>
    refine .cons ?_ (ih _ b)
    cases a
    exact .int _ _
 cases W with
 | list e w=>exact DR.list (n:=0) e (by simp[mu]) (by simpa using key script _ w)
noncomputable def fragOf{K:W.Frag}{h:Heap}(X:K.In h):W.Frag:=K
theorem okCaller:OkA 15 callerA:=⟨rfl,by decide,by decide⟩
theorem law2_end{prog:Program}{w:World}{s:Shared}{mg mb:Str→Option Value}{fr:W.Frag}{script:List Int}{fds:FuncData}(N:S3 (KK prog w s.heap) (Kcut fr) mg mb)
  (SN:StreamNew (KK prog w s.heap) mg 240 239 fds) (FX:FnOk (KK prog w s.heap) 299 (stAt 22)) (H:HRel (KK prog w s.heap) [] [] s.heap)
  (it:isCodeTable s.heap 237) (et:s.heap.get? 237=some { cls:=.none,data:=.fields #[] }) (hz:script.length≤2 ^ 20) (hv:VR [] s.heap (.d (.list (iI script))) (.ref 300)) {E:Value→Shared→Prop} :
  wpAny (model prog w) callerA (call (.ref 299) [.ref 300]) (fun v s'=>v = .bool true∧OldK s.heap s'.heap∧s'.os=s.os∧s'.gens=s.gens) E s:=by
 refine wpAny_call ?_
 refine codeAny_mono (K0 (E:=E) N SN rfl rfl FX okCaller hz H hv) ?_
 intro r s' h
 cases r with
 | error e=>exact h
 | ok fl =>
  cases fl with
  | ret v =>
   obtain⟨ρ',h',t',rfl,rfl,tab,S'⟩:=h
   refine⟨rfl,⟨fun b o e=>?_,fun b o e=>S'.dom b o e⟩,rfl,rfl⟩
   by_cases hb:b=237
   ·subst hb
    rw[et] at e
    cases e
    obtain⟨ps,e'⟩:=tab
    refine .inr (.inl ⟨it,rfl,#[],ps,rfl,?_⟩)
    rw[Array.empty_append]
    exact e'
   ·exact .inl (S'.keep b o e hb (by simp[mu]))
  | _=>exact h
end Mine
namespace Mine
open PySem PySem.Spec PySem.W PySem.W.X PyProof.Rows
noncomputable abbrev en(P:Params)(k:Str)(t:Tok)(v:Value):DictEntry:=⟨PyData.keyHash P k,.str k t,v⟩
noncomputable def fdT(st:Stmt)(fd:FuncData):FuncData:={ fdOf st fd with globals:=0 }
noncomputable abbrev eb(P:Params)(k:String)(t:Tok):DictEntry:=en P (Str.ofString k) t (.builtin k)
noncomputable def oT(c:String)(d:Data):Obj:={ cls:=.type c,dict:=none,data:=d,slots:=#[] }
noncomputable def oN(d:Data):Obj:={ cls:=.none,dict:=none,data:=d,slots:=#[] }
noncomputable def i0:Value:=.int 0 0
noncomputable def fO(n q:Str)(d m c:Value):FuncData:={ name:=n,qualname:=q,params:=default,body:=.stmts [],scope:=default,globals:=3,closure:=[],defaults:=d,kwdefaults:=.none,doc:=.none,pyModule:=m,annotations:=none,code:=c,closureTuple:=.none,builtins:=0 }
noncomputable def o0(P:Params):Obj:=oT "dict" (.dict #[en P "__name__" 1 (.str "builtins" 160),en P "__doc__" 2 (.builtin "builtins.__doc__:str#opaque"),en P "__package__" 3 (.builtin "builtins.__package__:str#opaque"),en P "__loader__" 4 (.builtin "builtins.__loader__:shared#opaque"),en P "__spec__" 5 (.builtin "builtins.__spec__#opaque"),eb P "__build_class__" 6,en P ⟨⟨[95,95,105,109,112,111,114,116,95,95]⟩⟩ 7 (.builtin "__import__"),eb P "abs" 8,eb P "all" 9,eb P "any" 10,eb P "ascii" 11,eb P "bin" 12,eb P "breakpoint" 13,eb P "callable" 14,eb P "chr" 15,eb P "compile" 16,eb P "delattr" 17,eb P "dir" 18,eb P "divmod" 19,eb P "eval" 20,eb P "exec" 21,eb P "format" 22,eb P "getattr" 23,eb P "globals" 24,eb P "hasattr" 25,eb P "hash" 26,eb P "hex" 27,eb P "id" 28,eb P "input" 29,eb P "isinstance" 30,eb P "issubclass" 31,eb P "iter" 32,eb P "aiter" 33,eb P "len" 34,eb P "locals" 35,eb P "max" 36,eb P "min" 37,eb P "next" 38,eb P "anext" 39,eb P "oct" 40,eb P "ord" 41,eb P "pow" 42,eb P "print" 43,eb P "repr" 44,eb P "round" 45,eb P "setattr" 46,eb P "sorted" 47,eb P "sum" 48,eb P "vars" 49,en P "None" 50 .none,en P "Ellipsis" 51 (.ellipsis),en P "NotImplemented" 52 (.notImplemented),en P "False" 53 (.bool false),en P "True" 54 (.bool true),en P "bool" 55 (.type "bool"),en P "memoryview" 56 (.type "memoryview"),en P "bytearray" 57 (.type "bytearray"),en P "bytes" 58 (.type "bytes"),en P "classmethod" 59 (.type "classmethod"),en P "complex" 60 (.type "complex"),en P "dict" 61 (.type "dict"),en P "enumerate" 62 (.type "enumerate"),en P "filter" 63 (.type "filter"),en P "float" 64 (.type "float"),en P "frozenset" 65 (.type "frozenset"),en P "property" 66 (.type "property"),en P "int" 67 (.type "int"),en P "list" 68 (.type "list"),en P "map" 69 (.type "map"),en P "object" 70 (.type "object"),en P "range" 71 (.type "range"),en P "reversed" 72 (.type "reversed"),en P "set" 73 (.type "set"),en P "slice" 74 (.type "slice"),en P "staticmethod" 75 (.type "staticmethod"),en P "str" 76 (.type "str"),en P "super" 77 (.type "super"),en P "tuple" 78 (.type "tuple"),en P "type" 79 (.type "type"),en P "zip" 80 (.type "zip"),en P "__debug__" 81 (.bool true),en P "BaseException" 82 (.type "BaseException"),en P "BaseExceptionGroup" 83 (.type "BaseExceptionGroup"),en P "Exception" 84 (.type "Exception"),en P "GeneratorExit" 85 (.type "GeneratorExit"),en P "KeyboardInterrupt" 86 (.type "KeyboardInterrupt"),en P "SystemExit" 87 (.type "SystemExit"),en P "ArithmeticError" 88 (.type "ArithmeticError"),en P "AssertionError" 89 (.type "AssertionError"),en P "AttributeError" 90 (.type "AttributeError"),en P "BufferError" 91 (.type "BufferError"),en P "EOFError" 92 (.type "EOFError"),en P "ImportError" 93 (.type "ImportError"),en P "LookupError" 94 (.type "LookupError"),en P "MemoryError" 95 (.type "MemoryError"),en P "NameError" 96 (.type "NameError"),en P "OSError" 97 (.type "OSError"),en P "ReferenceError" 98 (.type "ReferenceError"),en P "RuntimeError" 99 (.type "RuntimeError"),en P "StopAsyncIteration" 100 (.type "StopAsyncIteration"),en P "StopIteration" 101 (.type "StopIteration"),en P "SyntaxError" 102 (.type "SyntaxError"),en P "SystemError" 103 (.type "SystemError"),en P "TypeError" 104 (.type "TypeError"),en P "ValueError" 105 (.type "ValueError"),en P "Warning" 106 (.type "Warning"),en P "FloatingPointError" 107 (.type "FloatingPointError"),en P "OverflowError" 108 (.type "OverflowError"),en P "ZeroDivisionError" 109 (.type "ZeroDivisionError"),en P "BytesWarning" 110 (.type "BytesWarning"),en P "DeprecationWarning" 111 (.type "DeprecationWarning"),en P "EncodingWarning" 112 (.type "EncodingWarning"),en P "FutureWarning" 113 (.type "FutureWarning"),en P "ImportWarning" 114 (.type "ImportWarning"),en P "PendingDeprecationWarning" 115 (.type "PendingDeprecationWarning"),en P "ResourceWarning" 116 (.type "ResourceWarning"),en P "RuntimeWarning" 117 (.type "RuntimeWarning"),en P "SyntaxWarning" 118 (.type "SyntaxWarning"),en P "UnicodeWarning" 119 (.type "UnicodeWarning"),en P "UserWarning" 120 (.type "UserWarning"),en P "BlockingIOError" 121 (.type "BlockingIOError"),en P "ChildProcessError" 122 (.type "ChildProcessError"),en P "ConnectionError" 123 (.type "ConnectionError"),en P "FileExistsError" 124 (.type "FileExistsError"),en P "FileNotFoundError" 125 (.type "FileNotFoundError"),en P "InterruptedError" 126 (.type "InterruptedError"),en P "IsADirectoryError" 127 (.type "IsADirectoryError"),en P "NotADirectoryError" 128 (.type "NotADirectoryError"),en P "PermissionError" 129 (.type "PermissionError"),en P "ProcessLookupError" 130 (.type "ProcessLookupError"),en P "TimeoutError" 131 (.type "TimeoutError"),en P "IndentationError" 132 (.type "IndentationError"),en P "_IncompleteInputError" 133 (.type "_IncompleteInputError"),en P "IndexError" 134 (.type "IndexError"),en P "KeyError" 135 (.type "KeyError"),en P "ModuleNotFoundError" 136 (.type "ModuleNotFoundError"),en P "NotImplementedError" 137 (.type "NotImplementedError"),en P "PythonFinalizationError" 138 (.type "PythonFinalizationError"),en P "RecursionError" 139 (.type "RecursionError"),en P "UnboundLocalError" 140 (.type "UnboundLocalError"),en P "UnicodeError" 141 (.type "UnicodeError"),en P "BrokenPipeError" 142 (.type "BrokenPipeError"),en P "ConnectionAbortedError" 143 (.type "ConnectionAbortedError"),en P "ConnectionRefusedError" 144 (.type "ConnectionRefusedError"),en P "ConnectionResetError" 145 (.type "ConnectionResetError"),en P "TabError" 146 (.type "TabError"),en P "UnicodeDecodeError" 147 (.type "UnicodeDecodeError"),en P "UnicodeEncodeError" 148 (.type "UnicodeEncodeError"),en P "UnicodeTranslateError" 149 (.type "UnicodeTranslateError"),en P "ExceptionGroup" 150 (.type "ExceptionGroup"),en P "EnvironmentError" 151 (.type "OSError"),en P "IOError" 152 (.type "OSError"),eb P "open" 153,en P "quit" 154 (.builtin "builtins.quit#opaque"),en P "exit" 155 (.builtin "builtins.exit#opaque"),en P "copyright" 156 (.builtin "builtins.copyright#opaque"),en P "credits" 157 (.builtin "builtins.credits#opaque"),en P "license" 158 (.builtin "builtins.license#opaque"),en P "help" 159 (.builtin "builtins.help#opaque")] 159)
noncomputable def o1(P:Params):Obj:=oT "dict" (.dict #[en P "builtins" 162 (.ref 4),en P "__main__" 163 (.ref 5),en P "_sre" 244 (.ref 12)] 3)
noncomputable def o2(P:Params):Obj:=oN (.dict #[en P ⟨⟨[105,109,112,111,114,116,46,108,111,97,100,101,100,46,95,115,114,101]⟩⟩ 183 (.bool true),en P ⟨⟨[99,108,97,115,115,46,95,102,114,111,122,101,110,95,105,109,112,111,114,116,108,105,98,46,66,117,105,108,116,105,110,73,109,112,111,114,116,101,114]⟩⟩ 185 (.ref 14),en P ⟨⟨[119,97,116,99,104,101,100,46,105,109,112,111,114,116]⟩⟩ 206 (.ref 18),en P ⟨⟨[99,108,97,115,115,46,95,102,114,111,122,101,110,95,105,109,112,111,114,116,108,105,98,46,77,111,100,117,108,101,83,112,101,99]⟩⟩ 216 (.ref 22),en P "sys.modules.booked-epoch" 245 (.int 3 0),en P ⟨⟨[105,109,112,111,114,116,46,108,97,116,101,114,45,108,97,105,100,46,95,115,114,101]⟩⟩ 270 (.bool true),en P "watched.library" 272 (.ref 27),en P "watched.library-objects" 0 (.str ⟨⟨[12]⟩⟩ 0),en P "watched.library-deep._sre" 273 (.str ⟨⟨[4,0,0,11,4,0,0,11,4,0,0,3,4,0,0,11,8,4,100,105,99,116,2]⟩⟩ 0)] 9)
noncomputable def o3(P:Params):Obj:=oT "dict" (.dict #[en P "__name__" 165 (.str "__main__" 164),en P "__doc__" 166 .none,en P "__package__" 167 .none,en P "__loader__" 168 (.builtin "__main__.__loader__#opaque"),en P "__spec__" 169 .none,en P "__annotations__" 170 (.ref 6),en P "__builtins__" 171 (.ref 4),en P "__file__" 173 (.str "/claim/cut.py" 172),en P "__cached__" 174 .none,en P "_sre" 275 (.ref 12)] 10)
noncomputable def o4:Obj:={ cls:=.type "module", dict:=some (0),data:=.plain,slots:=#[] }
noncomputable def o5:Obj:={ cls:=.type "module", dict:=some (3),data:=.plain,slots:=#[] }
noncomputable def o6:Obj:=oT "dict" (.dict #[] 0)
noncomputable def o7:Obj:=oT "tuple" (.seq #[] 0)
noncomputable def o8:Obj:=oN (.fields #[])
noncomputable def o9:Obj:=oT "code" (.fields #[.str "<module>" 176,.str "<module>" 177,.str "/claim/cut.py" 178,.int 1 0,i0,i0,i0,i0,.ref 7,.bool false,.int 175 0,.ref 8,.none,.none,.none,.none,.int 179 0,.int 1 0,.str "/claim/cut.py" 180])
noncomputable def o10:Obj:={ cls:=.type "frame", dict:=none,data:=.plain,slots:=#[some (.ref 9),some (.ref 3),some (.ref 3),none,some (.str "__main__" 164),none,some (.ref 0)] }
noncomputable def o11(P:Params):Obj:=oT "dict" (.dict #[en P "__name__" 247 (.str "_sre" 246),en P "__doc__" 248 .none,en P "__package__" 250 (.str "" 249),en P "__loader__" 251 (.builtin "off-the-table:_sre.__loader__:shared#opaque"),en P "__spec__" 252 (.builtin "off-the-table:_sre.__spec__:shared#opaque"),en P "compile" 253 (.builtin "_sre.compile"),en P "template" 254 (.builtin "off-the-table:_sre.template:shared#opaque"),en P "getcodesize" 255 (.builtin "off-the-table:_sre.getcodesize:shared#opaque"),en P "ascii_iscased" 256 (.builtin "off-the-table:_sre.ascii_iscased:shared#opaque"),en P "unicode_iscased" 257 (.builtin "off-the-table:_sre.unicode_iscased:shared#opaque"),en P "ascii_tolower" 258 (.builtin "off-the-table:_sre.ascii_tolower:shared#opaque"),en P "unicode_tolower" 259 (.builtin "off-the-table:_sre.unicode_tolower:shared#opaque"),en P "MAGIC" 261 (.int 20230612 260),en P "CODESIZE" 263 (.int 4 262),en P "MAXREPEAT" 265 (.int 4294967295 264),en P "MAXGROUPS" 267 (.int 1073741823 266),en P "copyright" 269 (.str " SRE 2.2.2 Copyright (c) 1997-2002 by Secret Labs AB " 268)] 17)
noncomputable def o12:Obj:={ cls:=.type "module", dict:=some (11),data:=.plain,slots:=#[] }
noncomputable def o13(P:Params):Obj:=oT "dict" (.dict #[en P "__module__" 189 (.str ⟨⟨[95,102,114,111,122,101,110,95,105,109,112,111,114,116,108,105,98]⟩⟩ 186),en P "__firstlineno__" 190 (.int 971 187),en P "__doc__" 191 (.builtin "_frozen_importlib.BuiltinImporter.__doc__:str#opaque"),en P "_ORIGIN" 192 (.str "built-in" 188),en P "find_spec" 193 (.builtin "_frozen_importlib.BuiltinImporter.find_spec#opaque"),en P "create_module" 194 (.builtin "_frozen_importlib.BuiltinImporter.create_module#opaque"),en P "exec_module" 195 (.builtin "_frozen_importlib.BuiltinImporter.exec_module#opaque"),en P "get_code" 196 (.builtin "_frozen_importlib.BuiltinImporter.get_code#opaque"),en P "get_source" 197 (.builtin "_frozen_importlib.BuiltinImporter.get_source#opaque"),en P "is_package" 198 (.builtin "_frozen_importlib.BuiltinImporter.is_package#opaque"),en P "load_module" 199 (.builtin "_frozen_importlib.BuiltinImporter.load_module#opaque"),en P "__static_attributes__" 200 (.ref 15),en P "__dict__" 202 (.ref 16),en P "__weakref__" 204 (.ref 17)] 14)
noncomputable def o14:Obj:=oT "type" (.cls { name := "BuiltinImporter", bases:=[.type "object"],mro:=[.ref 14,.type "object"],ns:=13,qualname := "BuiltinImporter", hasDict:=true,slotNames:=[],subclasses:=[],abstract:=false,hasDel:=false })
noncomputable def o16:Obj:=oT "getset_descriptor" (.fields #[.str "__dict__" 201,.ref 14,.builtin "function.__dict__", .builtin "function.__dict__#set"])
noncomputable def o17:Obj:=oT "getset_descriptor" (.fields #[.str "__weakref__" 203,.ref 14,.builtin "ExceptionGroup.__weakref__", .none])
noncomputable def o18:Obj:=oN (.seq #[.int 13 0,.str ⟨⟨[6,189,10,95,95,109,111,100,117,108,101,95,95,6,186,17,95,102,114,111,122,101,110,95,105,109,112,111,114,116,108,105,98,6,190,15,95,95,102,105,114,115,116,108,105,110,101,110,111,95,95,4,187,0,971,6,191,7,95,95,100,111,99,95,95,9,52,95,102,114,111,122,101,110,95,105,109,112,111,114,116,108,105,98,46,66,117,105,108,116,105,110,73,109,112,111,114,116,101,114,46,95,95,100,111,99,95,95,58,115,116,114,35,111,112,97,113,117,101,6,192,7,95,79,82,73,71,73,78,6,188,8,98,117,105,108,116,45,105,110,6,193,9,102,105,110,100,95,115,112,101,99,9,50,95,102,114,111,122,101,110,95,105,109,112,111,114,116,108,105,98,46,66,117,105,108,116,105,110,73,109,112,111,114,116,101,114,46,102,105,110,100,95,115,112,101,99,35,111,112,97,113,117,101,6,194,13,99,114,101,97,116,101,95,109,111,100,117,108,101,9,54,95,102,114,111,122,101,110,95,105,109,112,111,114,116,108,105,98,46,66,117,105,108,116,105,110,73,109,112,111,114,116,101,114,46,99,114,101,97,116,101,95,109,111,100,117,108,101,35,111,112,97,113,117,101,6,195,11,101,120,101,99,95,109,111,100,117,108,101,9,52,95,102,114,111,122,101,110,95,105,109,112,111,114,116,108,105,98,46,66,117,105,108,116,105,110,73,109,112,111,114,116,101,114,46,101,120,101,99,95,109,111,100,117,108,101,35,111,112,97,113,117,101,6,196,8,103,101,116,95,99,111,100,101,9,49,95,102,114,111,122,101,110,95,105,109,112,111,114,116,108,105,98,46,66,117,105,108,116,105,110,73,109,112,111,114,116,101,114,46,103,101,116,95,99,111,100,101,35,111,112,97,113,117,101,6,197,10,103,101,116,95,115,111,117,114,99,101,9,51,95,102,114,111,122,101,110,95,105,109,112,111,114,116,108,105,98,46,66,117,105,108,116,105,110,73,109,112,111,114,116,101,114,46,103,101,116,95,115,111,117,114,99,101,35,111,112,97,113,117,101,6,198,10,105,115,95,112,97,99,107,97,103,101,9,51,95,102,114,111,122,101,110,95,105,109,112,111,114,116,108,105,98,46,66,117,105,108,116,105,110,73,109,112,111,114,116,101,114,46,105,115,95,112,97,99,107,97,103,101,35,111,112,97,113,117,101,6,199,11,108,111,97,100,95,109,111,100,117,108,101,9,52,95,102,114,111,122,101,110,95,105,109,112,111,114,116,108,105,98,46,66,117,105,108,116,105,110,73,109,112,111,114,116,101,114,46,108,111,97,100,95,109,111,100,117,108,101,35,111,112,97,113,117,101,6,200,21,95,95,115,116,97,116,105,99,95,97,116,116,114,105,98,117,116,101,115,95,95,4,0,0,15,6,202,8,95,95,100,105,99,116,95,95,4,0,0,16,6,204,11,95,95,119,101,97,107,114,101,102,95,95,4,0,0,17]⟩⟩ 0,.bool true,.bool true,.str "" 205,.int 21 0,.str ⟨⟨[6,227,10,95,95,109,111,100,117,108,101,95,95,6,217,17,95,102,114,111,122,101,110,95,105,109,112,111,114,116,108,105,98,6,228,15,95,95,102,105,114,115,116,108,105,110,101,110,111,95,95,4,218,0,562,6,229,7,95,95,100,111,99,95,95,9,47,95,102,114,111,122,101,110,95,105,109,112,111,114,116,108,105,98,46,77,111,100,117,108,101,83,112,101,99,46,95,95,100,111,99,95,95,58,115,116,114,35,111,112,97,113,117,101,6,230,8,95,95,105,110,105,116,95,95,9,44,95,102,114,111,122,101,110,95,105,109,112,111,114,116,108,105,98,46,77,111,100,117,108,101,83,112,101,99,46,95,95,105,110,105,116,95,95,35,111,112,97,113,117,101,6,231,8,95,95,114,101,112,114,95,95,9,44,95,102,114,111,122,101,110,95,105,109,112,111,114,116,108,105,98,46,77,111,100,117,108,101,83,112,101,99,46,95,95,114,101,112,114,95,95,35,111,112,97,113,117,101,6,232,6,95,95,101,113,95,95,9,42,95,102,114,111,122,101,110,95,105,109,112,111,114,116,108,105,98,46,77,111,100,117,108,101,83,112,101,99,46,95,95,101,113,95,95,35,111,112,97,113,117,101,6,233,6,99,97,99,104,101,100,9,42,95,102,114,111,122,101,110,95,105,109,112,111,114,116,108,105,98,46,77,111,100,117,108,101,83,112,101,99,46,99,97,99,104,101,100,35,111,112,97,113,117,101,6,234,6,112,97,114,101,110,116,9,42,95,102,114,111,122,101,110,95,105,109,112,111,114,116,108,105,98,46,77,111,100,117,108,101,83,112,101,99,46,112,97,114,101,110,116,35,111,112,97,113,117,101,6,235,12,104,97,115,95,108,111,99,97,116,105,111,110,9,48,95,102,114,111,122,101,110,95,105,109,112,111,114,116,108,105,98,46,77,111,100,117,108,101,83,112,101,99,46,104,97,115,95,108,111,99,97,116,105,111,110,35,111,112,97,113,117,101,6,236,21,95,95,115,116,97,116,105,99,95,97,116,116,114,105,98,117,116,101,115,95,95,4,0,0,23,6,238,8,95,95,100,105,99,116,95,95,4,0,0,24,6,240,11,95,95,119,101,97,107,114,101,102,95,95,4,0,0,25,6,241,8,95,95,104,97,115,104,95,95,0]⟩⟩ 0,.bool true,.bool true,.str "" 242] 1)
noncomputable def o19:Obj:=oT "list" (.seq #[] 0)
noncomputable def o20(P:Params):Obj:=oT "dict" (.dict #[en P "name" 208 (.str "_sre" 207),en P "loader" 209 (.ref 14),en P "origin" 210 (.str "built-in" 184),en P "loader_state" 211 .none,en P "submodule_search_locations" 212 .none,en P "_uninitialized_submodules" 213 (.ref 19),en P "_set_fileattr" 214 (.bool false),en P "_cached" 215 .none,en P "_initializing" 243 (.bool false)] 9)
noncomputable def o21(P:Params):Obj:=oT "dict" (.dict #[en P "__module__" 227 (.str ⟨⟨[95,102,114,111,122,101,110,95,105,109,112,111,114,116,108,105,98]⟩⟩ 217),en P "__firstlineno__" 228 (.int 562 218),en P "__doc__" 229 (.builtin "_frozen_importlib.ModuleSpec.__doc__:str#opaque"),en P "__init__" 230 (.builtin "_frozen_importlib.ModuleSpec.__init__#opaque"),en P "__repr__" 231 (.builtin "_frozen_importlib.ModuleSpec.__repr__#opaque"),en P "__eq__" 232 (.builtin "_frozen_importlib.ModuleSpec.__eq__#opaque"),en P "cached" 233 (.builtin "_frozen_importlib.ModuleSpec.cached#opaque"),en P "parent" 234 (.builtin "_frozen_importlib.ModuleSpec.parent#opaque"),en P "has_location" 235 (.builtin "_frozen_importlib.ModuleSpec.has_location#opaque"),en P "__static_attributes__" 236 (.ref 23),en P "__dict__" 238 (.ref 24),en P "__weakref__" 240 (.ref 25),en P "__hash__" 241 .none] 13)
noncomputable def o22:Obj:=oT "type" (.cls { name := "ModuleSpec", bases:=[.type "object"],mro:=[.ref 22,.type "object"],ns:=21,qualname := "ModuleSpec", hasDict:=true,slotNames:=[],subclasses:=[],abstract:=false,hasDel:=false })
noncomputable def o23:Obj:=oT "tuple" (.seq #[.str "_cached" 219,.str "_set_fileattr" 220,.str "_uninitialized_submodules" 221,.str "loader" 222,.str "loader_state" 223,.str "name" 224,.str "origin" 225,.str "submodule_search_locations" 226] 0)
noncomputable def o24:Obj:=oT "getset_descriptor" (.fields #[.str "__dict__" 237,.ref 22,.builtin "function.__dict__", .builtin "function.__dict__#set"])
noncomputable def o25:Obj:=oT "getset_descriptor" (.fields #[.str "__weakref__" 239,.ref 22,.builtin "ExceptionGroup.__weakref__", .none])
noncomputable def o26:Obj:={ cls:=.ref 22,dict:=some (20),data:=.plain,slots:=#[] }
noncomputable def o27:Obj:=oN (.seq #[.int 11 0,.str ⟨⟨[6,247,8,95,95,110,97,109,101,95,95,6,246,4,95,115,114,101,6,248,7,95,95,100,111,99,95,95,0,6,250,11,95,95,112,97,99,107,97,103,101,95,95,6,249,0,6,251,10,95,95,108,111,97,100,101,114,95,95,4,0,0,14,6,252,8,95,95,115,112,101,99,95,95,4,0,0,26,6,253,7,99,111,109,112,105,108,101,9,12,95,115,114,101,46,99,111,109,112,105,108,101,6,254,8,116,101,109,112,108,97,116,101,9,13,95,115,114,101,46,116,101,109,112,108,97,116,101,6,255,11,103,101,116,99,111,100,101,115,105,122,101,9,16,95,115,114,101,46,103,101,116,99,111,100,101,115,105,122,101,6,256,13,97,115,99,105,105,95,105,115,99,97,115,101,100,9,18,95,115,114,101,46,97,115,99,105,105,95,105,115,99,97,115,101,100,6,257,15,117,110,105,99,111,100,101,95,105,115,99,97,115,101,100,9,20,95,115,114,101,46,117,110,105,99,111,100,101,95,105,115,99,97,115,101,100,6,258,13,97,115,99,105,105,95,116,111,108,111,119,101,114,9,18,95,115,114,101,46,97,115,99,105,105,95,116,111,108,111,119,101,114,6,259,15,117,110,105,99,111,100,101,95,116,111,108,111,119,101,114,9,20,95,115,114,101,46,117,110,105,99,111,100,101,95,116,111,108,111,119,101,114,6,261,5,77,65,71,73,67,4,260,0,20230612,6,263,8,67,79,68,69,83,73,90,69,4,262,0,4,6,265,9,77,65,88,82,69,80,69,65,84,4,264,0,4294967295,6,267,9,77,65,88,71,82,79,85,80,83,4,266,0,1073741823,6,269,9,99,111,112,121,114,105,103,104,116,6,268,53,32,83,82,69,32,50,46,50,46,50,32,67,111,112,121,114,105,103,104,116,32,40,99,41,32,49,57,57,55,45,50,48,48,50,32,98,121,32,83,101,99,114,101,116,32,76,97,98,115,32,65,66,32]⟩⟩ 0,.bool true,.bool false,.str "_sre" 271] 0)
noncomputable def Bg(P:Params):Heap:={ objs:=#[o0 P,o1 P,o2 P,o3 P,o4,o5,o6,o7,o8,o9,o10,o11 P,o12,o13 P,o14,o7,o16,o17,o18,o19,o20 P,o21 P,o22,o23,o24,o25,o26,o27],life:={ registered:=[],finalised:=[],alive:=[],known:=0,ids:=[],orphanDicts:=[],counting:=false,cnt:=#[] } }
noncomputable def o30:Obj:=oT "code" (.fields #[.str "<module>" 277,.str "<module>" 278,.str "/claim/cut.py" 279,.int 1 0,i0,i0,i0,i0,.ref 28,.bool false,.int 276 0,.ref 29,.none,.none,.none,.none,.int 280 0,.int 1 0,.str "/claim/cut.py" 281])
noncomputable def o31:Obj:={ cls:=.type "frame", dict:=none,data:=.plain,slots:=#[some (.ref 30),some (.ref 3),some (.ref 3),none,some (.str "__main__" 164),none,some (.ref 0)] }
noncomputable def Cc(P:Params):Heap:={ objs:=#[o0 P,o1 P,o2 P,o3 P,o4,o5,o6,o7,o8,o9,o10,o11 P,o12,o13 P,o14,o7,o16,o17,o18,o19,o20 P,o21 P,o22,o23,o24,o25,o26,o27,o7,o8,o30,o31],life:={ registered:=[],finalised:=[],alive:=[],known:=0,ids:=[],orphanDicts:=[],counting:=false,cnt:=#[] } }
noncomputable def od13(P:Params):Obj:=oT "dict" (.dict #[en P "__name__" 165 (.str "cpy313.netrc" 289),en P "__doc__" 166 .none,en P "__package__" 167 .none,en P "__loader__" 168 (.builtin "__main__.__loader__#opaque"),en P "__spec__" 169 .none,en P "__annotations__" 170 (.ref 6),en P "__builtins__" 171 (.ref 4),en P "__file__" 173 (.str "/claim/cut.py" 172),en P "__cached__" 174 .none,en P "_sre" 275 (.ref 12),en P "_wall" 288 (.ref 38)] 11)
noncomputable def od129:Obj:=oN (.fields #[.int 2 0,i0,.ref 37])
noncomputable def o34:Obj:=oT "tuple" (.seq #[.str "k" 285] 0)
noncomputable def o36:Obj:=oN (.func (fdT (stAt 1) (fO "_wall" "_wall" .none .none .none)))
noncomputable def o37:Obj:=oT "code" (.fields #[.str "_wall" 282,.str "_wall" 283,.str "/claim/cut.py" 284,.int 2 0,.int 1 0,i0,i0,.int 3 0,.ref 32,.bool true,.int 276 0,.ref 33,.none,.ref 34,.ref 35,.ref 36,.int 286 0,.int 2 0,.str "/claim/cut.py" 287])
noncomputable def o38:Obj:=oT "function" (.func (fdOf (stAt 1) (fO "_wall" "_wall" .none (.str "__main__" 164) (.ref 37))))
noncomputable def Eu(P:Params):Heap:={ objs:=#[o0 P,o1 P,o2 P,od13 P,o4,o5,o6,o7,o8,o9,o10,o11 P,o12,o13 P,o14,o7,o16,o17,o18,o19,o20 P,o21 P,o22,o23,o24,o25,o26,o27,o7,od129,o30,o31,o7,o8,o34,o7,o36,o37,o38],life:={ registered:=[],finalised:=[],alive:=[],known:=0,ids:=[],orphanDicts:=[],counting:=false,cnt:=#[] } }
noncomputable def od23(P:Params):Obj:=oT "dict" (.dict #[en P "__name__" 165 (.str "cpy313.netrc" 289),en P "__doc__" 166 .none,en P "__package__" 167 .none,en P "__loader__" 168 (.builtin "__main__.__loader__#opaque"),en P "__spec__" 169 .none,en P "__annotations__" 170 (.ref 6),en P "__builtins__" 171 (.ref 4),en P "__file__" 173 (.str "/claim/cut.py" 172),en P "__cached__" 174 .none,en P "_sre" 275 (.ref 12),en P "_wall" 288 (.ref 38),en P "_netrclex" 348 (.ref 76)] 12)
noncomputable def od229:Obj:=oN (.fields #[.int 2 0,i0,.ref 37,.int 6 0,i0,.ref 44])
noncomputable def o40:Obj:=oT "builtin_function_or_method" (.fields #[.builtin "type.__prepare__", .type "type"])
noncomputable def o41(P:Params):Obj:=oT "dict" (.dict #[en P "__module__" 298 (.str "cpy313.netrc" 289),en P "__qualname__" 300 (.str "_netrclex" 299),en P "__firstlineno__" 302 (.int 6 301),en P "__init__" 310 (.ref 52),en P "_read_char" 318 (.ref 59),en P "get_token" 328 (.ref 66),en P "push_token" 336 (.ref 73),en P "__static_attributes__" 341 (.ref 74)] 8)
noncomputable def o43:Obj:=oN (.fields #[.int 8 0,.int 4 0,.ref 51,.int 14 0,.int 4 0,.ref 58,.int 20 0,.int 4 0,.ref 65,.int 47 0,.int 4 0,.ref 72])
noncomputable def o44:Obj:=oT "code" (.fields #[.str "_netrclex" 293,.str "_netrclex" 294,.str "/claim/cut.py" 295,.int 6 0,i0,i0,i0,i0,.ref 42,.bool false,.int 276 0,.ref 43,.none,.none,.none,.none,.int 296 0,.int 6 0,.str "/claim/cut.py" 297])
noncomputable def o45:Obj:={ cls:=.type "frame", dict:=none,data:=.plain,slots:=#[some (.ref 44),some (.ref 3),some (.ref 41),none,some (.str "cpy313.netrc" 289),none,some (.ref 0)] }
noncomputable def o48:Obj:=oT "tuple" (.seq #[.str "self" 306,.str "fp" 307] 0)
noncomputable def o50:Obj:=oN (.func (fdT (clAt 3 0) (fO "__init__" "_netrclex.__init__" .none .none .none)))
noncomputable def o51:Obj:=oT "code" (.fields #[.str "__init__" 303,.str "_netrclex.__init__" 304,.str "/claim/cut.py" 305,.int 8 0,.int 2 0,i0,i0,.int 3 0,.ref 46,.bool true,.int 276 0,.ref 47,.none,.ref 48,.ref 49,.ref 50,.int 308 0,.int 8 0,.str "/claim/cut.py" 309])
noncomputable def o52:Obj:=oT "function" (.func (fdOf (clAt 3 0) (fO "__init__" "_netrclex.__init__" .none (.str "cpy313.netrc" 289) (.ref 51))))
noncomputable def o55:Obj:=oT "tuple" (.seq #[.str "self" 314,.str "ch" 315] 0)
noncomputable def o57:Obj:=oN (.func (fdT (clAt 3 1) (fO "_read_char" "_netrclex._read_char" .none .none .none)))
noncomputable def o58:Obj:=oT "code" (.fields #[.str "_read_char" 311,.str "_netrclex._read_char" 312,.str "/claim/cut.py" 313,.int 14 0,.int 1 0,i0,i0,.int 3 0,.ref 53,.bool true,.int 276 0,.ref 54,.none,.ref 55,.ref 56,.ref 57,.int 316 0,.int 14 0,.str "/claim/cut.py" 317])
noncomputable def o59:Obj:=oT "function" (.func (fdOf (clAt 3 1) (fO "_read_char" "_netrclex._read_char" .none (.str "cpy313.netrc" 289) (.ref 58))))
noncomputable def o62:Obj:=oT "tuple" (.seq #[.str "self" 322,.str "token" 323,.str "fiter" 324,.str "ch" 325] 0)
noncomputable def o64:Obj:=oN (.func (fdT (clAt 3 2) (fO "get_token" "_netrclex.get_token" .none .none .none)))
noncomputable def o65:Obj:=oT "code" (.fields #[.str "get_token" 319,.str "_netrclex.get_token" 320,.str "/claim/cut.py" 321,.int 20 0,.int 1 0,i0,i0,.int 3 0,.ref 60,.bool true,.int 276 0,.ref 61,.none,.ref 62,.ref 63,.ref 64,.int 326 0,.int 20 0,.str "/claim/cut.py" 327])
noncomputable def o66:Obj:=oT "function" (.func (fdOf (clAt 3 2) (fO "get_token" "_netrclex.get_token" .none (.str "cpy313.netrc" 289) (.ref 65))))
noncomputable def o69:Obj:=oT "tuple" (.seq #[.str "self" 332,.str "token" 333] 0)
noncomputable def o71:Obj:=oN (.func (fdT (clAt 3 3) (fO "push_token" "_netrclex.push_token" .none .none .none)))
noncomputable def o72:Obj:=oT "code" (.fields #[.str "push_token" 329,.str "_netrclex.push_token" 330,.str "/claim/cut.py" 331,.int 47 0,.int 2 0,i0,i0,.int 3 0,.ref 67,.bool true,.int 276 0,.ref 68,.none,.ref 69,.ref 70,.ref 71,.int 334 0,.int 47 0,.str "/claim/cut.py" 335])
noncomputable def o73:Obj:=oT "function" (.func (fdOf (clAt 3 3) (fO "push_token" "_netrclex.push_token" .none (.str "cpy313.netrc" 289) (.ref 72))))
noncomputable def o74:Obj:=oT "tuple" (.seq #[.str "instream" 337,.str "lineno" 338,.str "pushback" 339,.str "whitespace" 340] 0)
noncomputable def o75(P:Params):Obj:=oT "dict" (.dict #[en P "__module__" 298 (.str "cpy313.netrc" 289),en P "__firstlineno__" 302 (.int 6 301),en P "__init__" 310 (.ref 52),en P "_read_char" 318 (.ref 59),en P "get_token" 328 (.ref 66),en P "push_token" 336 (.ref 73),en P "__static_attributes__" 341 (.ref 74),en P "__dict__" 343 (.ref 77),en P "__weakref__" 345 (.ref 78),en P "__doc__" 346 .none] 4)
noncomputable def o76:Obj:={ cls:=.type "type", dict:=none,data:=.cls { name := "_netrclex", bases:=[.type "object"],mro:=[.ref 76,.type "object"],ns:=75,qualname := "_netrclex", hasDict:=true,slotNames:=[],subclasses:=[],abstract:=false,hasDel:=false },slots:=#[none,none,some (.str "_netrclex" 291),some (.str "_netrclex" 299),some (.builtin "object.__new__"),some (.bool true)] }
noncomputable def o77:Obj:=oT "getset_descriptor" (.fields #[.str "__dict__" 342,.ref 76,.builtin "function.__dict__", .builtin "function.__dict__#set"])
noncomputable def o78:Obj:=oT "getset_descriptor" (.fields #[.str "__weakref__" 344,.ref 76,.builtin "ExceptionGroup.__weakref__", .none])
noncomputable def o79:Obj:=oT "super" (.fields #[.ref 76,.ref 76,.ref 76])
noncomputable def o80:Obj:=oT "builtin_function_or_method" (.fields #[.builtin "object.__init_subclass__", .ref 76])
noncomputable def Et(P:Params):Heap:={ objs:=#[o0 P,o1 P,o2 P,od23 P,o4,o5,o6,o7,o8,o9,o10,o11 P,o12,o13 P,o14,o7,o16,o17,o18,o19,o20 P,o21 P,o22,o23,o24,o25,o26,o27,o7,od229,o30,o31,o7,o8,o34,o7,o36,o37,o38,o7,o40,o41 P,o7,o43,o44,o45,o7,o8,o48,o7,o50,o51,o52,o7,o8,o55,o7,o57,o58,o59,o7,o8,o62,o7,o64,o65,o66,o7,o8,o69,o7,o71,o72,o73,o74,o75 P,o76,o77,o78,o79,o80],life:={ registered:=[],finalised:=[],alive:=[],known:=0,ids:=[],orphanDicts:=[],counting:=false,cnt:=#[] } }
noncomputable def od93(P:Params):Obj:=oT "dict" (.dict #[en P "__name__" 165 (.str "cpy313.wsgiref.headers" 359),en P "__doc__" 166 .none,en P "__package__" 167 .none,en P "__loader__" 168 (.builtin "__main__.__loader__#opaque"),en P "__spec__" 169 .none,en P "__annotations__" 170 (.ref 6),en P "__builtins__" 171 (.ref 4),en P "__file__" 173 (.str "/claim/cut.py" 172),en P "__cached__" 174 .none,en P "_sre" 275 (.ref 12),en P "_wall" 288 (.ref 38),en P "_netrclex" 348 (.ref 76),en P "replace" 358 (.ref 87),en P "tspecials" 394 (.ref 92),en P "_name_disallowed_re" 420 (.ref 97),en P "_value_disallowed_re" 454 (.ref 102),en P "_formatparam" 464 (.ref 110)] 17)
noncomputable def od929:Obj:=oN (.fields #[.int 2 0,i0,.ref 37,.int 6 0,i0,.ref 44,.int 50 0,i0,.ref 86,.int 59 0,i0,.ref 109])
noncomputable def o83:Obj:=oT "tuple" (.seq #[.str "text" 354,.str "pairs" 355] 0)
noncomputable def o85:Obj:=oN (.func (fdT (stAt 5) (fO "replace" "replace" .none .none .none)))
noncomputable def o86:Obj:=oT "code" (.fields #[.str "replace" 351,.str "replace" 352,.str "/claim/cut.py" 353,.int 50 0,.int 1 0,i0,i0,.int 7 0,.ref 81,.bool true,.int 276 0,.ref 82,.none,.ref 83,.ref 84,.ref 85,.int 356 0,.int 50 0,.str "/claim/cut.py" 357])
noncomputable def o87:Obj:=oT "function" (.func (fdOf (stAt 5) (fO "replace" "replace" .none (.str "cpy313.pydoc" 349) (.ref 86))))
noncomputable def o88:Obj:=oT "list" (.seq #[.int 14 364,.int 14 365,.int 4 366,.int 1 367,.int 1 368,.int 9 369,.int 0 370,.int 4227896069 371,.int 939524097 372,.int 0 373,.int 0 374,.int 0 375,.int 0 376,.int 0 377,.int 0 378,.int 13 379,.int 11 380,.int 9 381,.int 0 382,.int 4227896069 383,.int 939524097 384,.int 0 385,.int 0 386,.int 0 387,.int 0 388,.int 0 389,.int 0 390,.int 1 391] 0)
noncomputable def o90:Obj:=oT "tuple" (.seq #[.none] 0)
noncomputable def o91:Obj:=oT "tuple" (.seq #[.int 14 0,.int 14 0,.int 4 0,.int 1 0,.int 1 0,.int 9 0,i0,.int 4227896069 0,.int 939524097 0,i0,i0,i0,i0,i0,i0,.int 13 0,.int 11 0,.int 9 0,i0,.int 4227896069 0,.int 939524097 0,i0,i0,i0,i0,i0,i0,.int 1 0] 0)
noncomputable def o92:Obj:=oT "re.Pattern" (.fields #[.str "[ \\(\\)<>@,;:\\\\\"/\\[\\]\\?=]" 362,.int 32 393,i0,.none,.none,.ref 91,i0])
noncomputable def o93:Obj:=oT "list" (.seq #[.int 14 398,.int 10 399,.int 4 400,.int 1 401,.int 1 402,.int 22 403,.int 0 404,.int 31 405,.int 16 406,.int 127 407,.int 0 408,.int 13 409,.int 7 410,.int 22 411,.int 0 412,.int 31 413,.int 16 414,.int 127 415,.int 0 416,.int 1 417] 0)
noncomputable def o96:Obj:=oT "tuple" (.seq #[.int 14 0,.int 10 0,.int 4 0,.int 1 0,.int 1 0,.int 22 0,i0,.int 31 0,.int 16 0,.int 127 0,i0,.int 13 0,.int 7 0,.int 22 0,i0,.int 31 0,.int 16 0,.int 127 0,i0,.int 1 0] 0)
noncomputable def o97:Obj:=oT "re.Pattern" (.fields #[.str "[\\x00-\\x1F\\x7F]" 396,.int 32 419,i0,.none,.none,.ref 96,i0])
noncomputable def o98:Obj:=oT "list" (.seq #[.int 14 424,.int 14 425,.int 4 426,.int 1 427,.int 1 428,.int 9 429,.int 4294966783 430,.int 0 431,.int 0 432,.int 2147483648 433,.int 0 434,.int 0 435,.int 0 436,.int 0 437,.int 0 438,.int 13 439,.int 11 440,.int 9 441,.int 4294966783 442,.int 0 443,.int 0 444,.int 2147483648 445,.int 0 446,.int 0 447,.int 0 448,.int 0 449,.int 0 450,.int 1 451] 0)
noncomputable def o101:Obj:=oT "tuple" (.seq #[.int 14 0,.int 14 0,.int 4 0,.int 1 0,.int 1 0,.int 9 0,.int 4294966783 0,i0,i0,.int 2147483648 0,i0,i0,i0,i0,i0,.int 13 0,.int 11 0,.int 9 0,.int 4294966783 0,i0,i0,.int 2147483648 0,i0,i0,i0,i0,i0,.int 1 0] 0)
noncomputable def o102:Obj:=oT "re.Pattern" (.fields #[.str "[\\x00-\\x08\\x0A-\\x1F\\x7F]" 422,.int 32 453,i0,.none,.none,.ref 101,i0])
noncomputable def o103:Obj:=oT "tuple" (.seq #[.none,.int 1 455] 0)
noncomputable def o106:Obj:=oT "tuple" (.seq #[.str "param" 459,.str "value" 460,.str "quote" 461] 0)
noncomputable def o108:Obj:=oN (.func (fdT (stAt 10) (fO "_formatparam" "_formatparam" .none .none .none)))
noncomputable def o109:Obj:=oT "code" (.fields #[.str "_formatparam" 456,.str "_formatparam" 457,.str "/claim/cut.py" 458,.int 59 0,.int 3 0,i0,i0,.int 3 0,.ref 104,.bool true,.int 276 0,.ref 105,.none,.ref 106,.ref 107,.ref 108,.int 462 0,.int 59 0,.str "/claim/cut.py" 463])
noncomputable def o110:Obj:=oT "function" (.func (fdOf (stAt 10) (fO "_formatparam" "_formatparam" (.ref 103) (.str "cpy313.wsgiref.headers" 359) (.ref 109))))
noncomputable def Es(P:Params):Heap:={ objs:=#[o0 P,o1 P,o2 P,od93 P,o4,o5,o6,o7,o8,o9,o10,o11 P,o12,o13 P,o14,o7,o16,o17,o18,o19,o20 P,o21 P,o22,o23,o24,o25,o26,o27,o7,od929,o30,o31,o7,o8,o34,o7,o36,o37,o38,o7,o40,o41 P,o7,o43,o44,o45,o7,o8,o48,o7,o50,o51,o52,o7,o8,o55,o7,o57,o58,o59,o7,o8,o62,o7,o64,o65,o66,o7,o8,o69,o7,o71,o72,o73,o74,o75 P,o76,o77,o78,o79,o80,o7,o8,o83,o7,o85,o86,o87,o88,o6,o90,o91,o92,o93,o6,o90,o96,o97,o98,o6,o90,o101,o102,o103,o7,o8,o106,o7,o108,o109,o110],life:={ registered:=[],finalised:=[],alive:=[],known:=0,ids:=[],orphanDicts:=[],counting:=false,cnt:=#[] } }
noncomputable def od103(P:Params):Obj:=oT "dict" (.dict #[en P "__name__" 165 (.str "cpy313.wsgiref.headers" 359),en P "__doc__" 166 .none,en P "__package__" 167 .none,en P "__loader__" 168 (.builtin "__main__.__loader__#opaque"),en P "__spec__" 169 .none,en P "__annotations__" 170 (.ref 6),en P "__builtins__" 171 (.ref 4),en P "__file__" 173 (.str "/claim/cut.py" 172),en P "__cached__" 174 .none,en P "_sre" 275 (.ref 12),en P "_wall" 288 (.ref 38),en P "_netrclex" 348 (.ref 76),en P "replace" 358 (.ref 87),en P "tspecials" 394 (.ref 92),en P "_name_disallowed_re" 420 (.ref 97),en P "_value_disallowed_re" 454 (.ref 102),en P "_formatparam" 464 (.ref 110),en P "Headers" 621 (.ref 231)] 18)
noncomputable def od1029:Obj:=oN (.fields #[.int 2 0,i0,.ref 37,.int 6 0,i0,.ref 44,.int 50 0,i0,.ref 86,.int 59 0,i0,.ref 109,.int 68 0,i0,.ref 116])
noncomputable def o113(P:Params):Obj:=oT "dict" (.dict #[en P "__module__" 472 (.str "cpy313.wsgiref.headers" 359),en P "__qualname__" 474 (.str "Headers" 473),en P "__firstlineno__" 476 (.int 68 475),en P "__init__" 486 (.ref 125),en P "_convert_string_type" 496 (.ref 132),en P "__len__" 503 (.ref 139),en P "__setitem__" 512 (.ref 146),en P "__delitem__" 518 (.ref 151),en P "__getitem__" 526 (.ref 158),en P "__contains__" 534 (.ref 165),en P "get_all" 540 (.ref 170),en P "get" 551 (.ref 178),en P "keys" 557 (.ref 183),en P "values" 563 (.ref 188),en P "items" 570 (.ref 195),en P "__repr__" 577 (.ref 202),en P "__str__" 583 (.ref 207),en P "__bytes__" 590 (.ref 214),en P "setdefault" 599 (.ref 221),en P "add_header" 612 (.ref 228),en P "__static_attributes__" 614 (.ref 229)] 21)
noncomputable def o115:Obj:=oN (.fields #[.int 70 0,.int 4 0,.ref 124,.int 80 0,.int 4 0,.ref 131,.int 88 0,.int 4 0,.ref 138,.int 91 0,.int 4 0,.ref 145,.int 95 0,.int 4 0,.ref 150,.int 99 0,.int 4 0,.ref 157,.int 102 0,.int 4 0,.ref 164,.int 105 0,.int 4 0,.ref 169,.int 109 0,.int 4 0,.ref 177,.int 116 0,.int 4 0,.ref 182,.int 119 0,.int 4 0,.ref 187,.int 122 0,.int 4 0,.ref 194,.int 125 0,.int 4 0,.ref 201,.int 128 0,.int 4 0,.ref 206,.int 131 0,.int 4 0,.ref 213,.int 134 0,.int 4 0,.ref 220,.int 137 0,.int 4 0,.ref 227])
noncomputable def o116:Obj:=oT "code" (.fields #[.str "Headers" 467,.str "Headers" 468,.str "/claim/cut.py" 469,.int 68 0,i0,i0,i0,i0,.ref 114,.bool false,.int 276 0,.ref 115,.none,.none,.none,.none,.int 470 0,.int 68 0,.str "/claim/cut.py" 471])
noncomputable def o117:Obj:={ cls:=.type "frame", dict:=none,data:=.plain,slots:=#[some (.ref 116),some (.ref 3),some (.ref 113),none,some (.str "cpy313.wsgiref.headers" 359),none,some (.ref 0)] }
noncomputable def o121:Obj:=oT "tuple" (.seq #[.str "self" 480,.str "headers" 481,.str "k" 482,.str "v" 483] 0)
noncomputable def o123:Obj:=oN (.func (fdT (clAt 11 0) (fO "__init__" "Headers.__init__" .none .none .none)))
noncomputable def o124:Obj:=oT "code" (.fields #[.str "__init__" 477,.str "Headers.__init__" 478,.str "/claim/cut.py" 479,.int 70 0,.int 2 0,i0,i0,.int 3 0,.ref 119,.bool true,.int 276 0,.ref 120,.none,.ref 121,.ref 122,.ref 123,.int 484 0,.int 70 0,.str "/claim/cut.py" 485])
noncomputable def o125:Obj:=oT "function" (.func (fdOf (clAt 11 0) (fO "__init__" "Headers.__init__" (.ref 118) (.str "cpy313.wsgiref.headers" 359) (.ref 124))))
noncomputable def o128:Obj:=oT "tuple" (.seq #[.str "self" 490,.str "value" 491,.str "name" 492,.str "regex" 493] 0)
noncomputable def o130:Obj:=oN (.func (fdT (clAt 11 1) (fO "_convert_string_type" "Headers._convert_string_type" .none .none .none)))
noncomputable def o131:Obj:=oT "code" (.fields #[.str "_convert_string_type" 487,.str "Headers._convert_string_type" 488,.str "/claim/cut.py" 489,.int 80 0,.int 2 0,i0,.int 1 0,.int 3 0,.ref 126,.bool true,.int 276 0,.ref 127,.none,.ref 128,.ref 129,.ref 130,.int 494 0,.int 80 0,.str "/claim/cut.py" 495])
noncomputable def o132:Obj:=oT "function" (.func (fdOf (clAt 11 1) (fO "_convert_string_type" "Headers._convert_string_type" .none (.str "cpy313.wsgiref.headers" 359) (.ref 131))))
noncomputable def o135:Obj:=oT "tuple" (.seq #[.str "self" 500] 0)
noncomputable def o137:Obj:=oN (.func (fdT (clAt 11 2) (fO "__len__" "Headers.__len__" .none .none .none)))
noncomputable def o138:Obj:=oT "code" (.fields #[.str "__len__" 497,.str "Headers.__len__" 498,.str "/claim/cut.py" 499,.int 88 0,.int 1 0,i0,i0,.int 3 0,.ref 133,.bool true,.int 276 0,.ref 134,.none,.ref 135,.ref 136,.ref 137,.int 501 0,.int 88 0,.str "/claim/cut.py" 502])
noncomputable def o139:Obj:=oT "function" (.func (fdOf (clAt 11 2) (fO "__len__" "Headers.__len__" .none (.str "cpy313.wsgiref.headers" 359) (.ref 138))))
noncomputable def o142:Obj:=oT "tuple" (.seq #[.str "self" 507,.str "name" 508,.str "val" 509] 0)
noncomputable def o144:Obj:=oN (.func (fdT (clAt 11 3) (fO "__setitem__" "Headers.__setitem__" .none .none .none)))
noncomputable def o145:Obj:=oT "code" (.fields #[.str "__setitem__" 504,.str "Headers.__setitem__" 505,.str "/claim/cut.py" 506,.int 91 0,.int 3 0,i0,i0,.int 3 0,.ref 140,.bool true,.int 276 0,.ref 141,.none,.ref 142,.ref 143,.ref 144,.int 510 0,.int 91 0,.str "/claim/cut.py" 511])
noncomputable def o146:Obj:=oT "function" (.func (fdOf (clAt 11 3) (fO "__setitem__" "Headers.__setitem__" .none (.str "cpy313.wsgiref.headers" 359) (.ref 145))))
noncomputable def o149:Obj:=oN (.func (fdT (clAt 11 4) (fO "__delitem__" "Headers.__delitem__" .none .none .none)))
noncomputable def o150:Obj:=oT "code" (.fields #[.str "__delitem__" 513,.str "Headers.__delitem__" 514,.str "/claim/cut.py" 515,.int 95 0,.int 2 0,i0,i0,.int 3 0,.ref 147,.bool true,.int 276 0,.ref 148,.none,.none,.none,.ref 149,.int 516 0,.int 95 0,.str "/claim/cut.py" 517])
noncomputable def o151:Obj:=oT "function" (.func (fdOf (clAt 11 4) (fO "__delitem__" "Headers.__delitem__" .none (.str "cpy313.wsgiref.headers" 359) (.ref 150))))
noncomputable def o154:Obj:=oT "tuple" (.seq #[.str "self" 522,.str "name" 523] 0)
noncomputable def o156:Obj:=oN (.func (fdT (clAt 11 5) (fO "__getitem__" "Headers.__getitem__" .none .none .none)))
noncomputable def o157:Obj:=oT "code" (.fields #[.str "__getitem__" 519,.str "Headers.__getitem__" 520,.str "/claim/cut.py" 521,.int 99 0,.int 2 0,i0,i0,.int 3 0,.ref 152,.bool true,.int 276 0,.ref 153,.none,.ref 154,.ref 155,.ref 156,.int 524 0,.int 99 0,.str "/claim/cut.py" 525])
noncomputable def o158:Obj:=oT "function" (.func (fdOf (clAt 11 5) (fO "__getitem__" "Headers.__getitem__" .none (.str "cpy313.wsgiref.headers" 359) (.ref 157))))
noncomputable def o161:Obj:=oT "tuple" (.seq #[.str "self" 530,.str "name" 531] 0)
noncomputable def o163:Obj:=oN (.func (fdT (clAt 11 6) (fO "__contains__" "Headers.__contains__" .none .none .none)))
noncomputable def o164:Obj:=oT "code" (.fields #[.str "__contains__" 527,.str "Headers.__contains__" 528,.str "/claim/cut.py" 529,.int 102 0,.int 2 0,i0,i0,.int 3 0,.ref 159,.bool true,.int 276 0,.ref 160,.none,.ref 161,.ref 162,.ref 163,.int 532 0,.int 102 0,.str "/claim/cut.py" 533])
noncomputable def o165:Obj:=oT "function" (.func (fdOf (clAt 11 6) (fO "__contains__" "Headers.__contains__" .none (.str "cpy313.wsgiref.headers" 359) (.ref 164))))
noncomputable def o168:Obj:=oN (.func (fdT (clAt 11 7) (fO "get_all" "Headers.get_all" .none .none .none)))
noncomputable def o169:Obj:=oT "code" (.fields #[.str "get_all" 535,.str "Headers.get_all" 536,.str "/claim/cut.py" 537,.int 105 0,.int 2 0,i0,i0,.int 3 0,.ref 166,.bool true,.int 276 0,.ref 167,.none,.none,.none,.ref 168,.int 538 0,.int 105 0,.str "/claim/cut.py" 539])
noncomputable def o170:Obj:=oT "function" (.func (fdOf (clAt 11 7) (fO "get_all" "Headers.get_all" .none (.str "cpy313.wsgiref.headers" 359) (.ref 169))))
noncomputable def o174:Obj:=oT "tuple" (.seq #[.str "self" 544,.str "name" 545,.str "default" 546,.str "k" 547,.str "v" 548] 0)
noncomputable def o176:Obj:=oN (.func (fdT (clAt 11 8) (fO "get" "Headers.get" .none .none .none)))
noncomputable def o177:Obj:=oT "code" (.fields #[.str "get" 541,.str "Headers.get" 542,.str "/claim/cut.py" 543,.int 109 0,.int 3 0,i0,i0,.int 3 0,.ref 172,.bool true,.int 276 0,.ref 173,.none,.ref 174,.ref 175,.ref 176,.int 549 0,.int 109 0,.str "/claim/cut.py" 550])
noncomputable def o178:Obj:=oT "function" (.func (fdOf (clAt 11 8) (fO "get" "Headers.get" (.ref 171) (.str "cpy313.wsgiref.headers" 359) (.ref 177))))
noncomputable def o181:Obj:=oN (.func (fdT (clAt 11 9) (fO "keys" "Headers.keys" .none .none .none)))
noncomputable def o182:Obj:=oT "code" (.fields #[.str "keys" 552,.str "Headers.keys" 553,.str "/claim/cut.py" 554,.int 116 0,.int 1 0,i0,i0,.int 3 0,.ref 179,.bool true,.int 276 0,.ref 180,.none,.none,.none,.ref 181,.int 555 0,.int 116 0,.str "/claim/cut.py" 556])
noncomputable def o183:Obj:=oT "function" (.func (fdOf (clAt 11 9) (fO "keys" "Headers.keys" .none (.str "cpy313.wsgiref.headers" 359) (.ref 182))))
noncomputable def o186:Obj:=oN (.func (fdT (clAt 11 10) (fO "values" "Headers.values" .none .none .none)))
noncomputable def o187:Obj:=oT "code" (.fields #[.str "values" 558,.str "Headers.values" 559,.str "/claim/cut.py" 560,.int 119 0,.int 1 0,i0,i0,.int 3 0,.ref 184,.bool true,.int 276 0,.ref 185,.none,.none,.none,.ref 186,.int 561 0,.int 119 0,.str "/claim/cut.py" 562])
noncomputable def o188:Obj:=oT "function" (.func (fdOf (clAt 11 10) (fO "values" "Headers.values" .none (.str "cpy313.wsgiref.headers" 359) (.ref 187))))
noncomputable def o191:Obj:=oT "tuple" (.seq #[.str "self" 567] 0)
noncomputable def o193:Obj:=oN (.func (fdT (clAt 11 11) (fO "items" "Headers.items" .none .none .none)))
noncomputable def o194:Obj:=oT "code" (.fields #[.str "items" 564,.str "Headers.items" 565,.str "/claim/cut.py" 566,.int 122 0,.int 1 0,i0,i0,.int 3 0,.ref 189,.bool true,.int 276 0,.ref 190,.none,.ref 191,.ref 192,.ref 193,.int 568 0,.int 122 0,.str "/claim/cut.py" 569])
noncomputable def o195:Obj:=oT "function" (.func (fdOf (clAt 11 11) (fO "items" "Headers.items" .none (.str "cpy313.wsgiref.headers" 359) (.ref 194))))
noncomputable def o198:Obj:=oT "tuple" (.seq #[.str "self" 574] 0)
noncomputable def o200:Obj:=oN (.func (fdT (clAt 11 12) (fO "__repr__" "Headers.__repr__" .none .none .none)))
noncomputable def o201:Obj:=oT "code" (.fields #[.str "__repr__" 571,.str "Headers.__repr__" 572,.str "/claim/cut.py" 573,.int 125 0,.int 1 0,i0,i0,.int 3 0,.ref 196,.bool true,.int 276 0,.ref 197,.none,.ref 198,.ref 199,.ref 200,.int 575 0,.int 125 0,.str "/claim/cut.py" 576])
noncomputable def o202:Obj:=oT "function" (.func (fdOf (clAt 11 12) (fO "__repr__" "Headers.__repr__" .none (.str "cpy313.wsgiref.headers" 359) (.ref 201))))
noncomputable def o205:Obj:=oN (.func (fdT (clAt 11 13) (fO "__str__" "Headers.__str__" .none .none .none)))
noncomputable def o206:Obj:=oT "code" (.fields #[.str "__str__" 578,.str "Headers.__str__" 579,.str "/claim/cut.py" 580,.int 128 0,.int 1 0,i0,i0,.int 3 0,.ref 203,.bool true,.int 276 0,.ref 204,.none,.none,.none,.ref 205,.int 581 0,.int 128 0,.str "/claim/cut.py" 582])
noncomputable def o207:Obj:=oT "function" (.func (fdOf (clAt 11 13) (fO "__str__" "Headers.__str__" .none (.str "cpy313.wsgiref.headers" 359) (.ref 206))))
noncomputable def o210:Obj:=oT "tuple" (.seq #[.str "self" 587] 0)
noncomputable def o212:Obj:=oN (.func (fdT (clAt 11 14) (fO "__bytes__" "Headers.__bytes__" .none .none .none)))
noncomputable def o213:Obj:=oT "code" (.fields #[.str "__bytes__" 584,.str "Headers.__bytes__" 585,.str "/claim/cut.py" 586,.int 131 0,.int 1 0,i0,i0,.int 3 0,.ref 208,.bool true,.int 276 0,.ref 209,.none,.ref 210,.ref 211,.ref 212,.int 588 0,.int 131 0,.str "/claim/cut.py" 589])
noncomputable def o214:Obj:=oT "function" (.func (fdOf (clAt 11 14) (fO "__bytes__" "Headers.__bytes__" .none (.str "cpy313.wsgiref.headers" 359) (.ref 213))))
noncomputable def o217:Obj:=oT "tuple" (.seq #[.str "self" 594,.str "name" 595,.str "value" 596] 0)
noncomputable def o219:Obj:=oN (.func (fdT (clAt 11 15) (fO "setdefault" "Headers.setdefault" .none .none .none)))
noncomputable def o220:Obj:=oT "code" (.fields #[.str "setdefault" 591,.str "Headers.setdefault" 592,.str "/claim/cut.py" 593,.int 134 0,.int 3 0,i0,i0,.int 3 0,.ref 215,.bool true,.int 276 0,.ref 216,.none,.ref 217,.ref 218,.ref 219,.int 597 0,.int 134 0,.str "/claim/cut.py" 598])
noncomputable def o221:Obj:=oT "function" (.func (fdOf (clAt 11 15) (fO "setdefault" "Headers.setdefault" .none (.str "cpy313.wsgiref.headers" 359) (.ref 220))))
noncomputable def o224:Obj:=oT "tuple" (.seq #[.str "self" 603,.str "_name" 604,.str "_value" 605,.str "_params" 606,.str "parts" 607,.str "k" 608,.str "v" 609] 0)
noncomputable def o226:Obj:=oN (.func (fdT (clAt 11 16) (fO "add_header" "Headers.add_header" .none .none .none)))
noncomputable def o227:Obj:=oT "code" (.fields #[.str "add_header" 600,.str "Headers.add_header" 601,.str "/claim/cut.py" 602,.int 137 0,.int 3 0,i0,i0,.int 11 0,.ref 222,.bool true,.int 276 0,.ref 223,.none,.ref 224,.ref 225,.ref 226,.int 610 0,.int 137 0,.str "/claim/cut.py" 611])
noncomputable def o228:Obj:=oT "function" (.func (fdOf (clAt 11 16) (fO "add_header" "Headers.add_header" .none (.str "cpy313.wsgiref.headers" 359) (.ref 227))))
noncomputable def o229:Obj:=oT "tuple" (.seq #[.str "_headers" 613] 0)
noncomputable def o230(P:Params):Obj:=oT "dict" (.dict #[en P "__module__" 472 (.str "cpy313.wsgiref.headers" 359),en P "__firstlineno__" 476 (.int 68 475),en P "__init__" 486 (.ref 125),en P "_convert_string_type" 496 (.ref 132),en P "__len__" 503 (.ref 139),en P "__setitem__" 512 (.ref 146),en P "__delitem__" 518 (.ref 151),en P "__getitem__" 526 (.ref 158),en P "__contains__" 534 (.ref 165),en P "get_all" 540 (.ref 170),en P "get" 551 (.ref 178),en P "keys" 557 (.ref 183),en P "values" 563 (.ref 188),en P "items" 570 (.ref 195),en P "__repr__" 577 (.ref 202),en P "__str__" 583 (.ref 207),en P "__bytes__" 590 (.ref 214),en P "setdefault" 599 (.ref 221),en P "add_header" 612 (.ref 228),en P "__static_attributes__" 614 (.ref 229),en P "__dict__" 616 (.ref 232),en P "__weakref__" 618 (.ref 233),en P "__doc__" 619 .none] 4)
noncomputable def o231:Obj:={ cls:=.type "type", dict:=none,data:=.cls { name := "Headers", bases:=[.type "object"],mro:=[.ref 231,.type "object"],ns:=230,qualname := "Headers", hasDict:=true,slotNames:=[],subclasses:=[],abstract:=false,hasDel:=false },slots:=#[none,none,some (.str "Headers" 465),some (.str "Headers" 473),some (.builtin "object.__new__"),some (.bool true)] }
noncomputable def o232:Obj:=oT "getset_descriptor" (.fields #[.str "__dict__" 615,.ref 231,.builtin "function.__dict__", .builtin "function.__dict__#set"])
noncomputable def o233:Obj:=oT "getset_descriptor" (.fields #[.str "__weakref__" 617,.ref 231,.builtin "ExceptionGroup.__weakref__", .none])
noncomputable def o234:Obj:=oT "super" (.fields #[.ref 231,.ref 231,.ref 231])
noncomputable def o235:Obj:=oT "builtin_function_or_method" (.fields #[.builtin "object.__init_subclass__", .ref 231])
noncomputable def EQ(P:Params):Heap:={ objs:=#[o0 P,o1 P,o2 P,od103 P,o4,o5,o6,o7,o8,o9,o10,o11 P,o12,o13 P,o14,o7,o16,o17,o18,o19,o20 P,o21 P,o22,o23,o24,o25,o26,o27,o7,od1029,o30,o31,o7,o8,o34,o7,o36,o37,o38,o7,o40,o41 P,o7,o43,o44,o45,o7,o8,o48,o7,o50,o51,o52,o7,o8,o55,o7,o57,o58,o59,o7,o8,o62,o7,o64,o65,o66,o7,o8,o69,o7,o71,o72,o73,o74,o75 P,o76,o77,o78,o79,o80,o7,o8,o83,o7,o85,o86,o87,o88,o6,o90,o91,o92,o93,o6,o90,o96,o97,o98,o6,o90,o101,o102,o103,o7,o8,o106,o7,o108,o109,o110,o7,o40,o113 P,o7,o115,o116,o117,o90,o7,o8,o121,o7,o123,o124,o125,o7,o8,o128,o7,o130,o131,o132,o7,o8,o135,o7,o137,o138,o139,o7,o8,o142,o7,o144,o145,o146,o7,o8,o149,o150,o151,o7,o8,o154,o7,o156,o157,o158,o7,o8,o161,o7,o163,o164,o165,o7,o8,o168,o169,o170,o90,o7,o8,o174,o7,o176,o177,o178,o7,o8,o181,o182,o183,o7,o8,o186,o187,o188,o7,o8,o191,o7,o193,o194,o195,o7,o8,o198,o7,o200,o201,o202,o7,o8,o205,o206,o207,o7,o8,o210,o7,o212,o213,o214,o7,o8,o217,o7,o219,o220,o221,o7,o8,o224,o7,o226,o227,o228,o229,o230 P,o231,o232,o233,o234,o235],life:={ registered:=[],finalised:=[],alive:=[],known:=0,ids:=[],orphanDicts:=[],counting:=false,cnt:=#[] } }
noncomputable def oe3(P:Params):Obj:=oT "dict" (.dict #[en P "__name__" 165 (.str "law_pu0047_02" 622),en P "__doc__" 166 .none,en P "__package__" 167 .none,en P "__loader__" 168 (.builtin "__main__.__loader__#opaque"),en P "__spec__" 169 .none,en P "__annotations__" 170 (.ref 6),en P "__builtins__" 171 (.ref 4),en P "__file__" 173 (.str "/claim/cut.py" 172),en P "__cached__" 174 .none,en P "_sre" 275 (.ref 12),en P "_wall" 288 (.ref 38),en P "_netrclex" 348 (.ref 76),en P "replace" 358 (.ref 87),en P "tspecials" 394 (.ref 92),en P "_name_disallowed_re" 420 (.ref 97),en P "_value_disallowed_re" 454 (.ref 102),en P "_formatparam" 464 (.ref 110),en P "Headers" 621 (.ref 231),en P "_law_stream" 629 (.ref 240),en P "_law_parts" 636 (.ref 247),en P "_law_drawn" 648 (.ref 254),en P "_law_term" 658 (.ref 261),en P "_law_cut" 668 (.ref 268),en P "_law_pairs" 679 (.ref 275),en P "_law_made_alike" 692 (.ref 282),en P "_law_named" 702 (.ref 289),en P "_law_due" 708 (.ref 294),en P "law" 714 (.ref 299)] 28)
noncomputable def oe29:Obj:=oN (.fields #[.int 2 0,i0,.ref 37,.int 6 0,i0,.ref 44,.int 50 0,i0,.ref 86,.int 59 0,i0,.ref 109,.int 68 0,i0,.ref 116,.int 151 0,i0,.ref 239,.int 162 0,i0,.ref 246,.int 164 0,i0,.ref 253,.int 174 0,i0,.ref 260,.int 184 0,i0,.ref 267,.int 194 0,i0,.ref 274,.int 203 0,i0,.ref 281,.int 225 0,i0,.ref 288,.int 236 0,i0,.ref 293,.int 276 0,i0,.ref 298])
noncomputable def o238:Obj:=oN (.func (fdT (stAt 13) (fO "_law_stream" "_law_stream" .none .none .none)))
noncomputable def o239:Obj:=oT "code" (.fields #[.str "_law_stream" 624,.str "_law_stream" 625,.str "/claim/cut.py" 626,.int 151 0,.int 1 0,i0,i0,.int 3 0,.ref 236,.bool true,.int 276 0,.ref 237,.none,.none,.none,.ref 238,.int 627 0,.int 151 0,.str "/claim/cut.py" 628])
noncomputable def o240:Obj:=oT "function" (.func (fdOf (stAt 13) (fO "_law_stream" "_law_stream" .none (.str "law_pu0047_02" 622) (.ref 239))))
noncomputable def o243:Obj:=oT "tuple" (.seq #[.str "sign" 633] 0)
noncomputable def o245:Obj:=oN (.func (fdT (stAt 14) (fO "_law_parts" "_law_parts" .none .none .none)))
noncomputable def o246:Obj:=oT "code" (.fields #[.str "_law_parts" 630,.str "_law_parts" 631,.str "/claim/cut.py" 632,.int 162 0,.int 1 0,i0,i0,.int 3 0,.ref 241,.bool true,.int 276 0,.ref 242,.none,.ref 243,.ref 244,.ref 245,.int 634 0,.int 162 0,.str "/claim/cut.py" 635])
noncomputable def o247:Obj:=oT "function" (.func (fdOf (stAt 14) (fO "_law_parts" "_law_parts" .none (.str "law_pu0047_02" 622) (.ref 246))))
noncomputable def o250:Obj:=oT "tuple" (.seq #[.str "numbers" 640,.str "term" 641,.str "need" 642,.str "x" 643,.str "figure" 644,.str "sign" 645] 0)
noncomputable def o252:Obj:=oN (.func (fdT (stAt 15) (fO "_law_drawn" "_law_drawn" .none .none .none)))
noncomputable def o253:Obj:=oT "code" (.fields #[.str "_law_drawn" 637,.str "_law_drawn" 638,.str "/claim/cut.py" 639,.int 164 0,.int 1 0,i0,i0,.int 3 0,.ref 248,.bool true,.int 276 0,.ref 249,.none,.ref 250,.ref 251,.ref 252,.int 646 0,.int 164 0,.str "/claim/cut.py" 647])
noncomputable def o254:Obj:=oT "function" (.func (fdOf (stAt 15) (fO "_law_drawn" "_law_drawn" .none (.str "law_pu0047_02" 622) (.ref 253))))
noncomputable def o257:Obj:=oT "tuple" (.seq #[.str "lexer" 652,.str "term" 653,.str "need" 654,.str "sign" 655] 0)
noncomputable def o259:Obj:=oN (.func (fdT (stAt 16) (fO "_law_term" "_law_term" .none .none .none)))
noncomputable def o260:Obj:=oT "code" (.fields #[.str "_law_term" 649,.str "_law_term" 650,.str "/claim/cut.py" 651,.int 174 0,.int 1 0,i0,i0,.int 3 0,.ref 255,.bool true,.int 276 0,.ref 256,.none,.ref 257,.ref 258,.ref 259,.int 656 0,.int 174 0,.str "/claim/cut.py" 657])
noncomputable def o261:Obj:=oT "function" (.func (fdOf (stAt 16) (fO "_law_term" "_law_term" .none (.str "law_pu0047_02" 622) (.ref 260))))
noncomputable def o264:Obj:=oT "tuple" (.seq #[.str "term" 662,.str "pieces" 663,.str "need" 664,.str "sign" 665] 0)
noncomputable def o266:Obj:=oN (.func (fdT (stAt 17) (fO "_law_cut" "_law_cut" .none .none .none)))
noncomputable def o267:Obj:=oT "code" (.fields #[.str "_law_cut" 659,.str "_law_cut" 660,.str "/claim/cut.py" 661,.int 184 0,.int 1 0,i0,i0,.int 3 0,.ref 262,.bool true,.int 276 0,.ref 263,.none,.ref 264,.ref 265,.ref 266,.int 666 0,.int 184 0,.str "/claim/cut.py" 667])
noncomputable def o268:Obj:=oT "function" (.func (fdOf (stAt 17) (fO "_law_cut" "_law_cut" .none (.str "law_pu0047_02" 622) (.ref 267))))
noncomputable def o271:Obj:=oT "tuple" (.seq #[.str "book" 672,.str "text" 673,.str "lexer" 674,.str "pairs" 675,.str "word" 676] 0)
noncomputable def o273:Obj:=oN (.func (fdT (stAt 18) (fO "_law_pairs" "_law_pairs" .none .none .none)))
noncomputable def o274:Obj:=oT "code" (.fields #[.str "_law_pairs" 669,.str "_law_pairs" 670,.str "/claim/cut.py" 671,.int 194 0,.int 1 0,i0,i0,.int 3 0,.ref 269,.bool true,.int 276 0,.ref 270,.none,.ref 271,.ref 272,.ref 273,.int 677 0,.int 194 0,.str "/claim/cut.py" 678])
noncomputable def o275:Obj:=oT "function" (.func (fdOf (stAt 18) (fO "_law_pairs" "_law_pairs" .none (.str "law_pu0047_02" 622) (.ref 274))))
noncomputable def o278:Obj:=oT "tuple" (.seq #[.str "lexer" 683,.str "book" 684,.str "pairs" 685,.str "left" 686,.str "right" 687,.str "one" 688,.str "two" 689] 0)
noncomputable def o280:Obj:=oN (.func (fdT (stAt 19) (fO "_law_made_alike" "_law_made_alike" .none .none .none)))
noncomputable def o281:Obj:=oT "code" (.fields #[.str "_law_made_alike" 680,.str "_law_made_alike" 681,.str "/claim/cut.py" 682,.int 203 0,.int 1 0,i0,i0,.int 3 0,.ref 276,.bool true,.int 276 0,.ref 277,.none,.ref 278,.ref 279,.ref 280,.int 690 0,.int 203 0,.str "/claim/cut.py" 691])
noncomputable def o282:Obj:=oT "function" (.func (fdOf (stAt 19) (fO "_law_made_alike" "_law_made_alike" .none (.str "law_pu0047_02" 622) (.ref 281))))
noncomputable def o285:Obj:=oT "tuple" (.seq #[.str "term" 696,.str "seen" 697,.str "named" 698,.str "sign" 699] 0)
noncomputable def o287:Obj:=oN (.func (fdT (stAt 20) (fO "_law_named" "_law_named" .none .none .none)))
noncomputable def o288:Obj:=oT "code" (.fields #[.str "_law_named" 693,.str "_law_named" 694,.str "/claim/cut.py" 695,.int 225 0,.int 1 0,i0,i0,.int 3 0,.ref 283,.bool true,.int 276 0,.ref 284,.none,.ref 285,.ref 286,.ref 287,.int 700 0,.int 225 0,.str "/claim/cut.py" 701])
noncomputable def o289:Obj:=oT "function" (.func (fdOf (stAt 20) (fO "_law_named" "_law_named" .none (.str "law_pu0047_02" 622) (.ref 288))))
noncomputable def o292:Obj:=oN (.func (fdT (stAt 21) (fO "_law_due" "_law_due" .none .none .none)))
noncomputable def o293:Obj:=oT "code" (.fields #[.str "_law_due" 703,.str "_law_due" 704,.str "/claim/cut.py" 705,.int 236 0,.int 1 0,i0,i0,.int 3 0,.ref 290,.bool true,.int 276 0,.ref 291,.none,.none,.none,.ref 292,.int 706 0,.int 236 0,.str "/claim/cut.py" 707])
noncomputable def o294:Obj:=oT "function" (.func (fdOf (stAt 21) (fO "_law_due" "_law_due" .none (.str "law_pu0047_02" 622) (.ref 293))))
noncomputable def o297:Obj:=oN (.func (fdT (stAt 22) (fO "law" "law" .none .none .none)))
noncomputable def o298:Obj:=oT "code" (.fields #[.str "law" 709,.str "law" 710,.str "/claim/cut.py" 711,.int 276 0,.int 1 0,i0,i0,.int 3 0,.ref 295,.bool true,.int 276 0,.ref 296,.none,.none,.none,.ref 297,.int 712 0,.int 276 0,.str "/claim/cut.py" 713])
noncomputable def o299:Obj:=oT "function" (.func (fdOf (stAt 22) (fO "law" "law" .none (.str "law_pu0047_02" 622) (.ref 298))))
noncomputable def Au(P:Params):Heap:={ objs:=#[o0 P,o1 P,o2 P,oe3 P,o4,o5,o6,o7,o8,o9,o10,o11 P,o12,o13 P,o14,o7,o16,o17,o18,o19,o20 P,o21 P,o22,o23,o24,o25,o26,o27,o7,oe29,o30,o31,o7,o8,o34,o7,o36,o37,o38,o7,o40,o41 P,o7,o43,o44,o45,o7,o8,o48,o7,o50,o51,o52,o7,o8,o55,o7,o57,o58,o59,o7,o8,o62,o7,o64,o65,o66,o7,o8,o69,o7,o71,o72,o73,o74,o75 P,o76,o77,o78,o79,o80,o7,o8,o83,o7,o85,o86,o87,o88,o6,o90,o91,o92,o93,o6,o90,o96,o97,o98,o6,o90,o101,o102,o103,o7,o8,o106,o7,o108,o109,o110,o7,o40,o113 P,o7,o115,o116,o117,o90,o7,o8,o121,o7,o123,o124,o125,o7,o8,o128,o7,o130,o131,o132,o7,o8,o135,o7,o137,o138,o139,o7,o8,o142,o7,o144,o145,o146,o7,o8,o149,o150,o151,o7,o8,o154,o7,o156,o157,o158,o7,o8,o161,o7,o163,o164,o165,o7,o8,o168,o169,o170,o90,o7,o8,o174,o7,o176,o177,o178,o7,o8,o181,o182,o183,o7,o8,o186,o187,o188,o7,o8,o191,o7,o193,o194,o195,o7,o8,o198,o7,o200,o201,o202,o7,o8,o205,o206,o207,o7,o8,o210,o7,o212,o213,o214,o7,o8,o217,o7,o219,o220,o221,o7,o8,o224,o7,o226,o227,o228,o229,o230 P,o231,o232,o233,o234,o235,o7,o8,o238,o239,o240,o7,o8,o243,o7,o245,o246,o247,o7,o8,o250,o7,o252,o253,o254,o7,o8,o257,o7,o259,o260,o261,o7,o8,o264,o7,o266,o267,o268,o7,o8,o271,o7,o273,o274,o275,o7,o8,o278,o7,o280,o281,o282,o7,o8,o285,o7,o287,o288,o289,o7,o8,o292,o293,o294,o7,o8,o297,o298,o299],life:={ registered:=[],finalised:=[],alive:=[],known:=0,ids:=[],orphanDicts:=[],counting:=false,cnt:=#[] } }
noncomputable def frag(P:Params):W.Frag:=[(0,o0 P),(1,o1 P),(3,oe3 P),(4,o4),(51,o51),(52,o52),(58,o58),(59,o59),(65,o65),(66,o66),(72,o72),(73,o73),(75,o75 P),(76,o76),(86,o86),(87,o87),(96,o96),(97,o97),(101,o101),(102,o102),(103,o103),(109,o109),(110,o110),(118,o90),(124,o124),(125,o125),(131,o131),(132,o132),(169,o169),(170,o170),(227,o227),(228,o228),(230,o230 P),(231,o231),(237,o8),(239,o239),(240,o240),(246,o246),(247,o247),(253,o253),(254,o254),(260,o260),(261,o261),(267,o267),(268,o268),(274,o274),(275,o275),(281,o281),(282,o282),(288,o288),(289,o289),(293,o293),(294,o294),(298,o298),(299,o299)]
noncomputable def ads:List Addr:=[0,1,3,4,51,52,58,59,65,66,72,73,75,76,86,87,96,97,101,102,103,109,110,118,124,125,131,132,169,170,227,228,230,231,237,239,240,246,247,253,254,260,261,267,268,274,275,281,282,288,289,293,294,298,299]
noncomputable def keep:List Nat:=[0,1,3,5,7,8,9,11,13,14,15,16,17,18,19,20,21,22]
noncomputable def loose:List Str:=["tspecials", "_name_disallowed_re", "_value_disallowed_re", "_formatparam"]
noncomputable def vw:Program:=PySem.W.view Challenge.pw_pu0047_02 keep
noncomputable abbrev xt:Shared→Bool:=fun s=>xlAt vw [] s && recOk (RowW.records (OpenRow.toRowW Challenge.rw_pu0047_02.row)) s
noncomputable def tenv:Env:={ scope:=Challenge.pw_pu0047_02.main.scope,locals:=mainNs,globals:=mainNs,cells:=[],code:=.ref 30,frame:=some 31 }
noncomputable def bd:List Stmt:=behindTheImports Challenge.pw_pu0047_02
noncomputable def cbd:Code:=.body bd tenv
noncomputable abbrev sh(h:Params→Heap)(k:Nat)(w:World)(os:OsState):Shared:=⟨h w.params,#[],{},k,os⟩
noncomputable abbrev tf:List Frame:=[topFrame { line:=0,col:=0,endLine:=0,endCol:=0 }]
theorem LV(w:World):(fencedOpening treeTable Challenge.pw_pu0047_02 w 3536).map (fun s=>(s.heap,s.gens,s.drawn,s.toks))=some (Bg w.params,#[],{},276):=by kernel_rfl
theorem LT(w:World):((Bg w.params).isNs mainGlobals && (#[]:Array GenState).size == 0,(Bg w.params).objs.size,(Bg w.params).nsMap mainGlobals "__annotations__")=(true,28,some (.ref 6)):=by kernel_rfl
theorem NF(w:World)(os:OsState):topGo treeTable Challenge.pw_pu0047_02 w 28 (some (.ref 6)) 12 (sh Bg 276 w os) (topStub Challenge.pw_pu0047_02)=some ((sh Cc 282 w os),⟨denote treeTable cbd,cbd,{ line:=0,col:=0,endLine:=0,endCol:=0 },tf⟩):=by kernel_rfl
theorem KC(w:World)(os:OsState):segRun treeTable Challenge.pw_pu0047_02 w 28 (some (.ref 6)) 1 1 (sh Cc 282 w os) (blockOf bd tenv cbd { line:=0,col:=0,endLine:=0,endCol:=0 } tf)=some (.next,(sh Cc 282 w os),cbd,{ line:=0,col:=0,endLine:=0,endCol:=0 }):=by kernel_rfl
theorem OP(w:World)(os:OsState):segRun treeTable Challenge.pw_pu0047_02 w 28 (some (.ref 6)) 1 39 (sh Cc 282 w os) (piecesOf ((bd.drop 0).take 2) tenv cbd { line:=0,col:=0,endLine:=0,endCol:=0 } tf)=some (.next,(sh Eu 291 w os),cbd,{ line:=5,col:=0,endLine:=5,endCol:=8 }):=by kernel_rfl
theorem OO(w:World)(os:OsState):segRun treeTable Challenge.pw_pu0047_02 w 28 (some (.ref 6)) 1 324 (sh Eu 291 w os) (piecesOf ((bd.drop 2).take 1) tenv cbd { line:=5,col:=0,endLine:=5,endCol:=8 } tf)=some (.next,(sh Et 349 w os),cbd,{ line:=6,col:=0,endLine:=48,endCol:=35 }):=by kernel_rfl
theorem ON(w:World)(os:OsState):segRun treeTable Challenge.pw_pu0047_02 w 28 (some (.ref 6)) 1 305 (sh Et 349 w os) (piecesOf ((bd.drop 3).take 7) tenv cbd { line:=6,col:=0,endLine:=48,endCol:=35 } tf)=some (.next,(sh Es 465 w os),cbd,{ line:=59,col:=0,endLine:=67,endCol:=20 }):=by kernel_rfl
theorem OM(w:World)(os:OsState):segRun treeTable Challenge.pw_pu0047_02 w 28 (some (.ref 6)) 1 727 (sh Es 465 w os) (piecesOf ((bd.drop 10).take 1) tenv cbd { line:=59,col:=0,endLine:=67,endCol:=20 } tf)=some (.next,(sh EQ 622 w os),cbd,{ line:=68,col:=0,endLine:=149,endCol:=93 }):=by kernel_rfl
theorem OL(w:World)(os:OsState):segRun treeTable Challenge.pw_pu0047_02 w 28 (some (.ref 6)) 1 315 (sh EQ 622 w os) (piecesOf ((bd.drop 11).take 11) tenv cbd { line:=68,col:=0,endLine:=149,endCol:=93 } tf)=some (.next,(sh Au 715 w os),cbd,{ line:=276,col:=0,endLine:=301,endCol:=99 }):=by kernel_rfl
theorem LW:bd=(((bd.drop 0).take 2)++(((bd.drop 2).take 1)++(((bd.drop 3).take 7)++(((bd.drop 10).take 1)++(((bd.drop 11).take 11)++[]))))):=by kernel_rfl
theorem NG(w:World)(os:OsState):topRun treeTable Challenge.pw_pu0047_02 w 28 (some (.ref 6)) 2 (sh Au 715 w os) ⟨doneF .next,cbd,{ line:=276,col:=0,endLine:=301,endCol:=99 },tf⟩=some (sh Au 715 w os):=by kernel_rfl
theorem LU(w:World)(os:OsState):topRun treeTable Challenge.pw_pu0047_02 w 28 (some (.ref 6)) (39+(324+(305+(727+(315+2))))) (sh Cc 282 w os) (restOf bd tenv cbd { line:=0,col:=0,endLine:=0,endCol:=0 } tf)=some (sh Au 715 w os):=by
 have h:=piece_app (OP w os) (piece_app (OO w os) (piece_app (ON w os) (piece_app (OM w os) (piece_app (OL w os) (piece_nil (NG w os))))))
 rw[← LW] at h
 exact h
theorem NE(w:World)(os:OsState):topRun treeTable Challenge.pw_pu0047_02 w 28 (some (.ref 6)) (12+(1+(39+(324+(305+(727+(315+2))))))) (sh Bg 276 w os) (topStub Challenge.pw_pu0047_02)=some (sh Au 715 w os):=go_top (NF w os) (piece_block (KC w os) (LU w os))
theorem KB(w:World):(fun os=>((staticsOk (importedModules Challenge.pw_pu0047_02.main.body) (Bg w.params) (Au w.params) && namesBound Challenge.pw_pu0047_02 (Au w.params) && gensDone (sh Au 715 w os) && laidKept (Bg w.params) (Au w.params)),
  openSeen vw loose (importedModules Challenge.pw_pu0047_02.main.body) xt true (sh Au 715 w os),obsZ ads (sh Au 715 w os)))=fun z=>(true,openGood vw loose,valZ frag 300 715 w):=by kernel_rfl
theorem hd_left:LeftO Challenge.pw_pu0047_02 vw loose xt (obsZ ads) (valZ frag 300 715) 3536:=LeftO.of_pieces LV LT NE (by decide) KB
theorem hd_keys(P:Params):ads=(frag P).map (·.1):=rfl
theorem hd_said:Challenge.rw_pu0047_02.wellSaid=true:=by decide +kernel
end Mine
open PySem PySem.W PySem.W.X PySem.W.ZRun PyProof.Rows
set_option tactic.hygienic true in
theorem PySem.Challenge.cw_pu0047_02_holds : PySem.Challenge.rw_pu0047_02.Holds := by
  w_on
  refine holds_law Mine.hd_said fun said=>?_
  refine holds_openX (q:=Mine.vw) (loose:=Mine.loose) (Xt:=Mine.xt) (XP:=XL Mine.vw []) (Yf:=obsZ Mine.ads) (Ya:=valZ Mine.frag 300 715) (N:=3536) Mine.hd_left (fun s e=>xl_of s (Bool.and_eq_true_iff.mp e).1) XL.keeps (by rfl) (by rfl) (by rfl) (fun s e=>recFacts_of (Bool.and_eq_true_iff.mp e).2) (by rfl) said (by decide +kernel) ⟨rfl,rfl,rfl,rfl,rfl,by decide +kernel⟩ ?hw ?hc
  case hw=>w_witness2
  intro w s₀ s₁ mg mb G y fa o pm cd doc dV kV ho hd hcd hD hmg hg args vals as L hpre hlay hrd hwl hlo
  obtain⟨ZA,ZI,ZN,ZT⟩:=z_facts Mine.hd_keys y
  have KX:(Mine.frag w.params).In s₁.heap:=InK.keeps w s₀.heap s₁.heap ZI (Laid.keeps L)
  refine Ground.open G ?_
  intro T B D TE TW
  wrow_args hpre hlay hrd hwl hlo
  obtain⟨hat,hsz⟩:=script_at L
  rw[ZN] at hat hsz
  subst hat
  x_fa T KX hmg
  all_lens
  rename_i w1' r0' hi9 hb9
  clear hd hcd hD
  have G3:s₁.heap.Ns 3 mg:=T.g
  have G0:s₁.heap.Ns 0 mb:=T.b
  have reP:∀ p∈([97,102]:List Addr),Mine.ReAt (Mine.KK Challenge.rw_pu0047_02.row.prog w s₁.heap) p∧∀ o,(Mine.KK Challenge.rw_pu0047_02.row.prog w s₁.heap).h0.get? p=some o→o.dict=none:=by
    intro p hp
    simp only[List.mem_cons,List.not_mem_nil,or_false] at hp
    rcases hp with rfl | rfl
    · refine⟨⟨⟨_,_,96,_,_,_,KX 97 _ rfl,rfl,rfl,rfl,rfl,rfl,KX 96 _ rfl,rfl,rfl,.inl (by kernel_rfl),(show(96:Addr)≠237 by decide)⟩,(show(97:Addr)≠237 by decide)⟩,fun o e=>?_⟩
      have e':=KX 97 _ rfl
      rw[e'] at e;cases e;rfl
    · refine⟨⟨⟨_,_,101,_,_,_,KX 102 _ rfl,rfl,rfl,rfl,rfl,rfl,KX 101 _ rfl,rfl,rfl,.inr (by kernel_rfl),(show(101:Addr)≠237 by decide)⟩,(show(102:Addr)≠237 by decide)⟩,fun o e=>?_⟩
      have e':=KX 102 _ rfl
      rw[e'] at e;cases e;rfl
  have N:Mine.S3 (Mine.KK Challenge.rw_pu0047_02.row.prog w s₁.heap) (Mine.Kcut (Mine.fragOf KX)) mg mb :=
    {
      G:=⟨G3,(show(3:Addr)≠237 by decide),G0,(show(0:Addr)≠237 by decide),T.nolimit,(show cStatics≠237 by decide)⟩
      X:=Mine.kf_of KX
      attrs:=rfl
      x_Headers__convert_string_type:=Mine.fnok_of KX (c:=131) (Mine.fnOf (Mine.fragOf KX) 132) rfl rfl rfl rfl rfl rfl (by decide) (by decide) rfl rfl rfl rfl rfl
      m_Headers__convert_string_type:=by kernel_rfl
      x_Headers_get_all:=Mine.fnok_of KX (c:=169) (Mine.fnOf (Mine.fragOf KX) 170) rfl rfl rfl rfl rfl rfl (by decide) (by decide) rfl rfl rfl rfl rfl
      m_Headers_get_all:=by kernel_rfl
      x__netrclex_push_token:=Mine.fnok_of KX (c:=72) (Mine.fnOf (Mine.fragOf KX) 73) rfl rfl rfl rfl rfl rfl (by decide) (by decide) rfl rfl rfl rfl rfl
      m__netrclex_push_token:=by kernel_rfl
      x_Headers_add_header:=Mine.fnok_of KX (c:=227) (Mine.fnOf (Mine.fragOf KX) 228) rfl rfl rfl rfl rfl rfl (by decide) (by decide) rfl rfl rfl rfl rfl
      m_Headers_add_header:=by kernel_rfl
      x__formatparam:=Mine.fnokD_of KX (c:=109) (Mine.fnOf (Mine.fragOf KX) 110) rfl rfl rfl rfl rfl rfl (by decide) (by decide) rfl rfl rfl rfl rfl
      bd__formatparam:=(by
        intro fd S a0 a1 a2 hd hk
        obtain⟨n1,n2,n3,n4,n5,n6,n7,n8,n9,n10,n11,n12,n13,n14,n15⟩:=fd
        subst hd;subst hk
        kernel_rfl)
      g__formatparam:=Mine.ns_of KX G3 (by kernel_rfl)
      x_Headers___init__:=Mine.fnokD_of KX (c:=124) (Mine.fnOf (Mine.fragOf KX) 125) rfl rfl rfl rfl rfl rfl (by decide) (by decide) rfl rfl rfl rfl rfl
      bd_Headers___init__:=(by
        intro fd S a0 a1 hd hk
        obtain⟨n1,n2,n3,n4,n5,n6,n7,n8,n9,n10,n11,n12,n13,n14,n15⟩:=fd
        subst hd;subst hk
        kernel_rfl)
      m_Headers___init__:=by kernel_rfl
      x__netrclex___init__:=Mine.fnok_of KX (c:=51) (Mine.fnOf (Mine.fragOf KX) 52) rfl rfl rfl rfl rfl rfl (by decide) (by decide) rfl rfl rfl rfl rfl
      m__netrclex___init__:=by kernel_rfl
      x__law_stream:=Mine.fnok_of KX (c:=239) (Mine.fnOf (Mine.fragOf KX) 240) rfl rfl rfl rfl rfl rfl (by decide) (by decide) rfl rfl rfl rfl rfl
      g__law_stream:=Mine.ns_of KX G3 (by kernel_rfl)
      x__law_parts:=Mine.fnok_of KX (c:=246) (Mine.fnOf (Mine.fragOf KX) 247) rfl rfl rfl rfl rfl rfl (by decide) (by decide) rfl rfl rfl rfl rfl
      g__law_parts:=Mine.ns_of KX G3 (by kernel_rfl)
      x__law_drawn:=Mine.fnok_of KX (c:=253) (Mine.fnOf (Mine.fragOf KX) 254) rfl rfl rfl rfl rfl rfl (by decide) (by decide) rfl rfl rfl rfl rfl
      g__law_drawn:=Mine.ns_of KX G3 (by kernel_rfl)
      x__netrclex__read_char:=Mine.fnok_of KX (c:=58) (Mine.fnOf (Mine.fragOf KX) 59) rfl rfl rfl rfl rfl rfl (by decide) (by decide) rfl rfl rfl rfl rfl
      m__netrclex__read_char:=by kernel_rfl
      x__netrclex_get_token:=Mine.fnok_of KX (c:=65) (Mine.fnOf (Mine.fragOf KX) 66) rfl rfl rfl rfl rfl rfl (by decide) (by decide) rfl rfl rfl rfl rfl
      m__netrclex_get_token:=by kernel_rfl
      x__law_term:=Mine.fnok_of KX (c:=260) (Mine.fnOf (Mine.fragOf KX) 261) rfl rfl rfl rfl rfl rfl (by decide) (by decide) rfl rfl rfl rfl rfl
      g__law_term:=Mine.ns_of KX G3 (by kernel_rfl)
      x__law_cut:=Mine.fnok_of KX (c:=267) (Mine.fnOf (Mine.fragOf KX) 268) rfl rfl rfl rfl rfl rfl (by decide) (by decide) rfl rfl rfl rfl rfl
      g__law_cut:=Mine.ns_of KX G3 (by kernel_rfl)
      x__law_named:=Mine.fnok_of KX (c:=288) (Mine.fnOf (Mine.fragOf KX) 289) rfl rfl rfl rfl rfl rfl (by decide) (by decide) rfl rfl rfl rfl rfl
      g__law_named:=Mine.ns_of KX G3 (by kernel_rfl)
      x__law_due:=Mine.fnok_of KX (c:=293) (Mine.fnOf (Mine.fragOf KX) 294) rfl rfl rfl rfl rfl rfl (by decide) (by decide) rfl rfl rfl rfl rfl
      g__law_due:=Mine.ns_of KX G3 (by kernel_rfl)
      x_replace:=Mine.fnok_of KX (c:=86) (Mine.fnOf (Mine.fragOf KX) 87) rfl rfl rfl rfl rfl rfl (by decide) (by decide) rfl rfl rfl rfl rfl
      g_replace:=Mine.ns_of KX G3 (by kernel_rfl)
      x__law_pairs:=Mine.fnok_of KX (c:=274) (Mine.fnOf (Mine.fragOf KX) 275) rfl rfl rfl rfl rfl rfl (by decide) (by decide) rfl rfl rfl rfl rfl
      g__law_pairs:=Mine.ns_of KX G3 (by kernel_rfl)
      x__law_made_alike:=Mine.fnok_of KX (c:=281) (Mine.fnOf (Mine.fragOf KX) 282) rfl rfl rfl rfl rfl rfl (by decide) (by decide) rfl rfl rfl rfl rfl
      g__law_made_alike:=Mine.ns_of KX G3 (by kernel_rfl)
      g_Headers:=Mine.ns_of KX G3 (by kernel_rfl)
      c_Headers:=by kernel_rfl
      f_Headers__headers:=by kernel_rfl
      g__netrclex:=Mine.ns_of KX G3 (by kernel_rfl)
      c__netrclex:=by kernel_rfl
      f__netrclex_lineno:=by kernel_rfl
      f__netrclex_instream:=by kernel_rfl
      f__netrclex_whitespace:=by kernel_rfl
      f__netrclex_pushback:=by kernel_rfl
      g__name_disallowed_re:=Mine.ns_of KX G3 (by kernel_rfl)
      g__value_disallowed_re:=Mine.ns_of KX G3 (by kernel_rfl)
      iter0:=Mine.ns_of KX G3 (by kernel_rfl)
      iter1:=Mine.ns_of KX G0 (by kernel_rfl)
      len0:=Mine.ns_of KX G3 (by kernel_rfl)
      len1:=Mine.ns_of KX G0 (by kernel_rfl)
      list0:=Mine.ns_of KX G3 (by kernel_rfl)
      list1:=Mine.ns_of KX G0 (by kernel_rfl)
      range0:=Mine.ns_of KX G3 (by kernel_rfl)
      range1:=Mine.ns_of KX G0 (by kernel_rfl)
      str0:=Mine.ns_of KX G3 (by kernel_rfl)
      str1:=Mine.ns_of KX G0 (by kernel_rfl)
      type0:=Mine.ns_of KX G3 (by kernel_rfl)
      type1:=Mine.ns_of KX G0 (by kernel_rfl)
      zip0:=Mine.ns_of KX G3 (by kernel_rfl)
      zip1:=Mine.ns_of KX G0 (by kernel_rfl)
      k_replace:=by kernel_rfl
      bd0_Headers___init__:=(by
        intro fd S a0 hd hk
        obtain⟨n1,n2,n3,n4,n5,n6,n7,n8,n9,n10,n11,n12,n13,n14,n15⟩:=fd
        subst hd;subst hk
        kernel_rfl)
      bd0__formatparam:=⟨455,by
        intro fd S a0 a1 hd hk
        obtain⟨n1,n2,n3,n4,n5,n6,n7,n8,n9,n10,n11,n12,n13,n14,n15⟩:=fd
        subst hd;subst hk
        kernel_rfl⟩
      sm:=⟨_,KX 1 _ rfl⟩
      rc:=rfl
      rcm:=by kernel_rfl
      rc1:=by kernel_rfl
      rc2:=by kernel_rfl
      ah1:=by kernel_rfl
      ah2:=by kernel_rfl
      rt:=Mine.read_text
      re:=reP
    }
  have SN:Mine.StreamNew (Mine.KK Challenge.rw_pu0047_02.row.prog w s₁.heap) mg 240 239 (Mine.fnOf (Mine.fragOf KX) 240) :=
    { X:=⟨⟨_,KX 240 _ rfl,rfl⟩,(show(240:Addr)≠237 by decide),rfl,⟨239,_,_,_,rfl,KX 239 _ rfl,rfl,rfl,(show(239:Addr)≠237 by decide)⟩,rfl,rfl,rfl,rfl,rfl,rfl⟩
      d1:=rfl
      d2:=rfl
      co:=rfl
      hd:=⟨_,_,_,_,_,_,_,_,_,KX 239 _ rfl,rfl,rfl,rfl,rfl,rfl,rfl,rfl,rfl,(show(239:Addr)≠237 by decide)⟩
      bl:=⟨4,_,Mine.ns_of KX G3 (by kernel_rfl),by decide,by decide,(show(4:Addr)≠237 by decide),KX 4 _ rfl,rfl,rfl,rfl⟩
      rp:=rfl
      rb:=rfl
      rs:=rfl
      tab:=fun _ e=>e }
  have eTB:=KX 237 _ rfl
  have H0:Mine.HRel (Mine.KK Challenge.rw_pu0047_02.row.prog w s₁.heap) [] [] s₁.heap :=
    ⟨⟨_,eTB⟩,fun _ _ e _=>e,⟨#[],rfl,eTB⟩,rfl,List.nodup_nil,(fun _ h=>by cases h),(fun _ h=>by cases h),(fun _ h=>by cases h),(fun _ _ _ h=>by cases h)⟩
  have FX:Mine.FnOk (Mine.KK Challenge.rw_pu0047_02.row.prog w s₁.heap) 299 (Mine.stAt 22) :=
    Mine.fnok_of KX (c:=298) (Mine.fnOf (Mine.fragOf KX) 299) rfl rfl rfl rfl rfl rfl (by decide) (by decide) rfl rfl rfl rfl rfl
  have hv:=Mine.well_vr (by assumption)
  refine wpAny_mono (Mine.law2_end N SN FX H0 ⟨239,_,_,KX 239 _ rfl,rfl,rfl,rfl⟩ eTB hb9.2 hv) ?_ (fun _ _ x=>x)
  rintro v s' ⟨rfl,a,b,c⟩
  exact⟨.inl ⟨.bool true,.bool true,[],rfl,(fun _=>rfl),.bool true,(by kernel_rfl),fun _=>⟨List.nodup_nil,fun _ h=>by cases h⟩⟩,a,b,AllBare.of_eq (c.trans hg)⟩
